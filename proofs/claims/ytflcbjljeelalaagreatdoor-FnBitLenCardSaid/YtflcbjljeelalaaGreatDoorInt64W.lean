/- The walks of the laws FnInt64Val and FnBitLen. -/
import Derived.Test.YtflcbjljeelalaaGreatDoorWhole
import Derived.Deep.RegionHeld3
namespace Go.Proofs.YtflcbjljeelalaaGreatDoor
open Go.RowKit
/-- The box of the argument, later. -/
def BoxAt (w : World) (box : Array Value) (W : World) : Prop := Blk W w.heap.size 26 box ∧ Below w.heap.size w W
theorem BoxAt.start (w : World) (box : Array Value) : BoxAt w box (w.alloc (.cells box 26)) := ⟨Blk.new _ _ _, below1 _ _⟩
theorem BoxAt.below {w W W' : World} {box : Array Value} (h : BoxAt w box W) (hb : Below W.heap.size W W') : BoxAt w box W' := ⟨h.1.below hb h.1.lt, h.2.trans (hb.mono h.2.size)⟩
theorem BoxAt.drew {w W : World} {box : Array Value} (h : BoxAt w box W) : BoxAt w box W.drew := ⟨h.1, h.2.drew⟩
theorem BoxAt.alloc {w W : World} {box : Array Value} (h : BoxAt w box W) (o : Obj) : BoxAt w box (W.alloc o) := h.below (below1 _ _)
theorem dlen_le {ws : List Nat} (hws : ∀ x ∈ ws, x < Dg.W64) {m : Nat} (hm : ws.length ≤ m) : (Dg.digs 65536 (Dg.val Dg.W64 ws)).length ≤ 4 * m := by
  have e1 : Dg.val Dg.W64 ws < 65536 ^ (4 * ws.length) := by rw [← Dg.W64_pow]; exact Dg.val_lt ws hws
  have := Dg.digs_len_le (B := 65536) (by omega) e1
  omega
set_option maxRecDepth 100000 in
set_option maxHeartbeats 3200000 in
theorem int64Val_walk (k : Int) (t : Bool) (s : ByteArray) (neg ineg : Bool) (ws : List Nat) (hws : ∀ x ∈ ws, x < Dg.W64) (A A2 A3 A4 : Option Addr) (n c n2 c2 n3 c3 n4 c4 : Nat) (w : World) (hv : Rd w (.slice A n c) (cU ws)) :
    Calls Tryz.prog 3 #[.agg #[.int .i64 k, .bool t, .string s, .bool neg, .slice A n c, .slice A2 n2 c2, .bool ineg, .slice A3 n3 c3, .slice A4 n4 c4]] w (fun e w' => e = .returned (.bool true) ∧ Below w.heap.size w w') := by
  obtain ⟨box, hbox⟩ : ∃ box : Array Value, box = #[.int .i64 k, .bool t, .string s, .bool neg, .slice A n c, .slice A2 n2 c2, .bool ineg, .slice A3 n3 c3, .slice A4 n4 c4] := ⟨_, rfl⟩
  have HS := hide (BoxAt.start w box)
  have hl : ws.length = n := by
    obtain ⟨_, _, e, _⟩ := hv.any
    injection e with _ e2 _
    rw [e2, cU_len]
  have C1 := hide (zzFits1_some k t s neg ineg A A2 A3 A4 n c n2 c2 n3 c3 n4 c4)
  rw [hbox] at HS
  clear hbox
  by_cases hn : n ≤ 40
  · have C2 : Hid (∀ W : World, Below w.heap.size w W → Calls Tryz.prog 6 #[.agg #[.int .i64 k, .bool t, .string s, .bool neg, .slice A n c, .slice A2 n2 c2, .bool ineg, .slice A3 n3 c3, .slice A4 n4 c4], .int .i64 40] W (IntegerOut k neg (Dg.val Dg.W64 ws) _ W)) :=
      fun W hB => whole_few k t s neg ineg ws hws A A2 A3 A4 n c n2 c2 n3 c3 n4 c4 40 (by omega) hn W (hv.below hB)
    have C3 : Hid (∀ W : World, Below w.heap.size w W → Calls Tryz.prog 7 #[.agg #[.int .i64 3, .bool t, .string s, .bool neg, .slice A n c, .slice A2 n2 c2, .bool ineg, .slice A3 n3 c3, .slice A4 n4 c4]] W _) :=
      fun W hB => implInt64Val_any t s neg ws hws (by omega) ineg A A2 A3 A4 n c n2 c2 n3 c3 n4 c4 W (hv.below hB)
    have HL := hide (dlen_le hws (by omega : ws.length ≤ 40))
    generalize Dg.val Dg.W64 ws = V at *
    clear hv hws hl hn
    go_enter Tryz.func3, Tryz.ntmps3
    go_wp2_with fail
    refine (C1.out _).mono ?_
    rintro e w1 ⟨⟨b, rfl⟩, hb1⟩
    have H1 := hide (HS.out.below hb1)
    clear hb1
    cases b
    · go_wp2
      go_ret
      exact ⟨rfl, H1.out.2⟩
    · have x0 := H1.out.1.cell 0; have x1 := H1.out.1.cell 1; have x2 := H1.out.1.cell 2; have x3 := H1.out.1.cell 3; have x4 := H1.out.1.cell 4
      have x5 := H1.out.1.cell 5; have x6 := H1.out.1.cell 6; have x7 := H1.out.1.cell 7; have x8 := H1.out.1.cell 8
      simp only [List.getElem?_toArray, List.getElem?_cons_zero, List.getElem?_cons_succ] at x0 x1 x2 x3 x4 x5 x6 x7 x8
      go_wp2_with fail
      refine (C2.out _ H1.out.2).mono ?_
      rintro e w2 ⟨ng, b, B1, B2, m1, d1, m2, d2, rfl, hout, hgd, hb2⟩
      have H2 := hide (H1.out.below hb2)
      have Hout := hide hout
      clear hout hgd hb2 x0 x1 x2 x3 x4 x5 x6 x7 x8
      cases b
      · go_wp2
        go_ret
        exact ⟨rfl, H2.out.2.alloc H2.out.2.size _⟩
      · obtain ⟨rfl, rfl, hr1, hr2⟩ := Hout.out rfl
        have Hr1 := hide hr1
        clear Hout hr1 hr2
        have hng : Hid (∀ h : (neg && decide (0 < V)) = true, 0 < V) := fun h => by simp at h; exact h.2
        generalize hN : (neg && decide (0 < V)) = N at *
        clear hN
        have H3 := hide (H2.out.alloc (Obj.cells #[.bool N, .slice B1 m1 d1, .slice B2 m2 d2] 31))
        have x0 := H3.out.1.cell 0; have x1 := H3.out.1.cell 1; have x2 := H3.out.1.cell 2; have x3 := H3.out.1.cell 3; have x4 := H3.out.1.cell 4
        have x5 := H3.out.1.cell 5; have x6 := H3.out.1.cell 6; have x7 := H3.out.1.cell 7; have x8 := H3.out.1.cell 8
        simp only [List.getElem?_toArray, List.getElem?_cons_zero, List.getElem?_cons_succ] at x0 x1 x2 x3 x4 x5 x6 x7 x8
        go_wp2_with fail
        refine (C3.out _ H3.out.2).mono ?_
        rintro e w3 ⟨⟨z, rfl, hz⟩, hb3⟩
        have H4 := hide (H3.out.below hb3)
        have hk := (Blk.new w2 31 #[.bool N, .slice B1 m1 d1, .slice B2 m2 d2]).below hb3 (by simp)
        have y0 := hk.cell 0; have y1 := hk.cell 1; have y2 := hk.cell 2
        simp only [List.getElem?_toArray, List.getElem?_cons_zero, List.getElem?_cons_succ] at y0 y1 y2
        have Hr3 := hide ((Hr1.out.alloc (Obj.cells #[.bool N, .slice B1 m1 d1, .slice B2 m2 d2] 31)).below hb3)
        have Hz := hide hz
        have C5 : Hid (∀ W, Rd W (.slice B1 m1 d1) (cI (Dg.digs 65536 V)) → Calls Tryz.prog 8 #[.int .i64 z, .bool (fitsI (sgn N V)), .agg #[.bool N, .slice B1 m1 d1, .slice B2 m2 d2]] W (fun e w' => e = .returned (.bool true) ∧ Below W.heap.size W w')) := by
          intro W hR
          have hval := Dg.val_digs (B := 65536) (by omega) V
          refine fits_any z (fitsI (sgn N V)) N _ (Dg.can_digs (by omega) V) (by have := HL.out; omega) ?_ ?_ ?_ W B1 m1 d1 B2 m2 d2 hR
          · rw [hval]; exact hng.out
          · rw [hval]; exact fitsI_sgn N V
          · rw [hval]; exact Hz.out
        generalize fitsI (sgn N V) = F at *
        clear hz hk hb3 x0 x1 x2 x3 x4 x5 x6 x7 x8
        go_wp2_with fail
        refine (C5.out _ Hr3.out).mono ?_
        rintro e w4 ⟨rfl, hb4⟩
        have H5 := hide (H4.out.below hb4)
        go_wp2
        go_ret
        exact ⟨rfl, H5.out.2⟩
  · have C2 : Hid (∀ W : World, Calls Tryz.prog 6 #[.agg #[.int .i64 k, .bool t, .string s, .bool neg, .slice A n c, .slice A2 n2 c2, .bool ineg, .slice A3 n3 c3, .slice A4 n4 c4], .int .i64 40] W (fun e w' => e = .returned (.tuple #[.agg #[.bool false, .slice none 0 0, .slice none 0 0], .bool false]) ∧ Below W.heap.size W w')) :=
      fun W => whole_long k t s neg ineg A A2 A3 A4 n c n2 c2 n3 c3 n4 c4 40 (by omega) W
    clear hv hws hl hn
    go_enter Tryz.func3, Tryz.ntmps3
    go_wp2_with fail
    refine (C1.out _).mono ?_
    rintro e w1 ⟨⟨b, rfl⟩, hb1⟩
    have H1 := hide (HS.out.below hb1)
    clear hb1
    cases b
    · go_wp2
      go_ret
      exact ⟨rfl, H1.out.2⟩
    · have x0 := H1.out.1.cell 0; have x1 := H1.out.1.cell 1; have x2 := H1.out.1.cell 2; have x3 := H1.out.1.cell 3; have x4 := H1.out.1.cell 4
      have x5 := H1.out.1.cell 5; have x6 := H1.out.1.cell 6; have x7 := H1.out.1.cell 7; have x8 := H1.out.1.cell 8
      simp only [List.getElem?_toArray, List.getElem?_cons_zero, List.getElem?_cons_succ] at x0 x1 x2 x3 x4 x5 x6 x7 x8
      go_wp2_with fail
      refine (C2.out _).mono ?_
      rintro e w2 ⟨rfl, hb2⟩
      have H2 := hide (H1.out.below hb2)
      go_wp2
      go_ret
      exact ⟨rfl, H2.out.2.alloc H2.out.2.size _⟩
set_option maxRecDepth 100000 in
set_option maxHeartbeats 3200000 in
theorem bitLen_walk (k : Int) (t : Bool) (s : ByteArray) (neg ineg : Bool) (ws : List Nat) (hws : ∀ x ∈ ws, x < Dg.W64) (A A2 A3 A4 : Option Addr) (n c n2 c2 n3 c3 n4 c4 : Nat) (w : World) (hv : Rd w (.slice A n c) (cU ws)) :
    Calls Tryz.prog 4 #[.agg #[.int .i64 k, .bool t, .string s, .bool neg, .slice A n c, .slice A2 n2 c2, .bool ineg, .slice A3 n3 c3, .slice A4 n4 c4]] w (fun e w' => e = .returned (.bool true) ∧ Below w.heap.size w w') := by
  obtain ⟨box, hbox⟩ : ∃ box : Array Value, box = #[.int .i64 k, .bool t, .string s, .bool neg, .slice A n c, .slice A2 n2 c2, .bool ineg, .slice A3 n3 c3, .slice A4 n4 c4] := ⟨_, rfl⟩
  have HS := hide (BoxAt.start w box)
  have hl : ws.length = n := by
    obtain ⟨_, _, e, _⟩ := hv.any
    injection e with _ e2 _
    rw [e2, cU_len]
  have C1 := hide (zzFits1_some k t s neg ineg A A2 A3 A4 n c n2 c2 n3 c3 n4 c4)
  rw [hbox] at HS
  clear hbox
  by_cases hn : n ≤ 40
  · have C2 : Hid (∀ W : World, Below w.heap.size w W → Calls Tryz.prog 6 #[.agg #[.int .i64 k, .bool t, .string s, .bool neg, .slice A n c, .slice A2 n2 c2, .bool ineg, .slice A3 n3 c3, .slice A4 n4 c4], .int .i64 40] W (IntegerOut k neg (Dg.val Dg.W64 ws) _ W)) :=
      fun W hB => whole_few k t s neg ineg ws hws A A2 A3 A4 n c n2 c2 n3 c3 n4 c4 40 (by omega) hn W (hv.below hB)
    have C3 : Hid (∀ W : World, Below w.heap.size w W → Calls Tryz.prog 9 #[.agg #[.int .i64 3, .bool t, .string s, .bool neg, .slice A n c, .slice A2 n2 c2, .bool ineg, .slice A3 n3 c3, .slice A4 n4 c4]] W _) :=
      fun W hB => implBitLen_any t s neg ws hws (by omega) ineg A A2 A3 A4 n c n2 c2 n3 c3 n4 c4 W (hv.below hB)
    have HL := hide (dlen_le hws (by omega : ws.length ≤ 40))
    generalize Dg.val Dg.W64 ws = V at *
    clear hv hws hl hn
    go_enter Tryz.func4, Tryz.ntmps4
    go_wp2_with fail
    refine (C1.out _).mono ?_
    rintro e w1 ⟨⟨b, rfl⟩, hb1⟩
    have H1 := hide (HS.out.below hb1)
    clear hb1
    cases b
    · go_wp2
      go_ret
      exact ⟨rfl, H1.out.2⟩
    · have x0 := H1.out.1.cell 0; have x1 := H1.out.1.cell 1; have x2 := H1.out.1.cell 2; have x3 := H1.out.1.cell 3; have x4 := H1.out.1.cell 4
      have x5 := H1.out.1.cell 5; have x6 := H1.out.1.cell 6; have x7 := H1.out.1.cell 7; have x8 := H1.out.1.cell 8
      simp only [List.getElem?_toArray, List.getElem?_cons_zero, List.getElem?_cons_succ] at x0 x1 x2 x3 x4 x5 x6 x7 x8
      go_wp2_with fail
      refine (C2.out _ H1.out.2).mono ?_
      rintro e w2 ⟨ng, b, B1, B2, m1, d1, m2, d2, rfl, hout, hgd, hb2⟩
      have H2 := hide (H1.out.below hb2)
      have Hout := hide hout
      clear hout hgd hb2 x0 x1 x2 x3 x4 x5 x6 x7 x8
      cases b
      · go_wp2_with fail
        go_quiet (fail)
        go_wp2
        go_ret
        exact ⟨rfl, belowN (H2.out.2.alloc H2.out.2.size _) _⟩
      · obtain ⟨rfl, rfl, hr1, hr2⟩ := Hout.out rfl
        have Hr1 := hide hr1
        clear Hout hr1 hr2
        generalize hN : (neg && decide (0 < V)) = N at *
        clear hN
        have H3 := hide (H2.out.alloc (Obj.cells #[.bool N, .slice B1 m1 d1, .slice B2 m2 d2] 31))
        have Hk := hide (Blk.new w2 31 #[.bool N, .slice B1 m1 d1, .slice B2 m2 d2])
        have Hr3 := hide (Hr1.out.alloc (Obj.cells #[.bool N, .slice B1 m1 d1, .slice B2 m2 d2] 31))
        have C4 : Hid (∀ W, Rd W (.slice B1 m1 d1) (cI (Dg.digs 65536 V)) → Calls Tryz.prog 10 #[.slice B1 m1 d1] W (fun e w' => e = .returned (.int .i64 ((Dg.bl V : Nat) : Int)) ∧ W = w')) := by
          intro W hR
          have := len_any _ (Dg.can_digs (B := 65536) (by omega) V) (by have := HL.out; omega) W _ hR
          rw [Dg.val_digs (by omega)] at this
          exact this
        obtain ⟨g, hg⟩ : ∃ g, g = w2.heap.size := ⟨_, rfl⟩
        obtain ⟨W3, hW3⟩ : ∃ W3, W3 = w2.alloc (Obj.cells #[.bool N, .slice B1 m1 d1, .slice B2 m2 d2] 31) := ⟨_, rfl⟩
        rw [← hW3] at H3 Hk Hr3
        rw [← hg] at Hk
        have KC := hide fun (w' : World) (hI : BoxAt w #[.int .i64 3, .bool t, .string s, .bool neg, .slice A n c, .slice A2 n2 c2, .bool ineg, .slice A3 n3 c3, .slice A4 n4 c4] w') (hb : Blk w' g 31 #[.bool N, .slice B1 m1 d1, .slice B2 m2 d2]) =>
          (show w'.cell? ⟨w.heap.size, 0, none⟩ = some (.int .i64 3) ∧ w'.cell? ⟨w.heap.size, 1, none⟩ = some (.bool t) ∧ w'.cell? ⟨w.heap.size, 2, none⟩ = some (.string s) ∧ w'.cell? ⟨w.heap.size, 3, none⟩ = some (.bool neg) ∧ w'.cell? ⟨w.heap.size, 4, none⟩ = some (.slice A n c) ∧ w'.cell? ⟨w.heap.size, 5, none⟩ = some (.slice A2 n2 c2) ∧ w'.cell? ⟨w.heap.size, 6, none⟩ = some (.bool ineg) ∧ w'.cell? ⟨w.heap.size, 7, none⟩ = some (.slice A3 n3 c3) ∧ w'.cell? ⟨w.heap.size, 8, none⟩ = some (.slice A4 n4 c4) ∧ w'.cell? ⟨g, 1, none⟩ = some (.slice B1 m1 d1) from
            ⟨hI.1.cell 0, hI.1.cell 1, hI.1.cell 2, hI.1.cell 3, hI.1.cell 4, hI.1.cell 5, hI.1.cell 6, hI.1.cell 7, hI.1.cell 8, hb.cell 1⟩)
        have HW3 := hide hW3
        have Hg := hide hg
        clear hW3 hg
        go_upto_region 4 with fail
        rw [← HW3.out, ← Hg.out]
        go_region_held3 (fun w' => w'.cell? ⟨w.heap.size, 0, none⟩ = some (.int .i64 3) ∧ w'.cell? ⟨w.heap.size, 1, none⟩ = some (.bool t) ∧ w'.cell? ⟨w.heap.size, 2, none⟩ = some (.string s) ∧ w'.cell? ⟨w.heap.size, 3, none⟩ = some (.bool neg) ∧ w'.cell? ⟨w.heap.size, 4, none⟩ = some (.slice A n c) ∧ w'.cell? ⟨w.heap.size, 5, none⟩ = some (.slice A2 n2 c2) ∧ w'.cell? ⟨w.heap.size, 6, none⟩ = some (.bool ineg) ∧ w'.cell? ⟨w.heap.size, 7, none⟩ = some (.slice A3 n3 c3) ∧ w'.cell? ⟨w.heap.size, 8, none⟩ = some (.slice A4 n4 c4) ∧ w'.cell? ⟨g, 1, none⟩ = some (.slice B1 m1 d1))
          (first | exact KC.out _ H3.out.drew Hk.out.drew | exact KC.out _ H4.out K4.out | assumption | go_keep)
          (first
            | (go_at_call 9; refine (C3.out _ H3.out.2.drew).mono ?_; rintro e w4 ⟨rfl, hb4⟩; have H4 := hide (H3.out.drew.below hb4); have K4 := hide (Hk.out.drew.below hb4 Hk.out.lt); have R4 := hide (Hr3.out.drew.below hb4))
            | (go_at_call 10; refine (C4.out _ (by first | exact R4.out | exact Hr3.out.drew)).mono ?_; rintro e w5 ⟨rfl, rfl⟩))
        all_goals
          go_wp2
          go_ret
          exact ⟨rfl, H4.out.2⟩
  · have C2 : Hid (∀ W : World, Calls Tryz.prog 6 #[.agg #[.int .i64 k, .bool t, .string s, .bool neg, .slice A n c, .slice A2 n2 c2, .bool ineg, .slice A3 n3 c3, .slice A4 n4 c4], .int .i64 40] W (fun e w' => e = .returned (.tuple #[.agg #[.bool false, .slice none 0 0, .slice none 0 0], .bool false]) ∧ Below W.heap.size W w')) :=
      fun W => whole_long k t s neg ineg A A2 A3 A4 n c n2 c2 n3 c3 n4 c4 40 (by omega) W
    clear hv hws hl hn
    go_enter Tryz.func4, Tryz.ntmps4
    go_wp2_with fail
    refine (C1.out _).mono ?_
    rintro e w1 ⟨⟨b, rfl⟩, hb1⟩
    have H1 := hide (HS.out.below hb1)
    clear hb1
    cases b
    · go_wp2
      go_ret
      exact ⟨rfl, H1.out.2⟩
    · have x0 := H1.out.1.cell 0; have x1 := H1.out.1.cell 1; have x2 := H1.out.1.cell 2; have x3 := H1.out.1.cell 3; have x4 := H1.out.1.cell 4
      have x5 := H1.out.1.cell 5; have x6 := H1.out.1.cell 6; have x7 := H1.out.1.cell 7; have x8 := H1.out.1.cell 8
      simp only [List.getElem?_toArray, List.getElem?_cons_zero, List.getElem?_cons_succ] at x0 x1 x2 x3 x4 x5 x6 x7 x8
      go_wp2_with fail
      refine (C2.out _).mono ?_
      rintro e w2 ⟨rfl, hb2⟩
      have H2 := hide (H1.out.below hb2)
      go_wp2_with fail
      go_quiet (fail)
      go_wp2
      go_ret
      exact ⟨rfl, belowN (H2.out.2.alloc H2.out.2.size _) _⟩
end Go.Proofs.YtflcbjljeelalaaGreatDoor
