/- The laws' rational; the walk of the law FnFloatSign. -/
import Derived.Test.YtgooioafmddneabGreatDoorRatS
import Derived.Test.YtgooioafmddneabGreatDoorRatnl
import Derived.Test.YtgooioafmddneabGreatDoorZz
import Derived.BigQuiet
import Derived.Deep.QuietTactic
namespace Go.Proofs.YtgooioafmddneabGreatDoor
open Go.RowKit
/-- What the laws' rational answers. -/
def LawRat (k : Int) (neg : Bool) (V D n n2 : Nat) (w : World) (e : Ending) (w' : World) : Prop :=
  ∃ (ng b : Bool) (B1 B2 : Option Addr) (m1 d1 m2 d2 : Nat), e = .returned (.tuple #[.agg #[.bool ng, .slice B1 m1 d1, .slice B2 m2 d2], .bool b]) ∧
    (b = true → n ≤ 20 ∧ n2 ≤ 20 ∧ k = 4 ∧ ng = neg ∧ (neg = true → 0 < V) ∧ 0 < D ∧ Rd w' (.slice B1 m1 d1) (cI (Dg.digs 65536 V))) ∧ Below w.heap.size w w'
set_option maxRecDepth 100000 in
set_option maxHeartbeats 3200000 in
theorem lawRational_any (k : Int) (t : Bool) (s : ByteArray) (neg ineg : Bool) (ws den : List Nat) (hws : ∀ x ∈ ws, x < Dg.W64) (hden : ∀ x ∈ den, x < Dg.W64) (A A2 A3 A4 : Option Addr) (n c n2 c2 n3 c3 n4 c4 : Nat) (w : World) (hv : Rd w (.slice A n c) (cU ws)) (hv2 : Rd w (.slice A2 n2 c2) (cU den)) :
    Calls Tryz.prog 5 #[.agg #[.int .i64 k, .bool t, .string s, .bool neg, .slice A n c, .slice A2 n2 c2, .bool ineg, .slice A3 n3 c3, .slice A4 n4 c4], .int .i64 20] w (LawRat k neg (Dg.val Dg.W64 ws) (Dg.val Dg.W64 den) n n2 w) := by
  have hl : ws.length = n := by
    obtain ⟨_, _, e, _⟩ := hv.any
    injection e with _ e2 _
    rw [e2, cU_len]
  have hl2 : den.length = n2 := by
    obtain ⟨_, _, e, _⟩ := hv2.any
    injection e with _ e2 _
    rw [e2, cU_len]
  have HI := hide (VInv.start w #[.int .i64 k, .bool t, .string s, .bool neg, .slice A n c, .slice A2 n2 c2, .bool ineg, .slice A3 n3 c3, .slice A4 n4 c4])
  by_cases h1 : n ≤ 20 ∧ n2 ≤ 20
  · have CR : Hid (∀ W, Below w.heap.size w W → Calls Tryz.prog 9 #[.agg #[.int .i64 k, .bool t, .string s, .bool neg, .slice A n c, .slice A2 n2 c2, .bool ineg, .slice A3 n3 c3, .slice A4 n4 c4]] W
        (fun e w' => ∃ (ng b : Bool) (B1 B2 : Option Addr) (m1 d1 m2 d2 : Nat), e = .returned (.tuple #[.agg #[.bool ng, .slice B1 m1 d1, .slice B2 m2 d2], .bool b]) ∧ (b = true → k = 4 ∧ ng = neg ∧ (neg = true → 0 < Dg.val Dg.W64 ws) ∧ 0 < Dg.val Dg.W64 den ∧ Rd w' (.slice B1 m1 d1) (cI (Dg.digs 65536 (Dg.val Dg.W64 ws)))) ∧ Below W.heap.size W w')) := by
      intro W hB
      by_cases hk : k = 4
      · subst hk
        refine (rational_any t s neg ineg ws den hws (by omega) hden (by omega) A A2 A3 A4 n c n2 c2 n3 c3 n4 c4 W (hv.below hB) (hv2.below hB)).mono ?_
        rintro e w' ⟨ng, b, B1, B2, m1, d1, m2, d2, he, hout, hb⟩
        exact ⟨ng, b, B1, B2, m1, d1, m2, d2, he, fun h => ⟨rfl, hout h⟩, hb⟩
      · refine (rational_kind k hk t s neg ineg A A2 A3 A4 n c n2 c2 n3 c3 n4 c4 W).mono ?_
        rintro e w' ⟨he, hb⟩
        exact ⟨_, _, _, _, _, _, _, _, he, (fun h => by cases h), hb⟩
    generalize Dg.val Dg.W64 ws = V at *
    generalize Dg.val Dg.W64 den = D at *
    have HN := hide h1
    obtain ⟨hn1, hn2⟩ := h1
    have g1 : ¬ (20 : Int) < (n : Int) := by omega
    have g2 : ¬ (20 : Int) < (n2 : Int) := by omega
    clear hv hv2 hws hden hl hl2
    go_enter Tryz.func5, Tryz.ntmps5
    go_wp2_with fail
    refine (CR.out _ HI.out.2.2).mono ?_
    rintro e w2 ⟨ng, b, B1, B2, m1, d1, m2, d2, rfl, hout, hb2⟩
    replace HI := hide (HI.out.below hb2)
    have Hout := hide hout
    clear hb2 hout
    have z0 := HI.out.2.1.cell 0
    have z1 := HI.out.2.1.cell 1
    have z2 := HI.out.2.1.cell 2
    have q0 := HI.out.2.1.frozen 0
    have q1 := HI.out.2.1.frozen 1
    have q2 := HI.out.2.1.frozen 2
    simp only [List.getElem?_toArray, List.getElem?_cons_zero, List.getElem?_cons_succ] at z0 z1 z2
    go_wp2_with fail
    obtain ⟨e1, e2, e3, e4, e5⟩ := vinv_end (B2 := B2) (m2 := m2) (d2 := d2) HI.out (fun h => (Hout.out h).2) rfl
    unfold put3 at e1 e2 e3
    refine bodyPost_ret (v := .tuple #[.agg #[.bool ng, .slice B1 m1 d1, .slice B2 m2 d2], .bool b]) (by simp [results, Tryz.results5, go_sem, e1, e2, e3]) rfl ?_
    exact ⟨_, _, _, _, _, _, _, _, rfl, fun h => ⟨HN.out.1, HN.out.2, (Hout.out h).1, e4 h⟩, e5⟩
  · generalize Dg.val Dg.W64 ws = V at *
    generalize Dg.val Dg.W64 den = D at *
    clear hv hv2 hws hden hl hl2
    by_cases h2 : 20 < n
    all_goals
      have h3 : n2 ≤ 20 ∨ 20 < n2 := by omega
      clear HI
    · clear h1 h3
      go_enter Tryz.func5, Tryz.ntmps5
      go_wp2_with fail
      have hb := Blk.new (w.alloc (Obj.cells #[.int .i64 k, .bool t, .string s, .bool neg, .slice A n c, .slice A2 n2 c2, .bool ineg, .slice A3 n3 c3, .slice A4 n4 c4] 26)) 31 #[.bool false, .slice none 0 0, .slice none 0 0]
      rw [World.size_alloc] at hb
      have c0 := hb.cell 0
      have c1 := hb.cell 1
      have c2' := hb.cell 2
      refine bodyPost_ret (v := .tuple #[.agg #[.bool false, .slice none 0 0, .slice none 0 0], .bool false]) (by simp [results, Tryz.results5, go_sem, c0, c1, c2']) rfl ?_
      exact ⟨_, _, _, _, _, _, _, _, rfl, (fun h => by cases h), (below1 _ _).alloc (by simp) _⟩
    · have h4 : 20 < n2 := by omega
      have h5 : n ≤ 20 := by omega
      clear h1 h3 h2
      go_enter Tryz.func5, Tryz.ntmps5
      go_wp2_with fail
      have hb := Blk.new (w.alloc (Obj.cells #[.int .i64 k, .bool t, .string s, .bool neg, .slice A n c, .slice A2 n2 c2, .bool ineg, .slice A3 n3 c3, .slice A4 n4 c4] 26)) 31 #[.bool false, .slice none 0 0, .slice none 0 0]
      rw [World.size_alloc] at hb
      have c0 := hb.cell 0
      have c1 := hb.cell 1
      have c2' := hb.cell 2
      refine bodyPost_ret (v := .tuple #[.agg #[.bool false, .slice none 0 0, .slice none 0 0], .bool false]) (by simp [results, Tryz.results5, go_sem, c0, c1, c2']) rfl ?_
      exact ⟨_, _, _, _, _, _, _, _, rfl, (fun h => by cases h), (below1 _ _).alloc (by simp) _⟩
/-- The box of the argument, later. -/
def BoxF (w : World) (box : Array Value) (W : World) : Prop := Blk W w.heap.size 26 box ∧ Below w.heap.size w W
theorem BoxF.start (w : World) (box : Array Value) : BoxF w box (w.alloc (.cells box 26)) := ⟨Blk.new _ _ _, below1 _ _⟩
theorem BoxF.below {w W W' : World} {box : Array Value} (h : BoxF w box W) (hb : Below W.heap.size W W') : BoxF w box W' := ⟨h.1.below hb h.1.lt, h.2.trans (hb.mono h.2.size)⟩
theorem BoxF.drew {w W : World} {box : Array Value} (h : BoxF w box W) : BoxF w box W.drew := ⟨h.1, h.2.drew⟩
theorem BoxF.alloc {w W : World} {box : Array Value} (h : BoxF w box W) (o : Obj) : BoxF w box (W.alloc o) := h.below (below1 _ _)
set_option maxRecDepth 100000 in
set_option maxHeartbeats 3200000 in
theorem floatSign_walk (k : Int) (t : Bool) (s : ByteArray) (neg ineg : Bool) (ws : List Nat) (hws : ∀ x ∈ ws, x < Dg.W64) (den : List Nat) (hden : ∀ x ∈ den, x < Dg.W64) (A A2 A3 A4 : Option Addr) (n c n2 c2 n3 c3 n4 c4 : Nat) (w : World) (hv : Rd w (.slice A n c) (cU ws)) (hv2 : Rd w (.slice A2 n2 c2) (cU den)) :
    Calls Tryz.prog 3 #[.agg #[.int .i64 k, .bool t, .string s, .bool neg, .slice A n c, .slice A2 n2 c2, .bool ineg, .slice A3 n3 c3, .slice A4 n4 c4]] w (fun e w' => e = .returned (.bool true) ∧ Below w.heap.size w w') := by
  have hl : ws.length = n := by
    obtain ⟨_, _, e, _⟩ := hv.any
    injection e with _ e2 _
    rw [e2, cU_len]
  have hl2 : den.length = n2 := by
    obtain ⟨_, _, e, _⟩ := hv2.any
    injection e with _ e2 _
    rw [e2, cU_len]
  have HS := hide (BoxF.start w #[.int .i64 k, .bool t, .string s, .bool neg, .slice A n c, .slice A2 n2 c2, .bool ineg, .slice A3 n3 c3, .slice A4 n4 c4])
  have C1 := hide (zzFits1_some k t s neg ineg A A2 A3 A4 n c n2 c2 n3 c3 n4 c4)
  have C2 : Hid (∀ W, Below w.heap.size w W → Calls Tryz.prog 5 #[.agg #[.int .i64 k, .bool t, .string s, .bool neg, .slice A n c, .slice A2 n2 c2, .bool ineg, .slice A3 n3 c3, .slice A4 n4 c4], .int .i64 20] W (LawRat k neg (Dg.val Dg.W64 ws) (Dg.val Dg.W64 den) n n2 W)) :=
    fun W hB => lawRational_any k t s neg ineg ws den hws hden A A2 A3 A4 n c n2 c2 n3 c3 n4 c4 W (hv.below hB) (hv2.below hB)
  have C3 : Hid (n ≤ 20 → n2 ≤ 20 → 0 < Dg.val Dg.W64 den → ∀ W, Below w.heap.size w W → Calls Tryz.prog 6 #[.agg #[.int .i64 4, .bool t, .string s, .bool neg, .slice A n c, .slice A2 n2 c2, .bool ineg, .slice A3 n3 c3, .slice A4 n4 c4]] W
      (fun e w' => e = .returned (.int .i64 (sgnI (sgn (neg && decide (0 < Dg.val Dg.W64 ws)) (Dg.val Dg.W64 ws)))) ∧ Below W.heap.size W w')) :=
    fun h1 h2 hD W hB => signFloat_any t s neg ineg ws den hws (by omega) hden (by omega) hD A A2 A3 A4 n c n2 c2 n3 c3 n4 c4 W (hv.below hB) (hv2.below hB)
  generalize Dg.val Dg.W64 ws = V at *
  generalize Dg.val Dg.W64 den = D at *
  clear hv hv2 hws hden hl hl2
  go_enter Tryz.func3, Tryz.ntmps3
  go_wp2_with fail
  refine (C1.out _).mono ?_
  rintro e w1 ⟨⟨b, rfl⟩, hb1⟩
  have H1 := hide (HS.out.below hb1)
  clear hb1
  cases b
  · go_wp2
    go_ret
    exact ⟨rfl, H1.out.2⟩
  · have x0 := H1.out.1.cell 0; have x1 := H1.out.1.cell 1; have x2 := H1.out.1.cell 2; have x3 := H1.out.1.cell 3; have x4 := H1.out.1.cell 4
    have x5 := H1.out.1.cell 5; have x6 := H1.out.1.cell 6; have x7 := H1.out.1.cell 7; have x8 := H1.out.1.cell 8
    simp only [List.getElem?_toArray, List.getElem?_cons_zero, List.getElem?_cons_succ] at x0 x1 x2 x3 x4 x5 x6 x7 x8
    go_wp2_with fail
    refine (C2.out _ H1.out.2).mono ?_
    rintro e w2 ⟨ng, b, B1, B2, m1, d1, m2, d2, rfl, hout, hb2⟩
    have H2 := hide (H1.out.below hb2)
    have Hout := hide hout
    clear hout hb2 x0 x1 x2 x3 x4 x5 x6 x7 x8
    cases b
    · go_wp2_with fail
      go_quiet (fail)
      go_wp2
      go_ret
      exact ⟨rfl, belowN (H2.out.2.alloc H2.out.2.size _) _⟩
    · obtain ⟨hn1, hn2, rfl, rfl, hpos, hD, hr1⟩ := Hout.out rfl
      have CF := hide (C3.out hn1 hn2 hD)
      have hNN : (ng && decide (0 < V)) = ng := by
        cases ng with
        | false => rfl
        | true => simp [hpos rfl]
      rw [hNN] at CF
      have Hr1 := hide hr1
      have CSG := hide fun (W : World) (hR : Rd W (.slice B1 m1 d1) (cI (Dg.digs 65536 V))) => signOf_any ng V hpos W B1 B2 m1 d1 m2 d2 hR
      clear Hout hr1 hn1 hn2 hD hNN hpos C3
      generalize sgnI (sgn ng V) = z at *
      have H3 := hide (H2.out.alloc (Obj.cells #[.bool ng, .slice B1 m1 d1, .slice B2 m2 d2] 31)).drew
      have Hk := hide (Blk.new w2 31 #[.bool ng, .slice B1 m1 d1, .slice B2 m2 d2]).drew
      have Hr3 := hide (Hr1.out.alloc (Obj.cells #[.bool ng, .slice B1 m1 d1, .slice B2 m2 d2] 31)).drew
      obtain ⟨g, hg⟩ : ∃ g, g = w2.heap.size := ⟨_, rfl⟩
      rw [← hg] at Hk
      have Hg := hide hg
      clear hg
      have KC := hide fun (w' : World) (hI : BoxF w #[.int .i64 4, .bool t, .string s, .bool ng, .slice A n c, .slice A2 n2 c2, .bool ineg, .slice A3 n3 c3, .slice A4 n4 c4] w') (hb : Blk w' g 31 #[.bool ng, .slice B1 m1 d1, .slice B2 m2 d2]) =>
        (show w'.cell? ⟨w.heap.size, 0, none⟩ = some (.int .i64 4) ∧ w'.cell? ⟨w.heap.size, 1, none⟩ = some (.bool t) ∧ w'.cell? ⟨w.heap.size, 2, none⟩ = some (.string s) ∧ w'.cell? ⟨w.heap.size, 3, none⟩ = some (.bool ng) ∧ w'.cell? ⟨w.heap.size, 4, none⟩ = some (.slice A n c) ∧ w'.cell? ⟨w.heap.size, 5, none⟩ = some (.slice A2 n2 c2) ∧ w'.cell? ⟨w.heap.size, 6, none⟩ = some (.bool ineg) ∧ w'.cell? ⟨w.heap.size, 7, none⟩ = some (.slice A3 n3 c3) ∧ w'.cell? ⟨w.heap.size, 8, none⟩ = some (.slice A4 n4 c4) ∧ w'.cell? ⟨g, 0, none⟩ = some (.bool ng) ∧ w'.cell? ⟨g, 1, none⟩ = some (.slice B1 m1 d1) ∧ w'.cell? ⟨g, 2, none⟩ = some (.slice B2 m2 d2) from
          ⟨hI.1.cell 0, hI.1.cell 1, hI.1.cell 2, hI.1.cell 3, hI.1.cell 4, hI.1.cell 5, hI.1.cell 6, hI.1.cell 7, hI.1.cell 8, hb.cell 0, hb.cell 1, hb.cell 2⟩)
      go_upto_region 4 with fail
      rw [← Hg.out]
      go_region_held3 (fun w' => w'.cell? ⟨w.heap.size, 0, none⟩ = some (.int .i64 4) ∧ w'.cell? ⟨w.heap.size, 1, none⟩ = some (.bool t) ∧ w'.cell? ⟨w.heap.size, 2, none⟩ = some (.string s) ∧ w'.cell? ⟨w.heap.size, 3, none⟩ = some (.bool ng) ∧ w'.cell? ⟨w.heap.size, 4, none⟩ = some (.slice A n c) ∧ w'.cell? ⟨w.heap.size, 5, none⟩ = some (.slice A2 n2 c2) ∧ w'.cell? ⟨w.heap.size, 6, none⟩ = some (.bool ineg) ∧ w'.cell? ⟨w.heap.size, 7, none⟩ = some (.slice A3 n3 c3) ∧ w'.cell? ⟨w.heap.size, 8, none⟩ = some (.slice A4 n4 c4) ∧ w'.cell? ⟨g, 0, none⟩ = some (.bool ng) ∧ w'.cell? ⟨g, 1, none⟩ = some (.slice B1 m1 d1) ∧ w'.cell? ⟨g, 2, none⟩ = some (.slice B2 m2 d2))
        (first | exact KC.out _ H3.out Hk.out | go_keep)
        (first
          | (go_at_call 6; refine (CF.out _ H3.out.2).mono ?_; rintro e w4 ⟨rfl, hb4⟩; replace H3 := hide (H3.out.below hb4); replace Hk := hide (Hk.out.below hb4 Hk.out.lt); replace Hr3 := hide (Hr3.out.below hb4); clear hb4)
          | (go_at_call 7; refine (CSG.out _ Hr3.out).mono ?_; rintro e w5 ⟨rfl, hb5⟩; replace H3 := hide (H3.out.below hb5); replace Hk := hide (Hk.out.below hb5 Hk.out.lt); replace Hr3 := hide (Hr3.out.below hb5); clear hb5))
      all_goals
        go_wp2
        go_ret
        exact ⟨rfl, H3.out.2⟩
end Go.Proofs.YtgooioafmddneabGreatDoor
