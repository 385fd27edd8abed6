/- The reference's Rational and SignOf, the laws' rational. -/
import Derived.Test.YtgooioafmddneabGreatDoorFrac
namespace Go.Proofs.YtgooioafmddneabGreatDoor
open Go.RowKit
set_option maxRecDepth 100000 in
set_option maxHeartbeats 1600000 in
theorem restR_some (k : Int) (t : Bool) (s : ByteArray) (neg ineg : Bool) (A A2 A3 A4 : Option Addr) (n c n2 c2 n3 c3 n4 c4 : Nat) (w : World) :
    Calls Tryz.prog 12 #[.agg #[.int .i64 k, .bool t, .string s, .bool neg, .slice A n c, .slice A2 n2 c2, .bool ineg, .slice A3 n3 c3, .slice A4 n4 c4]] w
      (fun e w' => (∃ b : Bool, e = .returned (.bool b)) ∧ Below w.heap.size w w') := by
  go_enter Tryz.func12, Tryz.ntmps12
  go_wp2
  all_goals
    go_ret
    exact ⟨⟨_, rfl⟩, below1 _ _⟩
def VBox (k : Int) (t : Bool) (s : ByteArray) (neg ineg : Bool) (A A2 A3 A4 : Option Addr) (n c n2 c2 n3 c3 n4 c4 : Nat) : Array Value := #[.int .i64 k, .bool t, .string s, .bool neg, .slice A n c, .slice A2 n2 c2, .bool ineg, .slice A3 n3 c3, .slice A4 n4 c4]
def VInv (w : World) (box : Array Value) (W : World) : Prop := Blk W w.heap.size 26 box ∧ Blk W (w.heap.size + 1) 31 #[.bool false, .slice none 0 0, .slice none 0 0] ∧ Below w.heap.size w W
theorem VInv.start (w : World) (box : Array Value) : VInv w box ((w.alloc (.cells box 26)).alloc (.cells #[.bool false, .slice none 0 0, .slice none 0 0] 31)) := by
  refine ⟨(Blk.new w _ _).alloc _, ?_, (below1 _ _).alloc (by simp) _⟩
  have := Blk.new (w.alloc (.cells box 26)) 31 #[.bool false, .slice none 0 0, .slice none 0 0]
  simpa using this
theorem VInv.below {w W W' : World} {box : Array Value} (h : VInv w box W) (hb : Below W.heap.size W W') : VInv w box W' :=
  ⟨h.1.below hb h.1.lt, h.2.1.below hb h.2.1.lt, h.2.2.trans (hb.mono h.2.2.size)⟩
/-- The end of Rational and of rational: the callee's fraction is stored into the block made second. -/
theorem vinv_end {w W w2 : World} {box : Array Value} {neg ng b : Bool} {V D : Nat} {B1 B2 : Option Addr} {m1 d1 m2 d2 : Nat} (hI : VInv w box w2)
    (hout : b = true → ng = neg ∧ (neg = true → 0 < V) ∧ 0 < D ∧ Rd w2 (.slice B1 m1 d1) (cI (Dg.digs 65536 V))) (_ : W = w2) :
    (put3 w2 (w.heap.size + 1) (.bool ng) (.slice B1 m1 d1) (.slice B2 m2 d2)).cell? ⟨w.heap.size + 1, 0, none⟩ = some (.bool ng) ∧ (put3 w2 (w.heap.size + 1) (.bool ng) (.slice B1 m1 d1) (.slice B2 m2 d2)).cell? ⟨w.heap.size + 1, 1, none⟩ = some (.slice B1 m1 d1) ∧ (put3 w2 (w.heap.size + 1) (.bool ng) (.slice B1 m1 d1) (.slice B2 m2 d2)).cell? ⟨w.heap.size + 1, 2, none⟩ = some (.slice B2 m2 d2) ∧
      (b = true → ng = neg ∧ (neg = true → 0 < V) ∧ 0 < D ∧ Rd (put3 w2 (w.heap.size + 1) (.bool ng) (.slice B1 m1 d1) (.slice B2 m2 d2)) (.slice B1 m1 d1) (cI (Dg.digs 65536 V))) ∧ Below w.heap.size w (put3 w2 (w.heap.size + 1) (.bool ng) (.slice B1 m1 d1) (.slice B2 m2 d2)) := by
  have H3 : Blk3 w2 (w.heap.size + 1) 31 false (.slice none 0 0) (.slice none 0 0) := ⟨hI.2.1, rfl, rfl⟩
  have hk := ((hI.2.1.set_ 0 (.bool ng)).set_ 1 (.slice B1 m1 d1)).set_ 2 (.slice B2 m2 d2)
  refine ⟨by simpa [put3] using hk.cell 0, by simpa [put3] using hk.cell 1, by simpa [put3] using hk.cell 2, fun h => ?_, put3_below hI.2.2 (Nat.le_succ _) _ _ _⟩
  obtain ⟨h1, h2, h3, h4⟩ := hout h
  exact ⟨h1, h2, h3, put3_rd H3 h4 _ _ _⟩
set_option maxRecDepth 100000 in
set_option maxHeartbeats 3200000 in
theorem rational_any (t : Bool) (s : ByteArray) (neg ineg : Bool) (ws den : List Nat) (hws : ∀ x ∈ ws, x < Dg.W64) (hl : ws.length ≤ 200) (hden : ∀ x ∈ den, x < Dg.W64) (hl2 : den.length ≤ 200) (A A2 A3 A4 : Option Addr) (n c n2 c2 n3 c3 n4 c4 : Nat) (w : World) (hv : Rd w (.slice A n c) (cU ws)) (hv2 : Rd w (.slice A2 n2 c2) (cU den)) :
    Calls Tryz.prog 9 #[.agg #[.int .i64 4, .bool t, .string s, .bool neg, .slice A n c, .slice A2 n2 c2, .bool ineg, .slice A3 n3 c3, .slice A4 n4 c4]] w (FracOut neg (Dg.val Dg.W64 ws) (Dg.val Dg.W64 den) w) := by
  have CF : Hid (∀ W, Below w.heap.size w W → Calls Tryz.prog 13 #[.agg #[.bool neg, .slice A n c], .slice A2 n2 c2] W (FracOut neg (Dg.val Dg.W64 ws) (Dg.val Dg.W64 den) W)) :=
    fun W hB => fraction_any neg ws den hws hl hden hl2 W A A2 n c n2 c2 (hv.below hB) (hv2.below hB)
  have CR := hide (restR_some 4 t s neg ineg A A2 A3 A4 n c n2 c2 n3 c3 n4 c4)
  have HI := hide (VInv.start w #[.int .i64 4, .bool t, .string s, .bool neg, .slice A n c, .slice A2 n2 c2, .bool ineg, .slice A3 n3 c3, .slice A4 n4 c4])
  generalize Dg.val Dg.W64 ws = V at *
  generalize Dg.val Dg.W64 den = D at *
  clear hv hv2 hws hden hl hl2
  go_enter Tryz.func9, Tryz.ntmps9
  go_wp2_with fail
  refine (CR.out _).mono ?_
  rintro e w1 ⟨⟨b, rfl⟩, hb1⟩
  replace HI := hide (HI.out.below hb1)
  clear hb1
  have z0 := HI.out.2.1.cell 0
  have z1 := HI.out.2.1.cell 1
  have z2 := HI.out.2.1.cell 2
  have q0 := HI.out.2.1.frozen 0
  have q1 := HI.out.2.1.frozen 1
  have q2 := HI.out.2.1.frozen 2
  have x3 := HI.out.1.cell 3
  have x4 := HI.out.1.cell 4
  have x5 := HI.out.1.cell 5
  simp only [List.getElem?_toArray, List.getElem?_cons_zero, List.getElem?_cons_succ] at z0 z1 z2 x3 x4 x5
  cases b
  · go_wp2_with fail
    obtain ⟨e1, e2, e3, e4, e5⟩ := vinv_end (neg := neg) (ng := false) (b := false) (V := V) (D := D) (B1 := none) (B2 := none) (m1 := 0) (d1 := 0) (m2 := 0) (d2 := 0) HI.out (fun h => by cases h) rfl
    unfold put3 at e1 e2 e3
    refine bodyPost_ret (v := .tuple #[.agg #[.bool false, .slice none 0 0, .slice none 0 0], .bool false]) (by simp [results, Tryz.results9, go_sem, e1, e2, e3]) rfl ?_
    exact ⟨_, _, _, _, _, _, _, _, rfl, (fun h => by cases h), e5⟩
  · go_wp2_with fail
    refine (CF.out _ HI.out.2.2).mono ?_
    rintro e w2 ⟨ng, b, B1, B2, m1, d1, m2, d2, rfl, hout, hb2⟩
    replace HI := hide (HI.out.below hb2)
    have Hout := hide hout
    clear hb2 hout z0 z1 z2 q0 q1 q2 x3 x4 x5
    have z0 := HI.out.2.1.cell 0
    have z1 := HI.out.2.1.cell 1
    have z2 := HI.out.2.1.cell 2
    have q0 := HI.out.2.1.frozen 0
    have q1 := HI.out.2.1.frozen 1
    have q2 := HI.out.2.1.frozen 2
    simp only [List.getElem?_toArray, List.getElem?_cons_zero, List.getElem?_cons_succ] at z0 z1 z2
    go_wp2_with fail
    obtain ⟨e1, e2, e3, e4, e5⟩ := vinv_end (B2 := B2) (m2 := m2) (d2 := d2) HI.out Hout.out rfl
    unfold put3 at e1 e2 e3
    refine bodyPost_ret (v := .tuple #[.agg #[.bool ng, .slice B1 m1 d1, .slice B2 m2 d2], .bool b]) (by simp [results, Tryz.results9, go_sem, e1, e2, e3]) rfl ?_
    exact ⟨_, _, _, _, _, _, _, _, rfl, e4, e5⟩
set_option maxRecDepth 100000 in
set_option maxHeartbeats 1600000 in
theorem rational_kind (k : Int) (hk : k ≠ 4) (t : Bool) (s : ByteArray) (neg ineg : Bool) (A A2 A3 A4 : Option Addr) (n c n2 c2 n3 c3 n4 c4 : Nat) (w : World) :
    Calls Tryz.prog 9 #[.agg #[.int .i64 k, .bool t, .string s, .bool neg, .slice A n c, .slice A2 n2 c2, .bool ineg, .slice A3 n3 c3, .slice A4 n4 c4]] w (fun e w' => e = .returned (.tuple #[.agg #[.bool false, .slice none 0 0, .slice none 0 0], .bool false]) ∧ Below w.heap.size w w') := by
  have HI := hide (VInv.start w #[.int .i64 k, .bool t, .string s, .bool neg, .slice A n c, .slice A2 n2 c2, .bool ineg, .slice A3 n3 c3, .slice A4 n4 c4])
  have hk' : ¬ k = 4 := hk
  go_enter Tryz.func9, Tryz.ntmps9
  go_wp2_with fail
  have hb := Blk.new (w.alloc (Obj.cells #[.int .i64 k, .bool t, .string s, .bool neg, .slice A n c, .slice A2 n2 c2, .bool ineg, .slice A3 n3 c3, .slice A4 n4 c4] 26)) 31 #[.bool false, .slice none 0 0, .slice none 0 0]
  rw [World.size_alloc] at hb
  have c0 := hb.cell 0
  have c1 := hb.cell 1
  have c2' := hb.cell 2
  refine bodyPost_ret (v := .tuple #[.agg #[.bool false, .slice none 0 0, .slice none 0 0], .bool false]) (by simp [results, Tryz.results9, go_sem, c0, c1, c2']) rfl ?_
  exact ⟨rfl, (below1 _ _).alloc (by simp) _⟩
end Go.Proofs.YtgooioafmddneabGreatDoor
