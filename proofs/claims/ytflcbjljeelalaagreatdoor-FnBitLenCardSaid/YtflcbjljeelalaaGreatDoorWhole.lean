/- The laws' zzFits1 and whole; the package's Int64Val and BitLen of a value of Kind Int. -/
import Derived.Test.YtflcbjljeelalaaGreatDoorInteger
import Derived.Test.YtflcbjljeelalaaGreatDoorOf
import Derived.Test.YtflcbjljeelalaaGreatDoorConst
namespace Go.Proofs.YtflcbjljeelalaaGreatDoor
open Go.RowKit
theorem zzFits2_some (neg : Bool) (A : Option Addr) (n c : Nat) (w : World) :
    Calls Tryz.prog 11 #[.agg #[.bool neg, .slice A n c]] w (fun e w' => (∃ b : Bool, e = .returned (.bool b)) ∧ Below w.heap.size w w') := by
  go_enter Tryz.func11, Tryz.ntmps11
  go_wp2
  all_goals
    go_ret
    exact ⟨⟨_, rfl⟩, below1 _ _⟩
set_option maxRecDepth 100000 in
set_option maxHeartbeats 1600000 in
theorem zzFits1_some (k : Int) (t : Bool) (s : ByteArray) (neg ineg : Bool) (A A2 A3 A4 : Option Addr) (n c n2 c2 n3 c3 n4 c4 : Nat) (w : World) :
    Calls Tryz.prog 5 #[.agg #[.int .i64 k, .bool t, .string s, .bool neg, .slice A n c, .slice A2 n2 c2, .bool ineg, .slice A3 n3 c3, .slice A4 n4 c4]] w
      (fun e w' => (∃ b : Bool, e = .returned (.bool b)) ∧ Below w.heap.size w w') := by
  obtain ⟨box, hbox⟩ : ∃ box : Array Value, box = #[.int .i64 k, .bool t, .string s, .bool neg, .slice A n c, .slice A2 n2 c2, .bool ineg, .slice A3 n3 c3, .slice A4 n4 c4] := ⟨_, rfl⟩
  have HK := hide fun (w1 : World) (hb : Below (w.alloc (.cells box 26)).heap.size (w.alloc (.cells box 26)) w1) => And.intro ((Blk.new w 26 box).below hb (by simp)) (below_alloc (hb.mono (by simp)) (Nat.le_refl w.heap.size))
  rw [hbox] at HK
  clear hbox
  go_enter Tryz.func5, Tryz.ntmps5
  go_wp2_with (go_at_call 11; refine (zzFits2_some _ _ _ _ _).mono ?_; rintro e w2 ⟨⟨b1, rfl⟩, hb2⟩; (first | (obtain ⟨hk, HB⟩ := HK.out _ hb2; have c5 := hk.cell 5; have c6 := hk.cell 6; have c7 := hk.cell 7; have c8 := hk.cell 8; simp only [List.getElem?_toArray, List.getElem?_cons_zero, List.getElem?_cons_succ] at c5 c6 c7 c8) | (have hk' := hk.below hb2 hk.lt; have HB' := HB.trans (hb2.mono HB.size); have c8' := hk'.cell 8; simp only [List.getElem?_toArray, List.getElem?_cons_zero, List.getElem?_cons_succ] at c8')))
  all_goals
    go_ret
    first
    | exact ⟨⟨_, rfl⟩, HB'⟩
    | exact ⟨⟨_, rfl⟩, HB⟩
    | exact ⟨⟨_, rfl⟩, below1 _ _⟩
set_option maxRecDepth 100000 in
set_option maxHeartbeats 1600000 in
/-- 'whole' of more words than are allowed. -/
theorem whole_long (k : Int) (t : Bool) (s : ByteArray) (neg ineg : Bool) (A A2 A3 A4 : Option Addr) (n c n2 c2 n3 c3 n4 c4 : Nat) (m : Nat) (hn : m < n) (w : World) :
    Calls Tryz.prog 6 #[.agg #[.int .i64 k, .bool t, .string s, .bool neg, .slice A n c, .slice A2 n2 c2, .bool ineg, .slice A3 n3 c3, .slice A4 n4 c4], .int .i64 (m : Int)] w
      (fun e w' => e = .returned (.tuple #[.agg #[.bool false, .slice none 0 0, .slice none 0 0], .bool false]) ∧ Below w.heap.size w w') := by
  go_enter Tryz.func6, Tryz.ntmps6
  go_wp2_with fail
  have hb := Blk.new (w.alloc (Obj.cells #[.int .i64 k, .bool t, .string s, .bool neg, .slice A n c, .slice A2 n2 c2, .bool ineg, .slice A3 n3 c3, .slice A4 n4 c4] 26)) 31 #[.bool false, .slice none 0 0, .slice none 0 0]
  rw [World.size_alloc] at hb
  have c0 := hb.cell 0
  have c1 := hb.cell 1
  have c2' := hb.cell 2
  refine bodyPost_ret (v := .tuple #[.agg #[.bool false, .slice none 0 0, .slice none 0 0], .bool false]) (by simp [results, Tryz.results6, go_sem, c0, c1, c2']) rfl ?_
  exact ⟨rfl, (below1 _ _).alloc (by simp) _⟩
set_option maxRecDepth 100000 in
set_option maxHeartbeats 1600000 in
/-- 'whole' of few words is 'Integer'. -/
theorem whole_few (k : Int) (t : Bool) (s : ByteArray) (neg ineg : Bool) (ws : List Nat) (hws : ∀ x ∈ ws, x < Dg.W64) (A A2 A3 A4 : Option Addr) (n c n2 c2 n3 c3 n4 c4 : Nat) (m : Nat) (hm : m ≤ 1000000) (hn : n ≤ m) (w : World) (hv : Rd w (.slice A n c) (cU ws)) :
    Calls Tryz.prog 6 #[.agg #[.int .i64 k, .bool t, .string s, .bool neg, .slice A n c, .slice A2 n2 c2, .bool ineg, .slice A3 n3 c3, .slice A4 n4 c4], .int .i64 (m : Int)] w
      (IntegerOut k neg (Dg.val Dg.W64 ws) (k = 3 ∧ neg = (neg && decide (0 < Dg.val Dg.W64 ws)) ∧ ws = Dg.digs Dg.W64 (Dg.val Dg.W64 ws) ∧ n2 = 0 ∧ NoRest t s ineg n3 n4) w) := by
  have hl : ws.length = n := by
    obtain ⟨_, _, e, _⟩ := hv.any
    injection e with _ e2 _
    rw [e2, cU_len]
  have C := hide fun (w1 : World) (hb : Below w.heap.size w w1) => integer_any k t s neg ineg ws hws (by omega) A A2 A3 A4 n c n2 c2 n3 c3 n4 c4 w1 (hv.below hb)
  obtain ⟨good, hgood⟩ : ∃ g : Prop, g = (k = 3 ∧ neg = (neg && decide (0 < Dg.val Dg.W64 ws)) ∧ ws = Dg.digs Dg.W64 (Dg.val Dg.W64 ws) ∧ n2 = 0 ∧ NoRest t s ineg n3 n4) := ⟨_, rfl⟩
  rw [← hgood] at C ⊢
  generalize Dg.val Dg.W64 ws = V at *
  clear hv hl hws hgood
  have hnm : ¬ (m : Int) < (n : Int) := by omega
  go_enter Tryz.func6, Tryz.ntmps6
  go_wp2_with fail
  have hb := Blk.new (w.alloc (Obj.cells #[.int .i64 k, .bool t, .string s, .bool neg, .slice A n c, .slice A2 n2 c2, .bool ineg, .slice A3 n3 c3, .slice A4 n4 c4] 26)) 31 #[.bool false, .slice none 0 0, .slice none 0 0]
  rw [World.size_alloc] at hb
  refine (C.out _ ((below1 _ _).alloc (by simp) _)).mono ?_
  rintro e w1 ⟨ng, b, B1, B2, m1, d1, m2, d2, rfl, hout, hgd, hb1⟩
  have hk := hb.below hb1 (by simp)
  have HB : Below w.heap.size w w1 := ((below1 w _).alloc (by simp) _).trans (hb1.mono (by simp; omega))
  have z0 := hk.cell 0
  have z1 := hk.cell 1
  have z2 := hk.cell 2
  have q0 := hk.frozen 0
  have q1 := hk.frozen 1
  have q2 := hk.frozen 2
  simp only [List.getElem?_toArray, List.getElem?_cons_zero, List.getElem?_cons_succ] at z0 z1 z2
  have Hout := hide hout
  have Hgd := hide hgd
  have Hk := hide hk
  have HB := hide HB
  clear hout hgd hk hb hb1
  go_wp2_with fail
  have hk2 := ((Hk.out.set_ 0 (.bool ng)).set_ 1 (.slice B1 m1 d1)).set_ 2 (.slice B2 m2 d2)
  have c0 := hk2.cell 0
  have c1 := hk2.cell 1
  have c2' := hk2.cell 2
  have H3 : Blk3 w1 (w.heap.size + 1) 31 false (.slice none 0 0) (.slice none 0 0) := ⟨Hk.out, rfl, rfl⟩
  simp only [List.setIfInBounds_toArray, List.set_cons_zero, List.set_cons_succ, List.getElem?_toArray, List.getElem?_cons_zero, List.getElem?_cons_succ] at c0 c1 c2'
  refine bodyPost_ret (v := .tuple #[.agg #[.bool ng, .slice B1 m1 d1, .slice B2 m2 d2], .bool b]) (by simp [results, Tryz.results6, go_sem, c0, c1, c2']) rfl ?_
  refine ⟨_, _, _, _, _, _, _, _, rfl, fun h => ?_, Hgd.out, put3_below HB.out (Nat.le_succ _) _ _ _⟩
  obtain ⟨h1, h2, h3, h4⟩ := Hout.out h
  exact ⟨h1, h2, put3_rd H3 h3 _ _ _, put3_rd H3 h4 _ _ _⟩
set_option maxHeartbeats 800000 in
theorem implInt64Val_any (t : Bool) (s : ByteArray) (neg : Bool) (ws : List Nat) (hws : ∀ x ∈ ws, x < Dg.W64) (hlen : ws.length ≤ 1000000) (ineg : Bool) (A A2 A3 A4 : Option Addr) (n c n2 c2 n3 c3 n4 c4 : Nat) (w : World) (hv : Rd w (.slice A n c) (cU ws)) :
    Calls Tryz.prog 7 #[.agg #[.int .i64 3, .bool t, .string s, .bool neg, .slice A n c, .slice A2 n2 c2, .bool ineg, .slice A3 n3 c3, .slice A4 n4 c4]] w
      (fun e w' => (∃ z : Int, e = .returned (.tuple #[.int .i64 z, .bool (fitsI (sgn (neg && decide (0 < Dg.val Dg.W64 ws)) (Dg.val Dg.W64 ws)))]) ∧ (fitsI (sgn (neg && decide (0 < Dg.val Dg.W64 ws)) (Dg.val Dg.W64 ws)) = true → z = sgn (neg && decide (0 < Dg.val Dg.W64 ws)) (Dg.val Dg.W64 ws))) ∧ Below w.heap.size w w') := by
  have C1 := hide fun (w1 : World) (hB : Below w.heap.size w w1) => implWhole_any t s neg ws hws hlen ineg A A2 A3 A4 n c n2 c2 n3 c3 n4 c4 w1 (hv.below hB)
  generalize hz : sgn (neg && decide (0 < Dg.val Dg.W64 ws)) (Dg.val Dg.W64 ws) = Z at *
  clear hv hws hlen hz
  go_enter Tryz.func7, Tryz.ntmps7
  go_wp2_with fail
  refine (C1.out _ (below1 _ _)).mono ?_
  rintro e w1 ⟨v, rfl, hci, hb1⟩
  have hci := hide hci
  go_wp2_with fail
  refine (int64Val_const w1 v _ hci.out).mono ?_
  rintro e w2 ⟨⟨z, rfl, hn⟩, hb2⟩
  have hn := hide hn
  have HB : Hid (Below w.heap.size w w2) := by
    have h1 := below_alloc (hb1.mono (by simp)) (Nat.le_refl w.heap.size)
    exact h1.trans (hb2.mono h1.size)
  clear hb1 hb2
  go_wp2
  go_ret2
  exact ⟨⟨z, rfl, hn.out⟩, HB.out⟩
set_option maxHeartbeats 800000 in
theorem implBitLen_any (t : Bool) (s : ByteArray) (neg : Bool) (ws : List Nat) (hws : ∀ x ∈ ws, x < Dg.W64) (hlen : ws.length ≤ 1000000) (ineg : Bool) (A A2 A3 A4 : Option Addr) (n c n2 c2 n3 c3 n4 c4 : Nat) (w : World) (hv : Rd w (.slice A n c) (cU ws)) :
    Calls Tryz.prog 9 #[.agg #[.int .i64 3, .bool t, .string s, .bool neg, .slice A n c, .slice A2 n2 c2, .bool ineg, .slice A3 n3 c3, .slice A4 n4 c4]] w
      (fun e w' => e = .returned (.int .i64 ((Dg.bl (Dg.val Dg.W64 ws) : Nat) : Int)) ∧ Below w.heap.size w w') := by
  have C1 := hide fun (w1 : World) (hB : Below w.heap.size w w1) => implWhole_any t s neg ws hws hlen ineg A A2 A3 A4 n c n2 c2 n3 c3 n4 c4 w1 (hv.below hB)
  have C2 := hide fun (w1 : World) (v : Value) (h : ConstInt w1 v (sgn (neg && decide (0 < Dg.val Dg.W64 ws)) (Dg.val Dg.W64 ws))) => by
    have := bitLen_const w1 v _ h (by rw [sgn_abs]; exact digs_len_val hws hlen)
    rw [sgn_abs] at this
    exact this
  generalize hz : sgn (neg && decide (0 < Dg.val Dg.W64 ws)) (Dg.val Dg.W64 ws) = Z at *
  generalize Dg.val Dg.W64 ws = V at *
  clear hv hws hlen hz
  go_enter Tryz.func9, Tryz.ntmps9
  go_wp2_with fail
  refine (C1.out _ (below1 _ _)).mono ?_
  rintro e w1 ⟨v, rfl, hci, hb1⟩
  have hci := hide hci
  go_wp2_with fail
  refine (C2.out w1 v hci.out).mono ?_
  rintro e w2 ⟨rfl, hb2⟩
  have HB : Hid (Below w.heap.size w w2) := by
    have h1 := below_alloc (hb1.mono (by simp)) (Nat.le_refl w.heap.size)
    exact h1.trans (hb2.mono h1.size)
  clear hb1 hb2
  go_wp2
  go_ret
  exact ⟨rfl, HB.out⟩
end Go.Proofs.YtflcbjljeelalaaGreatDoor
