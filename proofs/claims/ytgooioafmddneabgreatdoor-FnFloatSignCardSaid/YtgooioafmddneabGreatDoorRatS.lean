/- The package's sign of a fraction: Make, makeRat, Sign, impl.SignFloat; the reference's SignOf. -/
import Derived.Test.YtgooioafmddneabGreatDoorRatQ
namespace Go.Proofs.YtgooioafmddneabGreatDoor
open Go.RowKit
@[go_sem] theorem as_ratp_bool (v : Value) (w : World) : (Instr.typeAssert (.iface 48 v) 20 4 true).run Tryz.prog w = .ok (.tuple #[.bool false, .bool false]) w := by kernel_rfl
@[go_sem] theorem as_ratp_str (v : Value) (w : World) : (Instr.typeAssert (.iface 48 v) 20 9 true).run Tryz.prog w = .ok (.tuple #[.string ⟨#[]⟩, .bool false]) w := by kernel_rfl
@[go_sem] theorem as_ratp_i64 (v : Value) (w : World) : (Instr.typeAssert (.iface 48 v) 20 2 true).run Tryz.prog w = .ok (.tuple #[.int .i64 0, .bool false]) w := by kernel_rfl
@[go_sem] theorem as_ratp_big (v : Value) (w : World) : (Instr.typeAssert (.iface 48 v) 20 44 true).run Tryz.prog w = .ok (.tuple #[.pointer none, .bool false]) w := by kernel_rfl
@[go_sem] theorem as_ratp_rat (v : Value) (w : World) : (Instr.typeAssert (.iface 48 v) 20 48 true).run Tryz.prog w = .ok (.tuple #[v, .bool true]) w := by kernel_rfl
@[go_sem] theorem as_rv_i64 (v : Value) (w : World) : (Instr.typeAssert (.iface 50 v) 40 43 true).run Tryz.prog w = .ok (.tuple #[.int .i64 0, .bool false]) w := by kernel_rfl
@[go_sem] theorem as_rv_int (v : Value) (w : World) : (Instr.typeAssert (.iface 50 v) 40 46 true).run Tryz.prog w = .ok (.tuple #[.agg #[.pointer none], .bool false]) w := by kernel_rfl
@[go_sem] theorem as_rv_rat (v : Value) (w : World) : (Instr.typeAssert (.iface 50 v) 40 50 true).run Tryz.prog w = .ok (.tuple #[v, .bool true]) w := by kernel_rfl
set_option maxRecDepth 100000 in
theorem smallInt_yes (w : World) (g o : Nat) (neg : Bool) (n : Nat) (h : BigAt w g o neg n) (hlen : (Dg.digs W64 n).length ≤ 1000000) (hb : Dg.bl n < 4096) :
    Calls Tryz.prog 40 #[.pointer (some ⟨g, o, none⟩)] w (fun e w' => e = .returned (.bool true) ∧ w' = w) := by
  have C := hide (bigBitLen_any w g o neg n h hlen)
  generalize Dg.bl n = b at *
  clear h hlen
  go_enter Tryz.func40, Tryz.ntmps40
  go_wp2_with fail
  refine C.out.mono ?_
  rintro e w' ⟨rfl, rfl⟩
  go_wp2
  go_ret
  exact ⟨ret_bool (by simp; omega), rfl⟩
theorem bl_words {ws : List Nat} (hws : ∀ x ∈ ws, x < W64) (hl : ws.length ≤ 40) : Dg.bl (Dg.val W64 ws) < 4096 := by
  have h1 := Dg.val_lt ws hws
  rw [Dg.W64_pow, Dg.pow16] at h1
  have := Dg.bl_le h1
  omega
set_option maxRecDepth 100000 in
set_option maxHeartbeats 1600000 in
theorem makeRat_any (w : World) (g : Nat) (neg : Bool) (V D : Nat) (h : RatAt w g neg V D) (hD : 0 < D) (hV1 : (Dg.digs W64 V).length ≤ 1000000) (hD1 : (Dg.digs W64 D).length ≤ 1000000) (hV2 : Dg.bl V < 4096) (hD2 : Dg.bl D < 4096) :
    Calls Tryz.prog 27 #[.pointer (some ⟨g, 0, none⟩)] w (fun e w' => e = .returned (.iface 50 (.agg #[.pointer (some ⟨g, 0, none⟩)])) ∧ w' = w) := by
  obtain ⟨A, B, n, c, m, d, hk, hr, hr2⟩ := h
  have hm : 0 < m := by
    obtain ⟨_, _, e, _⟩ := hr2.any
    injection e with _ e2 _
    rw [e2, cU_len]
    exact Dg.digs_len_pos W64_two hD
  have C1 := hide (smallInt_yes w g 0 neg V ⟨hk.cell 0, _, hk.cell 1, hr⟩ hV1 hV2)
  have C2 := hide (smallInt_yes w g 2 false D ⟨hk.cell 2, _, hk.cell 3, hr2⟩ hD1 hD2)
  have C3 := hide (denom_pos w g neg A B n c m d hm hk)
  clear hk hr hr2 hm hV1 hD1 hV2 hD2 hD
  go_enter Tryz.func27, Tryz.ntmps27
  go_wp2_with fail
  refine (num_ptr w g).mono ?_
  rintro e w' ⟨rfl, rfl⟩
  go_wp2_with fail
  refine C3.out.mono ?_
  rintro e w' ⟨rfl, rfl⟩
  go_wp2_with fail
  refine C1.out.mono ?_
  rintro e w' ⟨rfl, rfl⟩
  go_wp2_with fail
  refine C2.out.mono ?_
  rintro e w' ⟨rfl, rfl⟩
  go_wp2
  go_ret
  exact ⟨rfl, rfl⟩
set_option maxHeartbeats 800000 in
theorem make_rat (w : World) (g : Nat) (neg : Bool) (V D : Nat) (h : RatAt w g neg V D) (hD : 0 < D) (hV1 : (Dg.digs W64 V).length ≤ 1000000) (hD1 : (Dg.digs W64 D).length ≤ 1000000) (hV2 : Dg.bl V < 4096) (hD2 : Dg.bl D < 4096) :
    Calls Tryz.prog 18 #[.iface 48 (.pointer (some ⟨g, 0, none⟩))] w (fun e w' => e = .returned (.iface 50 (.agg #[.pointer (some ⟨g, 0, none⟩)])) ∧ w' = w) := by
  have C := hide (makeRat_any w g neg V D h hD hV1 hD1 hV2 hD2)
  clear h hV1 hD1 hV2 hD2 hD
  go_enter Tryz.func18, Tryz.ntmps18
  go_wp2_with fail
  refine C.out.mono ?_
  rintro e w' ⟨rfl, rfl⟩
  go_wp2
  go_ret
  exact ⟨rfl, rfl⟩
theorem ratSign_any (w : World) (g : Nat) (neg : Bool) (V : Nat) (h : BigAt w g 0 neg V) (hn : neg = true → 0 < V) :
    Calls Tryz.prog 15 #[.pointer (some ⟨g, 0, none⟩)] w (fun e w' => e = .returned (.int .i64 (sgnI (sgn neg V))) ∧ w' = w) := by
  have C := hide (bigSign_any w g 0 neg V h hn)
  generalize sgnI (sgn neg V) = z at *
  clear h hn
  go_enter Tryz.func15, Tryz.ntmps15
  go_wp2_with fail
  refine C.out.mono ?_
  rintro e w' ⟨rfl, rfl⟩
  go_wp2
  go_ret
  exact ⟨rfl, rfl⟩
set_option maxRecDepth 100000 in
set_option maxHeartbeats 1600000 in
theorem signRat_any (w : World) (g : Nat) (neg : Bool) (V : Nat) (h : BigAt w g 0 neg V) (hn : neg = true → 0 < V) :
    Calls Tryz.prog 10 #[.iface 50 (.agg #[.pointer (some ⟨g, 0, none⟩)])] w (fun e w' => e = .returned (.int .i64 (sgnI (sgn neg V))) ∧ Below w.heap.size w w') := by
  have C := hide (ratSign_any _ g neg V (h.below (below1 w (.cells #[.pointer (some ⟨g, 0, none⟩)] 50))) hn)
  generalize sgnI (sgn neg V) = z at *
  clear h hn
  go_enter Tryz.func10, Tryz.ntmps10
  go_wp2_with fail
  refine C.out.mono ?_
  rintro e w' ⟨rfl, rfl⟩
  go_wp2
  go_ret
  exact ⟨rfl, below1 _ _⟩
set_option maxRecDepth 100000 in
set_option maxHeartbeats 1600000 in
theorem signFloat_any (t : Bool) (s : ByteArray) (neg ineg : Bool) (ws den : List Nat) (hws : ∀ x ∈ ws, x < W64) (hl : ws.length ≤ 40) (hden : ∀ x ∈ den, x < W64) (hl2 : den.length ≤ 40) (hD : 0 < Dg.val W64 den) (A A2 A3 A4 : Option Addr) (n c n2 c2 n3 c3 n4 c4 : Nat) (w : World) (hv : Rd w (.slice A n c) (cU ws)) (hv2 : Rd w (.slice A2 n2 c2) (cU den)) :
    Calls Tryz.prog 6 #[.agg #[.int .i64 4, .bool t, .string s, .bool neg, .slice A n c, .slice A2 n2 c2, .bool ineg, .slice A3 n3 c3, .slice A4 n4 c4]] w
      (fun e w' => e = .returned (.int .i64 (sgnI (sgn (neg && decide (0 < Dg.val W64 ws)) (Dg.val W64 ws)))) ∧ Below w.heap.size w w') := by
  have CO : Hid (∀ W, Below w.heap.size w W → Calls Tryz.prog 19 #[.agg #[.bool neg, .slice A n c], .slice A2 n2 c2] W _) := fun W hB => over_any neg ws den hws (by omega) hden (by omega) W A A2 n c n2 c2 (hv.below hB) (hv2.below hB)
  have hb1 := bl_words hws hl
  have hb2 := bl_words hden hl2
  have hl3 := digs_len_val hws (by omega)
  have hl4 := digs_len_val hden (by omega)
  generalize Dg.val W64 ws = V at *
  generalize Dg.val W64 den = D at *
  have CM := hide fun (W : World) (g : Nat) (N : Bool) (h : RatAt W g N V D) => make_rat W g N V D h hD hl3 hl4 hb1 hb2
  have CS := hide fun (W : World) (g : Nat) (h : BigAt W g 0 (neg && decide (0 < V)) V) => signRat_any W g (neg && decide (0 < V)) V h (fun h => by simp at h; exact h.2)
  generalize sgnI (sgn (neg && decide (0 < V)) V) = z at *
  generalize (neg && decide (0 < V)) = N at *
  clear hv hv2 hws hden hl hl2 hb1 hb2 hl3 hl4 hD
  have CB : Hid (∀ W, Below w.heap.size w W → Calls Tryz.prog 11 #[.agg #[.int .i64 4, .bool t, .string s, .bool neg, .slice A n c, .slice A2 n2 c2, .bool ineg, .slice A3 n3 c3, .slice A4 n4 c4]] W
      (fun e w' => ∃ g, e = .returned (.iface 50 (.agg #[.pointer (some ⟨g, 0, none⟩)])) ∧ BigAt w' g 0 N V ∧ Below W.heap.size W w')) := by
    intro W hB
    have CO2 := hide (CO.out _ (hB.trans ((below1 W (.cells #[.int .i64 4, .bool t, .string s, .bool neg, .slice A n c, .slice A2 n2 c2, .bool ineg, .slice A3 n3 c3, .slice A4 n4 c4] 26)).mono hB.size)))
    clear CO CS hB
    go_enter Tryz.func11, Tryz.ntmps11
    go_wp2_with fail
    refine CO2.out.mono ?_
    rintro e w1 ⟨g, rfl, hrat, hb⟩
    have Hrat := hide hrat
    have HB := hide (below_alloc (hb.mono (by simp)) (Nat.le_refl W.heap.size))
    clear hrat hb
    go_wp2_with fail
    refine (CM.out _ _ _ Hrat.out).mono ?_
    rintro e w2 ⟨rfl, rfl⟩
    go_wp2
    go_ret
    obtain ⟨A1, B1, n1, c1, m1, d1, hk, hr, _⟩ := Hrat.out
    exact ⟨g, rfl, ⟨hk.cell 0, _, hk.cell 1, hr⟩, HB.out⟩
  clear CO CM
  go_enter Tryz.func6, Tryz.ntmps6
  go_wp2_with fail
  refine (CB.out _ (below1 _ _)).mono ?_
  rintro e w1 ⟨g, rfl, hbig, hb1⟩
  have Hbig := hide hbig
  have HB1 := hide (below_alloc (hb1.mono (by simp)) (Nat.le_refl w.heap.size))
  clear hbig hb1
  go_wp2_with fail
  refine (CS.out _ _ Hbig.out).mono ?_
  rintro e w2 ⟨rfl, hb2⟩
  have HB2 := hide (HB1.out.trans (hb2.mono HB1.out.size))
  clear hb2
  go_wp2
  go_ret
  exact ⟨rfl, HB2.out⟩
theorem signOf_any (neg : Bool) (V : Nat) (hn : neg = true → 0 < V) (w : World) (A A2 : Option Addr) (n c n2 c2 : Nat) (hv : Rd w (.slice A n c) (cI (Dg.digs 65536 V))) :
    Calls Tryz.prog 7 #[.agg #[.bool neg, .slice A n c, .slice A2 n2 c2]] w (fun e w' => e = .returned (.int .i64 (sgnI (sgn neg V))) ∧ Below w.heap.size w w') := by
  have hp : (0 < n) = (0 < V) := digs_pos_len hv
  rcases Nat.eq_zero_or_pos n with h0 | h0
  · have hV : V = 0 := by have : ¬ 0 < V := by rw [← hp]; omega
                          omega
    have hng : neg = false := by cases neg with | false => rfl | true => have := hn rfl; omega
    subst hng hV h0
    clear hp hv hn
    go_enter Tryz.func7, Tryz.ntmps7
    go_wp2
    go_ret
    exact ⟨by simp [sgnI, sgn], below1 _ _⟩
  · have hV : 0 < V := by rw [← hp]; exact h0
    have hz : Hid (sgnI (sgn neg V) = if neg then -1 else 1) := by
      simp only [Hid]
      cases neg with
      | true => simp only [sgn, sgnI, if_true]; rw [if_pos (by omega)]
      | false => simp only [sgn, sgnI, Bool.false_eq_true, if_false]; rw [if_neg (by omega), if_neg (by omega)]
    rw [hz.out]
    have hn0 : ¬ (n : Int) = 0 := by omega
    clear hp hv hn hV hz
    cases neg
    all_goals
      go_enter Tryz.func7, Tryz.ntmps7
      go_wp2
      go_ret
      exact ⟨rfl, below1 _ _⟩
end Go.Proofs.YtgooioafmddneabGreatDoor
