/- The walk of the law FnSmallShift. -/
import Derived.Test.YtgooioafmddneaaShiftN
namespace Go.Proofs.Ytgooioafmddneaa
open Go.RowKit
/-- What an int64 times a power of 2, or by it, rounded down, is. -/
def shZ (a : Int) (left : Bool) (k : Nat) : Int := if left then a * 2 ^ k else a / 2 ^ k
/-- Its magnitude. -/
def shN (a : Int) (left : Bool) (k : Nat) : Nat := if left then a.natAbs * 2 ^ k else if a < 0 then (a.natAbs - 1) / 2 ^ k + 1 else a.natAbs / 2 ^ k
theorem sh_sgn (a : Int) (left : Bool) (k : Nat) : sgn (decide (a < 0)) (shN a left k) = shZ a left k := by
  cases left with
  | true => simpa [shN, shZ] using shl_sgn a k
  | false =>
    by_cases h : a < 0
    · have := Dg.shr_neg (m := a.natAbs) (k := k) (by omega)
      rw [show (-(a.natAbs : Int)) = a by omega] at this
      simpa [shN, shZ, h, sgn] using this
    · have := Dg.shr_pos (m := a.natAbs) (k := k)
      rw [show ((a.natAbs : Int)) = a by omega] at this
      simpa [shN, shZ, h, sgn] using this
theorem shN_pos {a : Int} {left : Bool} {k : Nat} (h : a < 0) : 0 < shN a left k := by
  cases left with
  | true => simp only [shN, if_true]; exact Nat.mul_pos (by omega) (Nat.pow_pos (by omega))
  | false => simp [shN, h]
theorem shN_len {a : Int} (hlo : -9223372036854775808 ≤ a) (hhi : a ≤ 9223372036854775807) {left : Bool} {k : Nat} (hk : k ≤ 300) : (Dg.digs 65536 (shN a left k)).length ≤ 1000000 := by
  have hm : a.natAbs < 65536 ^ 4 := by have e : (65536 : Nat) ^ 4 = 18446744073709551616 := by decide
                                       omega
  have hm2 : a.natAbs < W64 := hm
  have h : shN a left k < 65536 ^ 24 := by
    cases left with
    | true =>
      simp only [shN, if_true]
      have h1 : a.natAbs * 2 ^ k < W64 ^ 6 := by
        rw [Nat.pow_succ, Nat.mul_comm]
        exact Nat.lt_of_le_of_lt (Nat.mul_le_mul_right _ (pow_le_W (n := 5) (by omega))) (Nat.mul_lt_mul_of_pos_left hm2 (Nat.pow_pos (by have := W64_two; omega)))
      rw [show (24 : Nat) = 4 * 6 from rfl, Nat.pow_mul]
      exact h1
    | false =>
      have h2 : shN a false k ≤ a.natAbs := by
        by_cases h : a < 0
        · simp only [shN, h, if_true, Bool.false_eq_true, if_false]
          have := Nat.div_le_self (a.natAbs - 1) (2 ^ k); omega
        · simp only [shN, h, if_false, Bool.false_eq_true]
          exact Nat.div_le_self _ _
      exact Nat.lt_of_le_of_lt h2 (Nat.lt_of_lt_of_le hm (Nat.pow_le_pow_right (by omega) (by omega)))
  have := Dg.digs_len_le (B := 65536) (by omega) h
  omega
theorem shifted_any (a : Int) (hlo : -9223372036854775808 ≤ a) (hhi : a ≤ 9223372036854775807) (left : Bool) (k : Nat) (hk : k ≤ 300) (w : World) (A A2 : Option Addr) (n c n2 c2 : Nat) (hv : Rd w (.slice A n c) (cI (Dg.digs 65536 a.natAbs))) :
    Calls Try.prog 6 #[.agg #[.bool (decide (a < 0)), .slice A n c, .slice A2 n2 c2], .bool left, .int .i64 (k : Int)] w (GotRatio (decide (a < 0)) (shN a left k) 1 w) := by
  have hm : a.natAbs < 65536 ^ 4 := by have e : (65536 : Nat) ^ 4 = 18446744073709551616 := by decide
                                       omega
  cases left with
  | true =>
    have h := shifted_left (decide (a < 0)) a.natAbs k hm hk w A A2 n c n2 c2 hv
    have e : (decide (a < 0) && decide (0 < a.natAbs * 2 ^ k)) = decide (a < 0) := by
      by_cases h : a < 0
      · have : 0 < a.natAbs * 2 ^ k := Nat.mul_pos (by omega) (Nat.pow_pos (by omega))
        simp [h, this]
      · simp [h]
    rw [e] at h
    simpa only [shN, if_true] using h
  | false =>
    by_cases h : a < 0
    · have hh := shifted_neg a.natAbs k (by omega) hm hk w A A2 n c n2 c2 hv
      rw [decide_eq_true h]
      simpa only [shN, h, if_true, Bool.false_eq_true, if_false] using hh
    · have hh := shifted_pos a.natAbs k hm hk w A A2 n c n2 c2 hv
      rw [decide_eq_false h]
      simpa only [shN, h, Bool.false_eq_true, if_false] using hh
theorem smallShift_any (a : Int) (hlo : -9223372036854775808 ≤ a) (hhi : a ≤ 9223372036854775807) (left : Bool) (k : Nat) (hk : k ≤ 300) (w : World) :
    Calls Try.prog 4 #[.int .i64 a, .bool left, .int .u64 (k : Int)] w (fun e w' => (∃ n : Int, e = .returned (.tuple #[.int .i64 n, .bool (fitsI (shZ a left k))]) ∧ (fitsI (shZ a left k) = true → n = shZ a left k)) ∧ Below w.heap.size w w') := by
  obtain ⟨t, ht⟩ : ∃ t : Int, t = if left then 20 else 21 := ⟨_, rfl⟩
  have CD : Hid (∀ W, Calls Try.prog 11 #[.bool left] W (fun e w' => e = .returned (.int .i64 t) ∧ w' = W)) := by
    intro W
    rw [ht]
    cases left with
    | true => exact direction_left W
    | false => exact direction_right W
  have CS : Hid (∀ W, Calls Try.prog 9 #[.iface 48 (.int .i64 a), .int .i64 t, .int .u64 (k : Int)] W (fun e w' => ∃ v, e = .returned v ∧ ConstInt w' v (shZ a left k) ∧ Below W.heap.size W w')) := by
    intro W
    rw [ht]
    rcases Nat.eq_zero_or_pos k with h0 | h0
    · subst h0
      refine (shift0 a _ W).mono ?_
      rintro e w' ⟨rfl, rfl⟩
      refine ⟨_, rfl, .inl ⟨?_, ?_⟩, Below.refl _ _⟩
      · cases left <;> simp [shZ]
      · cases left <;> simp [shZ] <;> omega
    · cases left with
      | true => simpa only [shZ, if_true] using shiftL a hlo hhi k h0 hk W
      | false =>
        refine (shiftR a hlo hhi k h0 hk W).mono ?_
        rintro e w' ⟨⟨v, rfl, hc⟩, rfl⟩
        exact ⟨v, rfl, by simpa only [shZ, Bool.false_eq_true, if_false] using hc, Below.refl _ _⟩
  generalize shZ a left k = Z at *
  clear hlo hhi hk ht
  go_enter Try.func4, Try.ntmps4
  go_wp2_with fail
  refine (makeInt64_any' a w).mono ?_
  rintro e w1 ⟨rfl, rfl⟩
  go_wp2_with fail
  refine (CD.out _).mono ?_
  rintro e w1 ⟨rfl, rfl⟩
  go_wp2_with fail
  refine (CS.out _).mono ?_
  rintro e w2 ⟨v, rfl, hci, hb⟩
  have Hci := hide hci
  have Hb := hide hb
  clear hci hb
  go_wp2_with fail
  refine (int64Val_const w2 v _ Hci.out).mono ?_
  rintro e w3 ⟨⟨n, rfl, hn⟩, hb3⟩
  have Hn := hide hn
  have HB := hide (Hb.out.trans (hb3.mono Hb.out.size))
  clear hn hb3
  go_wp2
  go_ret2
  exact ⟨⟨n, rfl, Hn.out⟩, HB.out⟩
set_option maxHeartbeats 1600000 in
theorem smallShift_walk (a : Int) (hlo : -9223372036854775808 ≤ a) (hhi : a ≤ 9223372036854775807) (left : Bool) (s : Int) (hs0 : 0 ≤ s) (hs1 : s ≤ 65535) (w : World) :
    Calls Try.prog 3 #[.int .i64 a, .bool left, .int .u16 s] w (fun e w' => e = .returned (.bool true) ∧ Below w.heap.size w w') := by
  obtain ⟨k, hk⟩ : ∃ k : Nat, (k : Int) = s % 301 := ⟨(s % 301).toNat, by omega⟩
  have hk3 : k ≤ 300 := by omega
  have C1 := hide (smallShift_any a hlo hhi left k hk3)
  have C2 := hide (of64_any a hlo hhi)
  have C3 := hide fun (W : World) (A A2 : Option Addr) (n c n2 c2 : Nat) (hv : Rd W (.slice A n c) (cI (Dg.digs 65536 a.natAbs))) => shifted_any a hlo hhi left k hk3 W A A2 n c n2 c2 hv
  have C4 : Hid (∀ (z : Int) (W : World) (A A2 : Option Addr) (n c n2 c2 : Nat), (fitsI (shZ a left k) = true → z = shZ a left k) → Rd W (.slice A n c) (cI (Dg.digs 65536 (shN a left k))) →
      Calls Try.prog 5 #[.int .i64 z, .bool (fitsI (shZ a left k)), .agg #[.bool (decide (a < 0)), .slice A n c, .slice A2 n2 c2]] W (fun e w' => e = .returned (.bool true) ∧ Below W.heap.size W w')) := by
    intro z W A A2 n c n2 c2 hz hR
    have hval := Dg.val_digs (B := 65536) (by omega) (shN a left k)
    refine fits_any z _ (decide (a < 0)) _ (Dg.can_digs (by omega) _) (shN_len hlo hhi hk3) ?_ ?_ ?_ W A n c A2 n2 c2 hR
    · intro h; rw [hval]; exact shN_pos (by simpa using h)
    · rw [hval, ← sh_sgn, fitsI_sgn]
    · rw [hval, sh_sgn]; exact hz
  generalize shZ a left k = Z at *
  generalize shN a left k = N at *
  generalize decide (a < 0) = ng at *
  have hm : s % 301 = (k : Int) := hk.symm
  clear hk hlo hhi
  go_enter Try.func3, Try.ntmps3
  go_wp2_with fail
  refine (C1.out _).mono ?_
  rintro e w1 ⟨⟨z, rfl, hz⟩, hb1⟩
  have Hz := hide hz
  have Hb1 := hide hb1
  clear hz hb1
  go_wp2_with fail
  refine (C2.out _).mono ?_
  rintro e w2 ⟨v, u, rfl, hv, hu, hb2⟩
  obtain ⟨A, n, c, rfl⟩ := hv.shape
  obtain ⟨A2, n2, c2, rfl⟩ := hu.shape
  have Hv := hide hv
  have Hb2 := hide (Hb1.out.trans (hb2.mono Hb1.out.size))
  clear hv hu hb2
  go_wp2_with fail
  refine (C3.out _ A A2 n c n2 c2 Hv.out).mono ?_
  rintro e w3 ⟨v, u, rfl, hv, hu, hb3⟩
  obtain ⟨A3, n3, c3, rfl⟩ := hv.shape
  obtain ⟨A4, n4, c4, rfl⟩ := hu.shape
  have Hv3 := hide hv
  have Hb3 := hide (Hb2.out.trans (hb3.mono Hb2.out.size))
  clear hv hu hb3
  go_wp2_with fail
  refine (C4.out z _ A3 A4 n3 c3 n4 c4 Hz.out Hv3.out).mono ?_
  rintro e w4 ⟨rfl, hb4⟩
  have Hb4 := hide (Hb3.out.trans (hb4.mono Hb3.out.size))
  clear hb4
  go_wp2
  go_ret
  exact ⟨rfl, Hb4.out⟩
end Go.Proofs.Ytgooioafmddneaa
