/- What the package tells of a constant of Kind Int: its sign, how many bits it has, and it as an int64 or a uint64, by contract. -/
import Derived.Test.YtgooioafmddneacGreatDoorBigA
import Derived.Test.YtgooioafmddneacGreatDoorBits
namespace Go.Proofs.YtgooioafmddneacGreatDoor
open Go.RowKit

theorem quiet_left {P : Program} {f : FuncId} {args : Array Value} {w : World} {n : Nat} {v : Value}
    (h : Calls P f args (w.drewN n) fun e w' => e = .returned v ∧ w.drewN n = w') : Calls P f args (w.drewN n) fun e w'' => e = .returned v ∧ ∃ m, w'' = w.drewN m :=
  h.mono fun _ _ ⟨he, hm⟩ => ⟨he, n, hm.symm⟩
def sgnI (z : Int) : Int := if z < 0 then -1 else if z = 0 then 0 else 1
theorem big_pos {neg : Bool} {n : Nat} (h : fits64 neg n = false) : 9223372036854775808 ≤ n := by
  simp only [fits64, Bool.or_eq_false_iff, decide_eq_false_iff_not] at h
  omega
theorem big_len {n : Nat} (h : 0 < n) : 0 < (Dg.digs W64 n).length := Dg.digs_len_pos W64_two h
set_option maxHeartbeats 800000 in
theorem bigSign_any (w : World) (g o : Nat) (neg : Bool) (n : Nat) (h : BigAt w g o neg n) (hn : neg = true → 0 < n) :
    Calls Tryz.prog 46 #[.pointer (some ⟨g, o, none⟩)] w (fun e w' => e = .returned (.int .i64 (sgnI (sgn neg n))) ∧ w = w') := by
  obtain ⟨h1, s, h2, h3⟩ := h
  obtain ⟨A, c, rfl, hlc, hcm, _⟩ := h3.any
  rw [cU_len] at h2 hlc
  clear h3
  rcases Nat.eq_zero_or_pos n with h0 | h0
  · have hng : neg = false := by
      cases neg
      · rfl
      · exact absurd (hn rfl) (by omega)
    subst hng h0
    rw [Dg.digs_zero] at h2 hlc
    clear hn
    go_enter Tryz.func46, Tryz.ntmps46
    go_wp2
    go_ret
    exact ⟨rfl, rfl⟩
  · have hl := big_len h0
    generalize (Dg.digs W64 n).length = k at *
    cases neg
    · have hs : sgnI (sgn false n) = 1 := by simp [sgnI, sgn]; omega
      rw [hs]
      clear hs hn h0
      go_enter Tryz.func46, Tryz.ntmps46
      go_wp2
      go_ret
      exact ⟨rfl, rfl⟩
    · have hs : sgnI (sgn true n) = -1 := by simp [sgnI, sgn]; omega
      rw [hs]
      clear hs hn h0
      go_enter Tryz.func46, Tryz.ntmps46
      go_wp2
      go_ret
      exact ⟨rfl, rfl⟩
set_option maxHeartbeats 400000 in
theorem lenW_any (n : Nat) (w : World) (h : n ≤ 18446744073709551615) :
    Calls Tryz.prog 139 #[.int .u64 (n : Int)] w fun e w' => e = .returned (.int .i64 ((Dg.bl n : Nat) : Int)) ∧ w = w' := by
  have hb := bl_le64 h
  have C := hide (len64_any n (n : Int) rfl w h)
  go_enter Tryz.func139, Tryz.ntmps139
  go_wp2_with (go_at_call 154; refine C.out.mono ?_; rintro e w' ⟨rfl, rfl⟩)
  go_ret
  exact ⟨rfl, rfl⟩
theorem or_shift (x c : Nat) (C : Int) (hC : C = (c : Int)) (hx : x ≤ 18446744073709551615) : ∃ y : Nat, bits .or .u64 (x : Int) ((x : Int) / C) = (y : Int) ∧ y ≤ 18446744073709551615 ∧ Hid (Dg.bl y = Dg.bl x) := by
  subst hC
  have h1 : x / c ≤ x := Nat.div_le_self _ _
  have e : ((x : Int) / (c : Int)) = ((x / c : Nat) : Int) := by rw [Int.natCast_ediv]
  refine ⟨x ||| x / c, ?_, ?_, Dg.bl_or h1⟩
  · rw [e, u64_or_nat _ _ (by omega) (by omega)]
  · have : x ||| x / c < 2 ^ 64 := Nat.or_lt_two_pow (by omega) (by omega)
    omega
end Go.Proofs.YtgooioafmddneacGreatDoor
