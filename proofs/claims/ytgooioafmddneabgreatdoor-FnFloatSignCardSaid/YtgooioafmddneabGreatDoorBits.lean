/- How many bits a word has: the library's functions in the words of the plain mathematics. -/
import Derived.Test.YtgooioafmddneabGreatDoorLen64
import Derived.Test.YtgooioafmddneabGreatDoorSpecA
namespace Go.Proofs.YtgooioafmddneabGreatDoor
open Go.RowKit

theorem bitLen_bl (n : Nat) (h : n < 18446744073709551616) : Lib.bitLen n = Dg.bl n := by
  induction n using Nat.strongRecOn with
  | _ n ih =>
    rcases Nat.eq_zero_or_pos n with h0 | h0
    · subst h0; rw [Dg.bl_zero]; decide
    · rw [Lib.bitLen_half n (by omega) (by omega), Dg.bl_pos h0, ih (n / 2) (Nat.div_lt_self h0 (by omega)) (by omega), Nat.add_comm]
theorem len64_any (n : Nat) (x : Int) (hx : x = (n : Int)) (w : World) (h : n ≤ 18446744073709551615) :
    Calls Tryz.prog 82 #[.int .u64 x] w fun e w' => e = .returned (.int .i64 ((Dg.bl n : Nat) : Int)) ∧ w = w' := by
  subst hx
  refine (len64_lib (n : Int) w (by omega) (by omega)).mono fun e w' h' => ⟨?_, h'.2.symm⟩
  rw [h'.1, Int.toNat_natCast, bitLen_bl n (by omega)]
theorem bl_le64 {n : Nat} (h : n ≤ 18446744073709551615) : Dg.bl n ≤ 64 := Dg.bl_le (by omega)
set_option maxHeartbeats 400000 in
theorem lz64_any (n : Nat) (x : Int) (hx : x = (n : Int)) (w : World) (h : n ≤ 18446744073709551615) :
    Calls Tryz.prog 122 #[.int .u64 x] w fun e w' => e = .returned (.int .i64 (64 - (Dg.bl n : Nat) : Int)) ∧ w = w' := by
  have hb := bl_le64 h
  have Hx := hide hx
  have H := hide h
  clear hx h
  go_enter Tryz.func122, Tryz.ntmps122
  go_wp2_with (go_at_call 82; refine (len64_any n x Hx.out _ H.out).mono ?_; rintro e w' ⟨rfl, rfl⟩)
  go_ret
  exact ⟨rfl, rfl⟩
end Go.Proofs.YtgooioafmddneabGreatDoor
