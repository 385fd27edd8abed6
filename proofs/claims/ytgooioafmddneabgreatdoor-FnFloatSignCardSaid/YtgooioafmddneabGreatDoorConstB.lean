/- Int64Val of a constant of Kind Int. -/
import Derived.Test.YtgooioafmddneabGreatDoorAsserts
import Derived.Test.YtgooioafmddneabGreatDoorBigA
import Derived.WalkLawsBesides
namespace Go.Proofs.YtgooioafmddneabGreatDoor
open Go.RowKit
@[go_sem] theorem field_intVal (a : Addr) (w : World) : (Instr.field 46 (.agg #[.pointer (some a)]) 0).run Tryz.prog w = .ok (.pointer (some a)) w := by kernel_rfl
set_option maxHeartbeats 800000 in
/-- (*Int).Int64 of whatever integer: some int64. -/
theorem int64_some (w : World) (g o : Nat) (neg : Bool) (n : Nat) (h : BigAt w g o neg n) :
    Calls Tryz.prog 38 #[.pointer (some ⟨g, o, none⟩)] w (fun e w' => (∃ z : Int, e = .returned (.int .i64 z)) ∧ w = w') := by
  obtain ⟨h1, s, h2, h3⟩ := h
  have C := hide (low64_any (Dg.digs W64 n) (Dg.digs_lt W64_two n) w _ h3)
  obtain ⟨A, c, rfl, hlc, hcm, _⟩ := h3.any
  have hk := hide h3
  clear h3
  generalize (cU (Dg.digs W64 n)).length = k at *
  generalize (Dg.digs W64 n).getD 0 0 = x at *
  cases neg
  all_goals
    go_enter Tryz.func38, Tryz.ntmps38
    go_wp2_with (go_at_call 55; refine C.out.mono ?_; rintro e w' ⟨rfl, rfl⟩)
    go_ret
    exact ⟨⟨_, rfl⟩, rfl⟩
def fitsI (z : Int) : Bool := decide (-9223372036854775808 ≤ z) && decide (z ≤ 9223372036854775807)
theorem fitsI_sgn (neg : Bool) (n : Nat) : fitsI (sgn neg n) = fits64 neg n := by
  rw [Bool.eq_iff_iff]
  cases neg <;> simp [fitsI, sgn, fits64] <;> omega
end Go.Proofs.YtgooioafmddneabGreatDoor
