/- The reference's functions on fractions, each by its contract: Int64, and the laws' fits. -/
import Derived.Test.YtgooioafmddneabGreatDoorSpecB
import Derived.Test.YtgooioafmddneabGreatDoorSpecC
import Derived.Test.YtgooioafmddneabGreatDoorBigA
namespace Go.Proofs.YtgooioafmddneabGreatDoor
open Go.RowKit

def I64In (xs : List Nat) (n i : Value) : Prop := ∃ (k : Nat) (x : Int), n = .int .i64 x ∧ i = .int .i64 ((k : Int) - 1) ∧ k ≤ xs.length ∧ Hid (x = wrap64 ((Dg.val 65536 (xs.drop k) : Nat) : Int))
theorem i64_step {x : Int} {d V : Nat} (h : x = wrap64 (V : Int)) : wrap64 (wrap64 (x * 65536) + (d : Int)) = wrap64 ((d + 65536 * V : Nat) : Int) := by
  subst h; unfold wrap64; omega
theorem sgn_wrap {neg : Bool} {V : Nat} {x : Int} (h : x = wrap64 (V : Int)) : (if neg then wrap64 (-x) else x) = wrap64 (sgn neg V) := by
  subst h; cases neg <;> simp [sgn] <;> (unfold wrap64; omega)
theorem wrap64_lo (z : Int) : -9223372036854775808 ≤ wrap64 z := by unfold wrap64; omega
theorem wrap64_hi (z : Int) : wrap64 z ≤ 9223372036854775807 := by unfold wrap64; omega
theorem fits_iff {neg : Bool} {V : Nat} (hneg : neg = true → 0 < V) : fits64 neg V = true ↔ (decide (wrap64 (sgn neg V) < 0) = neg ∧ (wrap64 (sgn neg V)).natAbs = V) := by
  cases neg
  · simp [fits64, sgn, wrap64]; omega
  · have := hneg rfl
    simp [fits64, sgn, wrap64]; omega
theorem ret_tup {x y : Int} {a b : Bool} (h : x = y) (h2 : a = b) : Ending.returned (.tuple #[.int .i64 x, .bool a]) = .returned (.tuple #[.int .i64 y, .bool b]) := by rw [h, h2]
theorem no_eq {b : Bool} (h : b = true → False) : b = false := by cases b with | false => rfl | true => exact (h rfl).elim
/-- What an int64 and a truth tell of a number: it fits exactly if so, and then it is it. -/
theorem fits_math {n : Int} {ok : Bool} {neg : Bool} {V : Nat} (hok : ok = fits64 neg V) (hn : ok = true → n = sgn neg V) : (!(ok == fits64 neg V)) = false ∧ (ok = true → n = wrap64 (sgn neg V)) := by
  subst hok
  refine ⟨by simp, fun h => ?_⟩
  rw [hn h]
  have := sgn_bounds h
  unfold wrap64; omega
end Go.Proofs.YtgooioafmddneabGreatDoor
