/- Int64Val of a constant of Kind Int. -/
import Derived.Test.YtgooioafmddneaaAsserts
import Derived.Test.YtgooioafmddneaaBigA
import Derived.WalkLawsBesides
namespace Go.Proofs.Ytgooioafmddneaa
open Go.RowKit
@[go_sem] theorem field_intVal (a : Addr) (w : World) : (Instr.field 51 (.agg #[.pointer (some a)]) 0).run Try.prog w = .ok (.pointer (some a)) w := by kernel_rfl
set_option maxHeartbeats 800000 in
/-- (*Int).Int64 of whatever integer: some int64. -/
theorem int64_some (w : World) (g o : Nat) (neg : Bool) (n : Nat) (h : BigAt w g o neg n) :
    Calls Try.prog 20 #[.pointer (some ⟨g, o, none⟩)] w (fun e w' => (∃ z : Int, e = .returned (.int .i64 z)) ∧ w = w') := by
  obtain ⟨h1, s, h2, h3⟩ := h
  have C := hide (low64_any (Dg.digs W64 n) (Dg.digs_lt W64_two n) w _ h3)
  obtain ⟨A, c, rfl, hlc, hcm, _⟩ := h3.any
  have hk := hide h3
  clear h3
  generalize (cU (Dg.digs W64 n)).length = k at *
  generalize (Dg.digs W64 n).getD 0 0 = x at *
  cases neg
  all_goals
    go_enter Try.func20, Try.ntmps20
    go_wp2_with (go_at_call 28; refine C.out.mono ?_; rintro e w' ⟨rfl, rfl⟩)
    go_ret
    exact ⟨⟨_, rfl⟩, rfl⟩
def fitsI (z : Int) : Bool := decide (-9223372036854775808 ≤ z) && decide (z ≤ 9223372036854775807)
theorem fitsI_sgn (neg : Bool) (n : Nat) : fitsI (sgn neg n) = fits64 neg n := by
  rw [Bool.eq_iff_iff]
  cases neg <;> simp [fitsI, sgn, fits64] <;> omega
set_option maxHeartbeats 1600000 in
theorem int64Val_const (w : World) (v : Value) (z : Int) (h : ConstInt w v z) :
    Calls Try.prog 8 #[v] w (fun e w' => (∃ n : Int, e = .returned (.tuple #[.int .i64 n, .bool (fitsI z)]) ∧ (fitsI z = true → n = z)) ∧ Below w.heap.size w w') := by
  rcases h with ⟨rfl, h1, h2⟩ | ⟨g, o, neg, m, rfl, hb, hf, rfl⟩
  · have hz : fitsI z = true := by simp [fitsI]; omega
    rw [hz]
    clear h1 h2 hz
    go_enter Try.func8, Try.ntmps8
    go_wp2
    go_ret2
    exact ⟨⟨z, rfl, fun _ => rfl⟩, Below.refl _ _⟩
  · rw [fitsI_sgn, hf]
    have C := hide fun (w1 : World) (hB : Below w.heap.size w w1) => int64_some w1 g o neg m (hb.below hB)
    clear hb hf
    go_enter Try.func8, Try.ntmps8
    go_wp2_with fail
    refine (C.out _ (below1 _ _)).mono ?_
    rintro e w1 ⟨⟨z, rfl⟩, rfl⟩
    go_wp2
    go_ret2
    exact ⟨⟨z, rfl, fun h => by cases h⟩, below1 _ _⟩
end Go.Proofs.Ytgooioafmddneaa
