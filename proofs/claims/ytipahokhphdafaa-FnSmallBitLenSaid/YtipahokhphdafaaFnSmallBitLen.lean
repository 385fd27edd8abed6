/- For every int64 the number of bits that the package tells of its magnitude is the one that the reference reckons: the law FnSmallBitLen returns true. No condition. -/
import Derived.Test.YtipahokhphdafaaRows
import Derived.WalkKit
import Derived.ProofKit
import Derived.OpenShut
import Derived.ShutString
import Derived.Test.YtipahokhphdafaaAsserts
import Derived.Test.YtipahokhphdafaaBits
import Derived.Test.YtipahokhphdafaaSpecC
import Derived.WalkLawsBesides
import Derived.Below
namespace Go.Proofs.Ytipahokhphdafaa.fnSmallBitLen
open Go.ChangeShapes Go.WideShapes Go.ChangeAt Go.RowKit
open Go.ChangeMaps (open_string shut_string)
set_option linter.unusedVariables false

theorem own : ownKnob Try.prog.godebug = none := by kernel_rfl

theorem wrap_neg {a : Int} (hlo : -9223372036854775808 ≤ a) (h : a < 0) : IntKind.u64.wrap (wrap64 (-a)) = (a.natAbs : Int) := by
  rw [IntKind.wrap_u64]; unfold wrap64; omega
set_option maxHeartbeats 800000 in
theorem smallBitLen_any (a : Int) (hlo : -9223372036854775808 ≤ a) (hhi : a ≤ 9223372036854775807) (w : World) :
    Calls Try.prog 13 #[.int .i64 a] w fun e w' => e = .returned (.int .i64 ((Dg.bl a.natAbs : Nat) : Int)) ∧ w = w' := by
  have hbl : Dg.bl a.natAbs ≤ 64 := bl_le64 (by omega)
  by_cases h : a < 0
  · have Hn := hide (wrap_neg hlo h)
    have Hl : Hid (a.natAbs ≤ 18446744073709551615) := by simp only [Hid]; omega
    generalize hx : a.natAbs = x at *
    have Hx := hide hx
    clear hx
    go_enter Try.func13, Try.ntmps13
    go_wp2_with (first | (go_at_call 27; go_in) | (go_at_call 30; go_in))
    refine (lz64_any x _ Hn.out _ Hl.out).mono ?_
    rintro e w' ⟨rfl, rfl⟩
    go_wp2
    go_ret
    exact ⟨ret_int (by omega), rfl⟩
  · obtain ⟨x, hx⟩ : ∃ x, x = a.natAbs := ⟨_, rfl⟩
    have ha : a = (x : Int) := by omega
    rw [← hx] at hbl ⊢
    have hxl : x ≤ 9223372036854775807 := by omega
    clear hx hlo hhi h
    subst ha
    go_enter Try.func13, Try.ntmps13
    go_wp2_with (first | (go_at_call 27; go_in) | (go_at_call 30; go_in))
    refine (lz64_any x _ rfl _ (by omega)).mono ?_
    rintro e w' ⟨rfl, rfl⟩
    go_wp2
    go_ret
    exact ⟨ret_int (by omega), rfl⟩
theorem digs_small_len {n : Nat} (h : n ≤ 18446744073709551615) : (Dg.digs 65536 n).length ≤ 4 := Dg.digs_len_le (by omega) (by omega)
set_option maxHeartbeats 800000 in
theorem walk (a0 : Int) (w0 : (Lit.int .i64 a0).wf = true) (w : World) :
    Calls Try.prog 5 #[.int .i64 a0] w fun e w' => e = .returned (.bool true) ∧ Below w.heap.size w w' := by
  obtain ⟨hlo, hhi⟩ := bounds_i64 w0
  have C1 := hide (smallBitLen_any a0 hlo hhi)
  have C2 := hide (of64_any a0 hlo hhi)
  have hl := hide (digs_small_len (n := a0.natAbs) (by omega))
  clear w0 hlo hhi
  generalize a0.natAbs = x at *
  generalize decide (a0 < 0) = nb at *
  go_enter Try.func5, Try.ntmps5
  go_wp2_with fail
  refine (C1.out _).mono ?_
  rintro e w1 ⟨rfl, rfl⟩
  go_wp2_with fail
  refine (C2.out _).mono ?_
  rintro e w1 ⟨v, u, rfl, hv, hu, hb1⟩
  obtain ⟨A1, n1, k1, rfl⟩ := hv.shape
  obtain ⟨A2, n2, k2, rfl⟩ := hu.shape
  go_wp2_with fail
  refine (len_any (Dg.digs 65536 x) (Dg.can_digs (by omega) _) (by have := hl.out; omega) _ _ hv).mono ?_
  rw [Dg.val_digs (by omega)]
  rintro e w2 ⟨rfl, rfl⟩
  go_wp2
  go_ret
  exact ⟨rfl, hb1⟩

/-! ### The row's step. -/
set_option maxRecDepth 100000 in
theorem lifted (os : Os) (started : os.Started) (H : Type) (enc : TypeId × Value → H) :
    ReturnsInHanded {} Try.checked os 5 .any (Rows.fnSmallBitLenSpec.pre6 enc Try.prog Try.f5 Rows.fnSmallBitLenRow.domain false) (Rows.fnSmallBitLenSpec.post enc Try.prog Try.f5 false true false false) := by
  refine returnsInHanded_of_change (C := Try.checked) own started (by kernel_rfl) Try.func5
    (ChangeSpec.witness6 (enc := enc) (C := Try.checked) false ⟨#[], #[.int .i64 0], []⟩ 8 (by kernel_rfl) (by kernel_rfl) (by kernel_rfl) (by kernel_rfl)) ?_
  intro W base args ds gs before hval0 hW hcnd _
  have hval : ∀ (j : Nat) t v, Try.f5.params[j]? = some t → args[j]? = some v → Value.okWide Try.prog W .any base t v := hval0
  have hW' := hW
  obtain ⟨p, q, hA0, hV, rfl, hfz, hnd⟩ := hW
  have hA : DataW.TrodAll enc Try.prog W 0 (fun _ => true) true Try.f5.params.toList args.toList ds p := hA0
  rw [Try.params5] at hA hval
  obtain ⟨v0, vs0, d0, ds0, p0, q0, hargs, rfl, rfl, h0, r0⟩ := trodAll_cons hA
  obtain ⟨rfl, rfl, rfl⟩ := trodAll_nil r0
  obtain rfl : args = #[v0] := by cases args; simp_all
  obtain ⟨rfl, rfl⟩ := trodVars_none hV
  obtain ⟨a0, rfl, rfl, rfl, w0⟩ := open_int Try.underlying2 (hval 0 2 v0 rfl rfl) h0
  clear hA0 hval0
  simp only [List.append_nil] at hW'
  refine (walk a0 w0 W).mono fun e W' ⟨he, bel⟩ => ?_
  subst he
  exact ⟨_, rfl, _, _, _, [], [], [], hW', (trodAll_cons_mk (shut_bool Try.underlying4 _) trodAll_mk0), (trodAll_cons_mk (shut_int Try.underlying2 w0) trodAll_mk0), rfl, bel.frame _, fun h => by cases h⟩

theorem over : Rows.fnSmallBitLenRow.holds Try.pinned (OpenSpec.ofChange Rows.fnSmallBitLenSpec) :=
  OpenClaim.holds_of_wide 5 Try.f5 rfl rfl rfl rfl rfl rfl rfl ⟨rfl, rfl, rfl, rfl, rfl⟩ rfl rfl rfl rfl rfl (by kernel_rfl) Try.func5 (by kernel_rfl)
    (of_decide_eq_true (by kernel_rfl)) (by unfold Func.isWrapper; first | (rw [if_pos (by decide +kernel)]; kernel_rfl) | (rw [if_neg (by decide +kernel)]; exact ⟨rfl, rfl⟩))
    (fun os started H enc _ => lifted os started H enc)

/-- The statement. -/
theorem proved : Rows.FnSmallBitLenSaid :=
  over
#print axioms proved
end Go.Proofs.Ytipahokhphdafaa.fnSmallBitLen
