/- For every slice of bytes the law FnKindOf returns true: the number of at most 300 bytes is a constant of Kind Int (of longer slices the law says nothing). No condition. -/
import Derived.Test.YtipahokhphdafaaRows
import Derived.WalkKit
import Derived.ProofKit
import Derived.OpenShut
import Derived.ShutString
import Derived.ChangeOld
import Derived.Below
import Derived.Test.YtipahokhphdafaaOfBytes
import Derived.WalkLawsBesides
import Derived.WalkSpells
namespace Go.Proofs.Ytipahokhphdafaa.fnKindOf
open Go.ChangeShapes Go.WideShapes Go.ChangeAt Go.RowKit
open Go.ChangeMaps (open_string shut_string)
set_option linter.unusedVariables false

theorem own : ownKnob Try.prog.godebug = none := by kernel_rfl
theorem laidOut : laidOutB Try.prog = true := by kernel_rfl

def IsRow (k : IntKind) (w : World) (a : Option Addr) (len cap : Nat) (zs : List Int) : Prop :=
  (a = none ∧ len = 0 ∧ cap = 0 ∧ zs = []) ∨
  ∃ x, a = some x ∧ len ≤ cap ∧ cap ≤ maxLen ∧ zs.length = cap ∧ (∀ i, i < zs.length → w.cell? (x.add i) = some (.int k (zs.getD i 0))) ∧ ∀ n ∈ zs, (Lit.int k n).wf = true

@[go_sem] theorem method_i64 (x : Int) (w : World) : (method 265 70 (.int .i64 x) "Kind").run Try.prog w = .ok (134, .int .i64 x) w := by kernel_rfl
@[go_sem] theorem method_int (a : Addr) (w : World) : (method 265 73 (.agg #[.pointer (some a)]) "Kind").run Try.prog w = .ok (139, .agg #[.pointer (some a)]) w := by kernel_rfl
theorem kind_i64 (x : Int) (w : World) : Calls Try.prog 134 #[.int .i64 x] w (fun e w' => e = .returned (.int .i64 3) ∧ Below w.heap.size w w') := by
  go_enter Try.func134, Try.ntmps134
  go_wp2
  go_ret
  exact ⟨rfl, Below.refl _ _⟩
theorem kind_int (a : Addr) (w : World) : Calls Try.prog 139 #[.agg #[.pointer (some a)]] w (fun e w' => e = .returned (.int .i64 3) ∧ Below w.heap.size w w') := by
  go_enter Try.func139, Try.ntmps139
  go_wp2
  go_ret
  exact ⟨rfl, (Below.refl _ _).alloc (Nat.le_refl _) _⟩
set_option maxHeartbeats 800000 in
theorem kindOf_any (bs : List Nat) (hlen : bs.length ≤ 1000000) (w : World) (A : Option Addr) (n c : Nat) (hr : Raw w A n c bs) :
    Calls Try.prog 16 #[.slice A n c] w (fun e w' => e = .returned (.int .i64 3) ∧ Below w.heap.size w w') := by
  have C := hide (ofBytes_any bs hlen w A n c hr)
  clear hlen hr
  go_enter Try.func16, Try.ntmps16
  go_wp2_with fail
  refine C.out.mono ?_
  rintro e w1 ⟨v', rfl, hci, hb⟩
  rcases hci with ⟨rfl, h1, h2⟩ | ⟨g, o, neg, m, rfl, hbig, _, _⟩
  · clear h1 h2
    generalize (Dg.val 256 bs : Int) = z at *
    go_wp2_with fail
    refine (kind_i64 z w1).mono ?_
    rintro e w2 ⟨rfl, hb2⟩
    go_wp2
    go_ret
    exact ⟨rfl, hb.trans (hb2.mono hb.size)⟩
  · clear hbig
    go_wp2_with fail
    refine (kind_int ⟨g, o, none⟩ w1).mono ?_
    rintro e w2 ⟨rfl, hb2⟩
    go_wp2
    go_ret
    exact ⟨rfl, hb.trans (hb2.mono hb.size)⟩
set_option maxHeartbeats 800000 in
theorem walk (a0 : Option Addr) (len0 cap0 : Nat) (z0 : List Int) (w : World) (w0 : IsRow .u8 w a0 len0 cap0 z0) :
    Calls Try.prog 6 #[.slice a0 len0 cap0] w fun e w' => e = .returned (.bool true) ∧ Below w.heap.size w w' := by
  obtain ⟨bs, hr⟩ := raw_of w0
  have hlen : len0 ≤ 9223372036854775807 := by have h1 := hr.2.1; have h2 := hr.2.2.1; unfold maxLen at h2; omega
  clear w0
  by_cases h1 : 2147483647 < len0
  · clear hr
    go_enter Try.func6, Try.ntmps6
    go_wp2
    go_ret
    exact ⟨rfl, Below.refl _ _⟩
  · have h1' : len0 ≤ 2147483647 := by omega
    clear h1 hlen
    by_cases h2 : 300 < len0
    · clear hr
      go_enter Try.func6, Try.ntmps6
      go_wp2
      go_ret
      exact ⟨rfl, Below.refl _ _⟩
    · have h2' : len0 ≤ 300 := by omega
      have C := hide (kindOf_any bs (by rw [hr.1]; omega) w a0 len0 cap0 hr)
      clear h1' h2 hr
      go_enter Try.func6, Try.ntmps6
      go_wp2_with (go_at_call 16; refine C.out.mono ?_; rintro e w1 ⟨rfl, hb⟩)
      go_ret
      exact ⟨rfl, hb⟩

/-! ### The row's step. -/
set_option maxRecDepth 100000 in
theorem lifted (os : Os) (started : os.Started) (H : Type) (enc : TypeId × Value → H) :
    ReturnsInHanded {} Try.checked os 6 .any (Rows.fnKindOfSpec.pre6 enc Try.prog Try.f6 Rows.fnKindOfRow.domain false) (Rows.fnKindOfSpec.post enc Try.prog Try.f6 false true false false) := by
  refine returnsInHanded_of_change (C := Try.checked) own started (by kernel_rfl) Try.func6
    (ChangeSpec.witness6 (enc := enc) (C := Try.checked) false ⟨#[], #[.slice none 0 0], []⟩ 8 (by kernel_rfl) (by kernel_rfl) (by kernel_rfl) (by kernel_rfl)) ?_
  intro W base args ds gs before hval0 hW hcnd _
  have hval : ∀ (j : Nat) t v, Try.f6.params[j]? = some t → args[j]? = some v → Value.okWide Try.prog W .any base t v := hval0
  have hW' := hW
  obtain ⟨p, q, hA0, hV, rfl, hfz, hnd⟩ := hW
  have hA : DataW.TrodAll enc Try.prog W 0 (fun _ => true) true Try.f6.params.toList args.toList ds p := hA0
  rw [Try.params6] at hA hval
  obtain ⟨v0, vs0, d0, ds0, p0, q0, hargs, rfl, rfl, h0, r0⟩ := trodAll_cons hA
  obtain ⟨rfl, rfl, rfl⟩ := trodAll_nil r0
  obtain rfl : args = #[v0] := by cases args; simp_all
  obtain ⟨rfl, rfl⟩ := trodVars_none hV
  obtain ⟨a0, len0, cap0, rfl⟩ := okWide_slice Try.underlying35 (hval 0 35 v0 rfl rfl)
  have k0 := h0
  have lt0 : ∀ x ∈ p0, x.block < W.heap.size := by obtain ⟨m, hm⟩ := k0; exact DataW.trod_lt m _ _ _ hm
  obtain ⟨z0, w0⟩ : ∃ zs, IsRow .u8 W a0 len0 cap0 zs := by
    obtain ⟨fuel, hf⟩ := h0
    rcases open_ints Try.underlying35 Try.underlying5 (by kernel_rfl) hf with ⟨hcs, _⟩ | ⟨x, l, c, zs, hcs, _, hl, hm, hz, _, hcell, hwz⟩
    · simp [Value.cells] at hcs
      obtain ⟨rfl, rfl, rfl⟩ := hcs
      exact ⟨[], .inl ⟨rfl, rfl, rfl, rfl⟩⟩
    · simp [Value.cells] at hcs
      obtain ⟨rfl, rfl, rfl⟩ := hcs
      exact ⟨zs, .inr ⟨_, rfl, hl, hm, by simpa using hz, hcell, hwz⟩⟩
  clear hA0 hval0
  refine (walk a0 len0 cap0 z0 W w0).mono fun e W' ⟨he, bel⟩ => ?_
  subst he
  exact ⟨_, rfl, _, _, _, [], _, [], hW', trodAll_mk1 (shut_bool Try.underlying4 _), (trodAll_cons_mk (Below.trod laidOut (by kernel_rfl) (of_decide_eq_true (by kernel_rfl)) k0 bel lt0) trodAll_mk0), rfl, bel.frame _, fun h => by cases h⟩

theorem over : Rows.fnKindOfRow.holds Try.pinned (OpenSpec.ofChange Rows.fnKindOfSpec) :=
  OpenClaim.holds_of_wide 6 Try.f6 rfl rfl rfl rfl rfl rfl rfl ⟨rfl, rfl, rfl, rfl, rfl⟩ rfl rfl rfl rfl rfl (by kernel_rfl) Try.func6 (by kernel_rfl)
    (of_decide_eq_true (by kernel_rfl)) (by unfold Func.isWrapper; first | (rw [if_pos (by decide +kernel)]; kernel_rfl) | (rw [if_neg (by decide +kernel)]; exact ⟨rfl, rfl⟩))
    (fun os started H enc _ => lifted os started H enc)

/-- The statement. -/
theorem proved : Rows.FnKindOfSaid := over
#print axioms proved
end Go.Proofs.Ytipahokhphdafaa.fnKindOf
