/- For every slice of bytes the law FnLenOf returns true: the number of at most 300 bytes has as many bits as the reference reckons (of longer slices the law says nothing). No condition. -/
import Derived.Test.YtipahokhphdafaaRows
import Derived.WalkKit
import Derived.ProofKit
import Derived.OpenShut
import Derived.ShutString
import Derived.ChangeOld
import Derived.Below
import Derived.Test.YtipahokhphdafaaNatural
import Derived.Test.YtipahokhphdafaaConst
import Derived.WalkLawsBesides
namespace Go.Proofs.Ytipahokhphdafaa.fnLenOf
open Go.ChangeShapes Go.WideShapes Go.ChangeAt Go.RowKit
open Go.ChangeMaps (open_string shut_string)
set_option linter.unusedVariables false

theorem own : ownKnob Try.prog.godebug = none := by kernel_rfl
theorem laidOut : laidOutB Try.prog = true := by kernel_rfl

def IsRow (k : IntKind) (w : World) (a : Option Addr) (len cap : Nat) (zs : List Int) : Prop :=
  (a = none ∧ len = 0 ∧ cap = 0 ∧ zs = []) ∨
  ∃ x, a = some x ∧ len ≤ cap ∧ cap ≤ maxLen ∧ zs.length = cap ∧ (∀ i, i < zs.length → w.cell? (x.add i) = some (.int k (zs.getD i 0))) ∧ ∀ n ∈ zs, (Lit.int k n).wf = true

set_option maxHeartbeats 800000 in
theorem lenOf_any (bs : List Nat) (hlen : bs.length ≤ 300) (w : World) (A : Option Addr) (n c : Nat) (hr : Raw w A n c bs) :
    Calls Try.prog 22 #[.slice A n c] w (fun e w' => e = .returned (.int .i64 ((Dg.bl (Dg.val 256 bs) : Nat) : Int)) ∧ Below w.heap.size w w') := by
  have C := hide (ofBytes_any bs (by omega) w A n c hr)
  have Hw := hide (words_len hr.2.2.2.1 hlen)
  clear hlen hr
  go_enter Try.func22, Try.ntmps22
  go_wp2_with fail
  refine C.out.mono ?_
  rintro e w1 ⟨v', rfl, hci, hb⟩
  have C2 := hide (bitLen_const w1 v' _ hci (by rw [Int.natAbs_natCast]; exact Hw.out))
  rw [Int.natAbs_natCast] at C2
  clear hci
  go_wp2_with fail
  refine C2.out.mono ?_
  rintro e w2 ⟨rfl, hb2⟩
  go_wp2
  go_ret
  exact ⟨rfl, hb.trans (hb2.mono hb.size)⟩
set_option maxHeartbeats 1600000 in
theorem walk (a0 : Option Addr) (len0 cap0 : Nat) (z0 : List Int) (w : World) (w0 : IsRow .u8 w a0 len0 cap0 z0) :
    Calls Try.prog 9 #[.slice a0 len0 cap0] w fun e w' => e = .returned (.bool true) ∧ Below w.heap.size w w' := by
  obtain ⟨bs, hr⟩ := raw_of w0
  have hlen : len0 ≤ 9223372036854775807 := by have h1 := hr.2.1; have h2 := hr.2.2.1; unfold maxLen at h2; omega
  clear w0
  by_cases h1 : 2147483647 < len0
  · clear hr
    go_enter Try.func9, Try.ntmps9
    go_wp2
    go_ret
    exact ⟨rfl, Below.refl _ _⟩
  · have h1' : len0 ≤ 2147483647 := by omega
    clear h1 hlen
    by_cases h2 : 300 < len0
    · clear hr
      go_enter Try.func9, Try.ntmps9
      go_wp2
      go_ret
      exact ⟨rfl, Below.refl _ _⟩
    · have h2' : len0 ≤ 300 := by omega
      have hbl : bs.length ≤ 300 := by rw [hr.1]; omega
      have C := hide (lenOf_any bs hbl w a0 len0 cap0 hr)
      have Hr := hide hr
      have Hbl := hide hbl
      have Hdl := hide (Dg.digs_len_le (B := 65536) (by omega) (val256_lt hr.2.2.2.1 300))
      rw [Dg.val_take_all hbl] at Hdl
      clear h1' h2 hr hbl
      go_enter Try.func9, Try.ntmps9
      go_wp2_with fail
      refine C.out.mono ?_
      rintro e w1 ⟨rfl, hb⟩
      go_wp2_with fail
      refine (natural_any bs Hbl.out w1 a0 len0 cap0 (Hr.out.below hb)).mono ?_
      rintro e w2 ⟨v2, rfl, hv2, hb2⟩
      have C3 := len_any (Dg.digs 65536 (Dg.val 256 bs)) (Dg.can_digs (by omega) _) (by have := Hdl.out; omega) w2 v2 hv2
      rw [Dg.val_digs (by omega)] at C3
      go_wp2_with fail
      refine C3.mono ?_
      rintro e w3 ⟨rfl, rfl⟩
      go_wp2
      go_ret
      exact ⟨rfl, hb.trans (hb2.mono hb.size)⟩

/-! ### The row's step. -/
set_option maxRecDepth 100000 in
theorem lifted (os : Os) (started : os.Started) (H : Type) (enc : TypeId × Value → H) :
    ReturnsInHanded {} Try.checked os 9 .any (Rows.fnLenOfSpec.pre6 enc Try.prog Try.f9 Rows.fnLenOfRow.domain false) (Rows.fnLenOfSpec.post enc Try.prog Try.f9 false true false false) := by
  refine returnsInHanded_of_change (C := Try.checked) own started (by kernel_rfl) Try.func9
    (ChangeSpec.witness6 (enc := enc) (C := Try.checked) false ⟨#[], #[.slice none 0 0], []⟩ 8 (by kernel_rfl) (by kernel_rfl) (by kernel_rfl) (by kernel_rfl)) ?_
  intro W base args ds gs before hval0 hW hcnd _
  have hval : ∀ (j : Nat) t v, Try.f9.params[j]? = some t → args[j]? = some v → Value.okWide Try.prog W .any base t v := hval0
  have hW' := hW
  obtain ⟨p, q, hA0, hV, rfl, hfz, hnd⟩ := hW
  have hA : DataW.TrodAll enc Try.prog W 0 (fun _ => true) true Try.f9.params.toList args.toList ds p := hA0
  rw [Try.params9] at hA hval
  obtain ⟨v0, vs0, d0, ds0, p0, q0, hargs, rfl, rfl, h0, r0⟩ := trodAll_cons hA
  obtain ⟨rfl, rfl, rfl⟩ := trodAll_nil r0
  obtain rfl : args = #[v0] := by cases args; simp_all
  obtain ⟨rfl, rfl⟩ := trodVars_none hV
  obtain ⟨a0, len0, cap0, rfl⟩ := okWide_slice Try.underlying35 (hval 0 35 v0 rfl rfl)
  have k0 := h0
  have lt0 : ∀ x ∈ p0, x.block < W.heap.size := by obtain ⟨m, hm⟩ := k0; exact DataW.trod_lt m _ _ _ hm
  obtain ⟨z0, w0⟩ : ∃ zs, IsRow .u8 W a0 len0 cap0 zs := by
    obtain ⟨fuel, hf⟩ := h0
    rcases open_ints Try.underlying35 Try.underlying5 (by kernel_rfl) hf with ⟨hcs, _⟩ | ⟨x, l, c, zs, hcs, _, hl, hm, hz, _, hcell, hwz⟩
    · simp [Value.cells] at hcs
      obtain ⟨rfl, rfl, rfl⟩ := hcs
      exact ⟨[], .inl ⟨rfl, rfl, rfl, rfl⟩⟩
    · simp [Value.cells] at hcs
      obtain ⟨rfl, rfl, rfl⟩ := hcs
      exact ⟨zs, .inr ⟨_, rfl, hl, hm, by simpa using hz, hcell, hwz⟩⟩
  clear hA0 hval0
  refine (walk a0 len0 cap0 z0 W w0).mono fun e W' ⟨he, bel⟩ => ?_
  subst he
  exact ⟨_, rfl, _, _, _, [], _, [], hW', trodAll_mk1 (shut_bool Try.underlying4 _), (trodAll_cons_mk (Below.trod laidOut (by kernel_rfl) (of_decide_eq_true (by kernel_rfl)) k0 bel lt0) trodAll_mk0), rfl, bel.frame _, fun h => by cases h⟩

theorem over : Rows.fnLenOfRow.holds Try.pinned (OpenSpec.ofChange Rows.fnLenOfSpec) :=
  OpenClaim.holds_of_wide 9 Try.f9 rfl rfl rfl rfl rfl rfl rfl ⟨rfl, rfl, rfl, rfl, rfl⟩ rfl rfl rfl rfl rfl (by kernel_rfl) Try.func9 (by kernel_rfl)
    (of_decide_eq_true (by kernel_rfl)) (by unfold Func.isWrapper; first | (rw [if_pos (by decide +kernel)]; kernel_rfl) | (rw [if_neg (by decide +kernel)]; exact ⟨rfl, rfl⟩))
    (fun os started H enc _ => lifted os started H enc)

/-- The statement. -/
theorem proved : Rows.FnLenOfSaid := over
#print axioms proved
end Go.Proofs.Ytipahokhphdafaa.fnLenOf
