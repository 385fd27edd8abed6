/- For every slice of bytes the law FnSignOf returns true: the sign of the number of at most 300 bytes is 0 exactly of noughts, and else 1 (of longer slices the law says nothing). No condition. -/
import Derived.Test.YtipahokhphdafaaRows
import Derived.WalkKit
import Derived.ProofKit
import Derived.OpenShut
import Derived.ShutString
import Derived.ChangeOld
import Derived.Below
import Derived.Test.YtipahokhphdafaaOfBytes
import Derived.Test.YtipahokhphdafaaConst
import Derived.WalkLawsBesides
namespace Go.Proofs.Ytipahokhphdafaa.fnSignOf
open Go.ChangeShapes Go.WideShapes Go.ChangeAt Go.RowKit
open Go.ChangeMaps (open_string shut_string)
set_option linter.unusedVariables false

theorem own : ownKnob Try.prog.godebug = none := by kernel_rfl
theorem laidOut : laidOutB Try.prog = true := by kernel_rfl

def IsRow (k : IntKind) (w : World) (a : Option Addr) (len cap : Nat) (zs : List Int) : Prop :=
  (a = none ∧ len = 0 ∧ cap = 0 ∧ zs = []) ∨
  ∃ x, a = some x ∧ len ≤ cap ∧ cap ≤ maxLen ∧ zs.length = cap ∧ (∀ i, i < zs.length → w.cell? (x.add i) = some (.int k (zs.getD i 0))) ∧ ∀ n ∈ zs, (Lit.int k n).wf = true

set_option maxHeartbeats 800000 in
theorem signOf_any (bs : List Nat) (hlen : bs.length ≤ 1000000) (w : World) (A : Option Addr) (n c : Nat) (hr : Raw w A n c bs) :
    Calls Try.prog 21 #[.slice A n c] w (fun e w' => e = .returned (.int .i64 (sgnI (Dg.val 256 bs))) ∧ Below w.heap.size w w') := by
  have C := hide (ofBytes_any bs hlen w A n c hr)
  clear hlen hr
  go_enter Try.func21, Try.ntmps21
  go_wp2_with fail
  refine C.out.mono ?_
  rintro e w1 ⟨v', rfl, hci, hb⟩
  have C2 := hide (sign_any w1 v' _ hci)
  clear hci
  go_wp2_with fail
  refine C2.out.mono ?_
  rintro e w2 ⟨rfl, hb2⟩
  go_wp2
  go_ret
  exact ⟨rfl, hb.trans (hb2.mono hb.size)⟩
def wnt (n : Nat) : Int := if n = 0 then 0 else 1
theorem wnt_sgn (n : Nat) : sgnI (n : Int) = wnt n := by
  unfold sgnI wnt
  rw [if_neg (by omega)]
  by_cases h : n = 0
  · rw [if_pos (by omega), if_pos h]
  · rw [if_neg (by omega), if_neg h]
theorem wnt_same {bs : List Nat} {k : Nat} (h : 0 = bs.getD k 0) : wnt (Dg.val 256 (bs.take (k + 1))) = wnt (Dg.val 256 (bs.take k)) := by
  rw [Dg.val_take_getD, ← h, Nat.mul_zero, Nat.add_zero]
theorem wnt_one {bs : List Nat} {k d : Nat} (h : d = bs.getD k 0) (hd : 0 < d) : wnt (Dg.val 256 (bs.take (k + 1))) = 1 := by
  have h1 : 0 < 256 ^ k * d := Nat.mul_pos (Nat.pow_pos (by omega)) hd
  unfold wnt
  rw [Dg.val_take_getD, ← h, if_neg (by omega)]
def WantIn (bs : List Nat) (n : Nat) (x i : Value) : Prop := ∃ k : Nat, i = .int .i64 (k : Int) ∧ k ≤ n ∧ x = .int .i64 (wnt (Dg.val 256 (bs.take k)))
theorem raw_one (w : World) : Raw (w.alloc (.cells #[.int .u8 1] 5)) (some ⟨w.heap.size, 0, none⟩) 1 1 [1] := by
  refine ⟨rfl, by omega, by simp [maxLen], by simp, .inr ⟨_, rfl, fun j u hj => ?_⟩⟩
  match j, hj with
  | 0, hj =>
    simp [cB] at hj
    subst hj
    rw [Addr.add_lit]
    exact cell_new1 w (.int .u8 1) 5
set_option maxHeartbeats 1600000 in
theorem walk (a0 : Option Addr) (len0 cap0 : Nat) (z0 : List Int) (w : World) (w0 : IsRow .u8 w a0 len0 cap0 z0) :
    Calls Try.prog 8 #[.slice a0 len0 cap0] w fun e w' => e = .returned (.bool true) ∧ Below w.heap.size w w' := by
  obtain ⟨bs, hr⟩ := raw_of w0
  have hlen : len0 ≤ 9223372036854775807 := by have h1 := hr.2.1; have h2 := hr.2.2.1; unfold maxLen at h2; omega
  clear w0
  by_cases h1 : 2147483647 < len0
  · clear hr
    go_enter Try.func8, Try.ntmps8
    go_wp2
    go_ret
    exact ⟨rfl, Below.refl _ _⟩
  · have h1' : len0 ≤ 2147483647 := by omega
    have Hl := hide hr.1
    have Hlt := hide hr.2.2.2.1
    obtain ⟨A, c, hv, hlc, hcm, hcell⟩ := hr.rd.any
    rw [cB_len, hr.1] at hv hcell
    have hA : A = a0 := by injection hv with e; exact e.symm
    subst hA
    have Hr := hide hr
    have Hc := hide hcell
    clear h1 hlen hr hv hlc hcm hcell
    go_enter Try.func8, Try.ntmps8
    go_wp2
    go_loop [3, 11] (WantIn bs len0) (fun _ i => len0 - (intOf i).toNat)
    case atStart => exact ⟨0, rfl, Nat.zero_le _, by simp [wnt, Dg.val]⟩
    case round =>
      obtain ⟨k, rfl, hk, rfl⟩ := hrel
      by_cases hlt : k < len0
      · obtain ⟨b, o, rfl, hb, hcl⟩ := Hc.out (by omega)
        have hck := hcl k _ (cB_at (l := bs) (j := k) (by rw [Hl.out]; omega))
        have hdl := Dg.getD_lt (by omega) Hlt.out k
        obtain ⟨d, hd⟩ : ∃ d, d = bs.getD k 0 := ⟨_, rfl⟩
        rw [← hd] at hck hdl
        have Hd := hide hd
        clear hd hcl
        rcases Nat.eq_zero_or_pos d with h0 | h0
        · subst h0
          have W := hide (wnt_same Hd.out)
          generalize wnt (Dg.val 256 (bs.take k)) = x at *
          go_wp2
          go_round
          case rel => exact ⟨k + 1, by go_num, by omega, by rw [W.out]⟩
          case measure => simp [intOf]; omega
        · have W := hide (wnt_one Hd.out h0)
          have hne : ((d : Int) != 0) = true := by simp; omega
          generalize wnt (Dg.val 256 (bs.take k)) = x at *
          go_wp2
          go_round
          case rel => exact ⟨k + 1, by go_num, by omega, by rw [W.out]⟩
          case measure => simp [intOf]; omega
      · have hkn : k = len0 := by omega
        subst hkn
        rw [Dg.val_take_all (by rw [Hl.out]; omega)]
        by_cases h2 : 300 < k
        · generalize wnt (Dg.val 256 bs) = x at *
          go_wp2
          go_ret
          exact ⟨rfl, Below.refl _ _⟩
        · have h2' : k ≤ 300 := by omega
          have C := hide (signOf_any bs (by rw [Hl.out]; omega) w A k cap0 Hr.out)
          rw [wnt_sgn] at C
          clear h2 h1'
          generalize wnt (Dg.val 256 bs) = x at *
          go_wp2_with fail
          refine C.out.mono ?_
          rintro e w1 ⟨rfl, hb1⟩
          go_wp2_with fail
          refine (signOf_any [1] (by simp) _ _ 1 1 (raw_one w1)).mono ?_
          rintro e w2 ⟨rfl, hb2⟩
          have e1 : sgnI ((Dg.val 256 [1] : Nat) : Int) = 1 := by decide
          rw [e1]
          go_wp2
          go_ret
          exact ⟨rfl, hb1.trans (below_alloc (hb2.mono (by simp; have := hb1.size; omega)) hb1.size)⟩

/-! ### The row's step. -/
set_option maxRecDepth 100000 in
theorem lifted (os : Os) (started : os.Started) (H : Type) (enc : TypeId × Value → H) :
    ReturnsInHanded {} Try.checked os 8 .any (Rows.fnSignOfSpec.pre6 enc Try.prog Try.f8 Rows.fnSignOfRow.domain false) (Rows.fnSignOfSpec.post enc Try.prog Try.f8 false true false false) := by
  refine returnsInHanded_of_change (C := Try.checked) own started (by kernel_rfl) Try.func8
    (ChangeSpec.witness6 (enc := enc) (C := Try.checked) false ⟨#[], #[.slice none 0 0], []⟩ 8 (by kernel_rfl) (by kernel_rfl) (by kernel_rfl) (by kernel_rfl)) ?_
  intro W base args ds gs before hval0 hW hcnd _
  have hval : ∀ (j : Nat) t v, Try.f8.params[j]? = some t → args[j]? = some v → Value.okWide Try.prog W .any base t v := hval0
  have hW' := hW
  obtain ⟨p, q, hA0, hV, rfl, hfz, hnd⟩ := hW
  have hA : DataW.TrodAll enc Try.prog W 0 (fun _ => true) true Try.f8.params.toList args.toList ds p := hA0
  rw [Try.params8] at hA hval
  obtain ⟨v0, vs0, d0, ds0, p0, q0, hargs, rfl, rfl, h0, r0⟩ := trodAll_cons hA
  obtain ⟨rfl, rfl, rfl⟩ := trodAll_nil r0
  obtain rfl : args = #[v0] := by cases args; simp_all
  obtain ⟨rfl, rfl⟩ := trodVars_none hV
  obtain ⟨a0, len0, cap0, rfl⟩ := okWide_slice Try.underlying35 (hval 0 35 v0 rfl rfl)
  have k0 := h0
  have lt0 : ∀ x ∈ p0, x.block < W.heap.size := by obtain ⟨m, hm⟩ := k0; exact DataW.trod_lt m _ _ _ hm
  obtain ⟨z0, w0⟩ : ∃ zs, IsRow .u8 W a0 len0 cap0 zs := by
    obtain ⟨fuel, hf⟩ := h0
    rcases open_ints Try.underlying35 Try.underlying5 (by kernel_rfl) hf with ⟨hcs, _⟩ | ⟨x, l, c, zs, hcs, _, hl, hm, hz, _, hcell, hwz⟩
    · simp [Value.cells] at hcs
      obtain ⟨rfl, rfl, rfl⟩ := hcs
      exact ⟨[], .inl ⟨rfl, rfl, rfl, rfl⟩⟩
    · simp [Value.cells] at hcs
      obtain ⟨rfl, rfl, rfl⟩ := hcs
      exact ⟨zs, .inr ⟨_, rfl, hl, hm, by simpa using hz, hcell, hwz⟩⟩
  clear hA0 hval0
  refine (walk a0 len0 cap0 z0 W w0).mono fun e W' ⟨he, bel⟩ => ?_
  subst he
  exact ⟨_, rfl, _, _, _, [], _, [], hW', trodAll_mk1 (shut_bool Try.underlying4 _), (trodAll_cons_mk (Below.trod laidOut (by kernel_rfl) (of_decide_eq_true (by kernel_rfl)) k0 bel lt0) trodAll_mk0), rfl, bel.frame _, fun h => by cases h⟩

theorem over : Rows.fnSignOfRow.holds Try.pinned (OpenSpec.ofChange Rows.fnSignOfSpec) :=
  OpenClaim.holds_of_wide 8 Try.f8 rfl rfl rfl rfl rfl rfl rfl ⟨rfl, rfl, rfl, rfl, rfl⟩ rfl rfl rfl rfl rfl (by kernel_rfl) Try.func8 (by kernel_rfl)
    (of_decide_eq_true (by kernel_rfl)) (by unfold Func.isWrapper; first | (rw [if_pos (by decide +kernel)]; kernel_rfl) | (rw [if_neg (by decide +kernel)]; exact ⟨rfl, rfl⟩))
    (fun os started H enc _ => lifted os started H enc)

/-- The statement. -/
theorem proved : Rows.FnSignOfSaid := over
#print axioms proved
end Go.Proofs.Ytipahokhphdafaa.fnSignOf
