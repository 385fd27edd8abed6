/- For every slice of bytes the law FnUint64Of returns true: the number of at most 300 bytes as a uint64 is exact exactly if it has at most 64 bits, and then it is that number (of longer slices the law says nothing). No condition. -/
import Derived.Test.YtipahokhphdafaaRows
import Derived.WalkKit
import Derived.ProofKit
import Derived.OpenShut
import Derived.ShutString
import Derived.ChangeOld
import Derived.Below
import Derived.Test.YtipahokhphdafaaNatural
import Derived.Test.YtipahokhphdafaaConst
import Derived.Test.YtipahokhphdafaaSpecC
import Derived.WalkLawsBesides
namespace Go.Proofs.Ytipahokhphdafaa.fnUint64Of
open Go.ChangeShapes Go.WideShapes Go.ChangeAt Go.RowKit
open Go.ChangeMaps (open_string shut_string)
set_option linter.unusedVariables false

theorem own : ownKnob Try.prog.godebug = none := by kernel_rfl
theorem laidOut : laidOutB Try.prog = true := by kernel_rfl

def IsRow (k : IntKind) (w : World) (a : Option Addr) (len cap : Nat) (zs : List Int) : Prop :=
  (a = none ∧ len = 0 ∧ cap = 0 ∧ zs = []) ∨
  ∃ x, a = some x ∧ len ≤ cap ∧ cap ≤ maxLen ∧ zs.length = cap ∧ (∀ i, i < zs.length → w.cell? (x.add i) = some (.int k (zs.getD i 0))) ∧ ∀ n ∈ zs, (Lit.int k n).wf = true

set_option maxHeartbeats 800000 in
theorem uint64Of_any (bs : List Nat) (hlen : bs.length ≤ 300) (w : World) (A : Option Addr) (n c : Nat) (hr : Raw w A n c bs) :
    Calls Try.prog 17 #[.slice A n c] w (fun e w' => (∃ u : Nat, e = .returned (.tuple #[.int .u64 (u : Int), .bool (decide (Dg.val 256 bs < W64))]) ∧ u < W64 ∧ (Dg.val 256 bs < W64 → u = Dg.val 256 bs)) ∧ Below w.heap.size w w') := by
  have C := hide (ofBytes_any bs (by omega) w A n c hr)
  have Hw := hide (words_len hr.2.2.2.1 hlen)
  clear hlen hr
  go_enter Try.func17, Try.ntmps17
  go_wp2_with fail
  refine C.out.mono ?_
  rintro e w1 ⟨v', rfl, hci, hb⟩
  have C2 := hide (uint64Val_nat w1 v' _ hci Hw.out)
  clear hci
  go_wp2_with fail
  refine C2.out.mono ?_
  rintro e w2 ⟨⟨u, rfl, hu1, hu2⟩, hb2⟩
  have Hu := hide (And.intro hu1 hu2)
  clear hu1 hu2
  go_wp2
  go_ret2
  exact ⟨⟨u, rfl, Hu.out⟩, hb.trans (hb2.mono hb.size)⟩
theorem bl64_iff (n : Nat) : decide ((Dg.bl n : Int) ≤ 64) = decide (n < W64) := by
  have h := @Dg.lt_pow_iff_bl n 64
  have e : (2 : Nat) ^ 64 = W64 := rfl
  rw [e] at h
  by_cases h1 : n < W64
  · have := h.1 h1
    rw [decide_eq_true h1, decide_eq_true (by omega)]
  · have : ¬ Dg.bl n ≤ 64 := fun h2 => h1 (h.2 h2)
    rw [decide_eq_false h1, decide_eq_false (by omega)]
set_option maxHeartbeats 1600000 in
theorem walk (a0 : Option Addr) (len0 cap0 : Nat) (z0 : List Int) (w : World) (w0 : IsRow .u8 w a0 len0 cap0 z0) :
    Calls Try.prog 7 #[.slice a0 len0 cap0] w fun e w' => e = .returned (.bool true) ∧ Below w.heap.size w w' := by
  obtain ⟨bs, hr⟩ := raw_of w0
  have hlen : len0 ≤ 9223372036854775807 := by have h1 := hr.2.1; have h2 := hr.2.2.1; unfold maxLen at h2; omega
  clear w0
  by_cases h1 : 2147483647 < len0
  · clear hr
    go_enter Try.func7, Try.ntmps7
    go_wp2
    go_ret
    exact ⟨rfl, Below.refl _ _⟩
  · have h1' : len0 ≤ 2147483647 := by omega
    clear h1 hlen
    by_cases h2 : 300 < len0
    · clear hr
      go_enter Try.func7, Try.ntmps7
      go_wp2
      go_ret
      exact ⟨rfl, Below.refl _ _⟩
    · have h2' : len0 ≤ 300 := by omega
      have hbl : bs.length ≤ 300 := by rw [hr.1]; omega
      have C := hide (uint64Of_any bs hbl w a0 len0 cap0 hr)
      have Hr := hide hr
      have Hbl := hide hbl
      have Hdl := hide (Dg.digs_len_le (B := 65536) (by omega) (val256_lt hr.2.2.2.1 300))
      rw [Dg.val_take_all hbl] at Hdl
      clear h1' h2 hr hbl
      have B64 := hide (bl64_iff (Dg.val 256 bs))
      generalize hN : Dg.val 256 bs = N at *
      have HN := hide hN
      clear hN
      go_enter Try.func7, Try.ntmps7
      go_wp2_with fail
      refine C.out.mono ?_
      rintro e w1 ⟨⟨u, rfl, hu1, hu2⟩, hb⟩
      have Hu1 := hide hu1
      have Hu2 := hide hu2
      clear hu1 hu2
      have C2 := natural_any bs Hbl.out w1 a0 len0 cap0 (Hr.out.below hb)
      rw [HN.out] at C2
      go_wp2_with fail
      refine C2.mono ?_
      rintro e w2 ⟨v2, rfl, hv2, hb2⟩
      have C3 := len_any (Dg.digs 65536 N) (Dg.can_digs (by omega) _) (by have := Hdl.out; omega) w2 v2 hv2
      rw [Dg.val_digs (by omega)] at C3
      have HV := hide hv2
      clear C2 hv2
      go_wp2_with fail
      refine C3.mono ?_
      rintro e w3 ⟨rfl, rfl⟩
      clear C3
      by_cases hN : N < W64
      · have hb64 : Dg.bl N ≤ 64 := by
          have := B64.out
          rw [decide_eq_true hN] at this
          have := of_decide_eq_true this
          omega
        have hu : u = N := Hu2.out hN
        subst hu
        have hd : decide (u < W64) = true := by simpa using hN
        rw [hd]
        have HN1 := hide hN
        have HD := hide hd
        clear hN hd
        go_wp2_with fail
        have R1 := rd_one w2 (.int .u64 (u : Int)) 42
        refine (of_any [u] (by intro x hx; rw [List.mem_singleton.1 hx]; exact HN1.out) (by simp) _ _ R1).mono ?_
        rintro e w3 ⟨v3, rfl, hv3, hb3⟩
        rw [val_one] at hv3
        clear R1
        have C5 := cmp_any (Dg.digs 65536 u) (Dg.digs 65536 u) (Dg.can_digs (by omega) _) (Dg.can_digs (by omega) _) (by have := Hdl.out; omega) w3 v3 v2 hv3 ((HV.out.alloc _).below hb3)
        replace C5 := C5.mono (R' := fun e w' => e = .returned (.int .i64 0) ∧ Below w3.heap.size w3 w') fun e w' h => ⟨by rw [h.1, Dg.cmp_eq], h.2⟩
        clear hv3
        go_wp2_with fail
        refine C5.mono ?_
        rintro e w4 ⟨rfl, hb4⟩
        clear C5
        go_wp2
        go_ret
        have hbA : Below w.heap.size w w2 := hb.trans (hb2.mono hb.size)
        exact ⟨rfl, hbA.trans (((below_alloc (hb3.mono (by simp)) (Nat.le_refl _)).trans (hb4.mono (by have := hb3.size; simp at this; omega))).mono hbA.size)⟩
      · have hb64 : 64 < Dg.bl N := by
          have := B64.out
          rw [decide_eq_false hN] at this
          have := of_decide_eq_false this
          omega
        have hd : decide (N < W64) = false := by simpa using hN
        rw [hd]
        have HN1 := hide hN
        have HD := hide hd
        clear hN hd
        go_wp2
        go_ret
        exact ⟨ret_bool (by simp; omega), hb.trans (hb2.mono hb.size)⟩

/-! ### The row's step. -/
set_option maxRecDepth 100000 in
theorem lifted (os : Os) (started : os.Started) (H : Type) (enc : TypeId × Value → H) :
    ReturnsInHanded {} Try.checked os 7 .any (Rows.fnUint64OfSpec.pre6 enc Try.prog Try.f7 Rows.fnUint64OfRow.domain false) (Rows.fnUint64OfSpec.post enc Try.prog Try.f7 false true false false) := by
  refine returnsInHanded_of_change (C := Try.checked) own started (by kernel_rfl) Try.func7
    (ChangeSpec.witness6 (enc := enc) (C := Try.checked) false ⟨#[], #[.slice none 0 0], []⟩ 8 (by kernel_rfl) (by kernel_rfl) (by kernel_rfl) (by kernel_rfl)) ?_
  intro W base args ds gs before hval0 hW hcnd _
  have hval : ∀ (j : Nat) t v, Try.f7.params[j]? = some t → args[j]? = some v → Value.okWide Try.prog W .any base t v := hval0
  have hW' := hW
  obtain ⟨p, q, hA0, hV, rfl, hfz, hnd⟩ := hW
  have hA : DataW.TrodAll enc Try.prog W 0 (fun _ => true) true Try.f7.params.toList args.toList ds p := hA0
  rw [Try.params7] at hA hval
  obtain ⟨v0, vs0, d0, ds0, p0, q0, hargs, rfl, rfl, h0, r0⟩ := trodAll_cons hA
  obtain ⟨rfl, rfl, rfl⟩ := trodAll_nil r0
  obtain rfl : args = #[v0] := by cases args; simp_all
  obtain ⟨rfl, rfl⟩ := trodVars_none hV
  obtain ⟨a0, len0, cap0, rfl⟩ := okWide_slice Try.underlying35 (hval 0 35 v0 rfl rfl)
  have k0 := h0
  have lt0 : ∀ x ∈ p0, x.block < W.heap.size := by obtain ⟨m, hm⟩ := k0; exact DataW.trod_lt m _ _ _ hm
  obtain ⟨z0, w0⟩ : ∃ zs, IsRow .u8 W a0 len0 cap0 zs := by
    obtain ⟨fuel, hf⟩ := h0
    rcases open_ints Try.underlying35 Try.underlying5 (by kernel_rfl) hf with ⟨hcs, _⟩ | ⟨x, l, c, zs, hcs, _, hl, hm, hz, _, hcell, hwz⟩
    · simp [Value.cells] at hcs
      obtain ⟨rfl, rfl, rfl⟩ := hcs
      exact ⟨[], .inl ⟨rfl, rfl, rfl, rfl⟩⟩
    · simp [Value.cells] at hcs
      obtain ⟨rfl, rfl, rfl⟩ := hcs
      exact ⟨zs, .inr ⟨_, rfl, hl, hm, by simpa using hz, hcell, hwz⟩⟩
  clear hA0 hval0
  refine (walk a0 len0 cap0 z0 W w0).mono fun e W' ⟨he, bel⟩ => ?_
  subst he
  exact ⟨_, rfl, _, _, _, [], _, [], hW', trodAll_mk1 (shut_bool Try.underlying4 _), (trodAll_cons_mk (Below.trod laidOut (by kernel_rfl) (of_decide_eq_true (by kernel_rfl)) k0 bel lt0) trodAll_mk0), rfl, bel.frame _, fun h => by cases h⟩

theorem over : Rows.fnUint64OfRow.holds Try.pinned (OpenSpec.ofChange Rows.fnUint64OfSpec) :=
  OpenClaim.holds_of_wide 7 Try.f7 rfl rfl rfl rfl rfl rfl rfl ⟨rfl, rfl, rfl, rfl, rfl⟩ rfl rfl rfl rfl rfl (by kernel_rfl) Try.func7 (by kernel_rfl)
    (of_decide_eq_true (by kernel_rfl)) (by unfold Func.isWrapper; first | (rw [if_pos (by decide +kernel)]; kernel_rfl) | (rw [if_neg (by decide +kernel)]; exact ⟨rfl, rfl⟩))
    (fun os started H enc _ => lifted os started H enc)

/-- The statement. -/
theorem proved : Rows.FnUint64OfSaid := over
#print axioms proved
end Go.Proofs.Ytipahokhphdafaa.fnUint64Of
