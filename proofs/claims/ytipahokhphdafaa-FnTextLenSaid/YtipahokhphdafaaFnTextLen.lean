/- For every text of at most 2^31 - 1 bytes the package's length of it is its number of bytes (and for longer ones the law says nothing): the law FnTextLen returns true for every string. No condition. -/
import Derived.Test.YtipahokhphdafaaRows
import Derived.WalkKit
import Derived.ProofKit
import Derived.OpenShut
import Derived.ShutString
import Derived.Test.YtipahokhphdafaaAsserts
import Derived.Test.YtipahokhphdafaaLocks
import Derived.Conc.MuLone
import Derived.WalkLawsBesides
import Derived.Below
namespace Go.Proofs.Ytipahokhphdafaa.fnTextLen
open Go.ChangeShapes Go.WideShapes Go.ChangeAt Go.RowKit
open Go.ChangeMaps (open_string shut_string)
set_option linter.unusedVariables false

theorem own : ownKnob Try.prog.godebug = none := by kernel_rfl

open Go.MuLone
@[go_sem] theorem as_str_str (v : Value) (w : World) : (Instr.typeAssert (.iface 78 v) 52 78 true).run Try.prog w = .ok (.tuple #[v, .bool true]) w := by kernel_rfl

set_option maxHeartbeats 800000 in
theorem len_any (b : Nat) (s : ByteArray) (hs : s.size ≤ 9223372036854775807) (w : World) (h0 : w.cell? ⟨b, 0, none⟩ = some (.int .i32 0)) (h2 : w.cell? ⟨b, 2, none⟩ = some (.string s)) (h3 : w.cell? ⟨b, 3, none⟩ = some (.pointer none))
    (f0 : w.frozen? ⟨b, 0, none⟩ = false) :
    Calls Try.prog 46 #[.pointer (some ⟨b, 0, none⟩)] w fun e w' => e = .returned (.int .i64 (s.size : Int)) ∧ w' = (w.setCell ⟨b, 0, none⟩ (.int .i32 1)).setCell ⟨b, 0, none⟩ (.int .i32 0) := by
  go_enter_defers Try.func46, Try.ntmps46
  go_wp2_with (go_at_call 60; refine (lock_free muLib ⟨b, 0, none⟩ _ h0 f0).mono ?_; rintro e w' ⟨rfl, rfl⟩)
  refine leaves_cons (f := 61) (args := #[.pointer (some ⟨b, 0, none⟩)]) (by simp) (by simp [go_sem]) ?_
  refine (unlock_deferred muLib ⟨b, 0, none⟩ .returning _ ?_ ?_).mono ?_
  · exact World.cell?_setCell_same w ⟨b, 0, none⟩ (.int .i32 1) h0
  · simp [f0]
  rintro e u' w'' ⟨rfl, rfl, rfl⟩
  exact ⟨_, results_tmp rfl _ _ _, rfl, rfl⟩

theorem len_new (s : ByteArray) (hs : s.size ≤ 9223372036854775807) (w : World) :
    Calls Try.prog 46 #[.pointer (some ⟨w.heap.size, 0, none⟩)] (w.alloc (.cells #[.int .i32 0, .int .u32 0, .string s, .pointer none, .pointer none] 87)) fun e w' => e = .returned (.int .i64 (s.size : Int)) ∧ Below w.heap.size w w' := by
  refine (len_any w.heap.size s hs _ (by simp [World.cell?_alloc_new]) (by simp [World.cell?_alloc_new]) (by simp [World.cell?_alloc_new]) (by simp [go_sem])).mono fun e w' h => ⟨h.1, ?_⟩
  rw [h.2]
  exact (((Below.refl _ _).alloc (Nat.le_refl _) _).setCell (Nat.le_refl _) _).setCell (Nat.le_refl _) _

set_option maxHeartbeats 800000 in
theorem textLen_any (s : ByteArray) (hs : s.size ≤ 9223372036854775807) (w : World) :
    Calls Try.prog 12 #[.string s] w fun e w' => e = .returned (.int .i64 (s.size : Int)) ∧ Below w.heap.size w w' := by
  by_cases he : s.size = 0
  · obtain rfl : s = ⟨#[]⟩ := by
      obtain ⟨⟨l⟩⟩ := s
      have : l = [] := List.eq_nil_of_length_eq_zero (by simpa [ByteArray.size] using he)
      rw [this]
    clear he
    go_enter Try.func12, Try.ntmps12
    go_wp2_with (first | (go_at_call 29; go_in) | (go_at_call 28; go_in))
    refine (len_new ⟨#[]⟩ hs w).mono ?_
    rintro e w' ⟨rfl, hb⟩
    go_wp2
    go_ret
    exact ⟨rfl, hb⟩
  · have hne : s.toList.isEmpty = false := by
      obtain ⟨⟨l⟩⟩ := s
      cases l with
      | nil => simp [ByteArray.size] at he
      | cons a l => simp [ByteArray.toList_eq]
    clear he
    go_enter Try.func12, Try.ntmps12
    go_wp2_with (first | (go_at_call 29; go_in) | (go_at_call 28; go_in))
    refine (len_new s hs w).mono ?_
    rintro e w' ⟨rfl, hb⟩
    go_wp2
    go_ret
    exact ⟨rfl, hb⟩
set_option maxHeartbeats 800000 in
theorem walk (a0 : ByteArray) (w0 : a0.size ≤ maxLen) (w : World) :
    Calls Try.prog 4 #[.string a0] w fun e w' => e = .returned (.bool true) ∧ Below w.heap.size w w' := by
  unfold maxLen at w0
  by_cases h : 2147483647 < a0.size
  · go_enter Try.func4, Try.ntmps4
    go_wp2
    go_ret
    exact ⟨rfl, Below.refl _ _⟩
  · have h' : a0.size ≤ 2147483647 := by omega
    clear h
    go_enter Try.func4, Try.ntmps4
    go_wp2_with fail
    refine (textLen_any a0 (by omega) _).mono ?_
    rintro e w1 ⟨rfl, hb1⟩
    go_wp2_with fail
    refine (textLen_any ⟨#[97, 98, 99]⟩ (by decide) _).mono ?_
    rintro e w2 ⟨rfl, hb2⟩
    go_wp2
    go_ret
    exact ⟨rfl, hb1.trans (hb2.mono hb1.size)⟩

/-! ### The row's step. -/
set_option maxRecDepth 100000 in
theorem lifted (os : Os) (started : os.Started) (H : Type) (enc : TypeId × Value → H) :
    ReturnsInHanded {} Try.checked os 4 .any (Rows.fnTextLenSpec.pre6 enc Try.prog Try.f4 Rows.fnTextLenRow.domain false) (Rows.fnTextLenSpec.post enc Try.prog Try.f4 false true false false) := by
  refine returnsInHanded_of_change (C := Try.checked) own started (by kernel_rfl) Try.func4
    (ChangeSpec.witness6 (enc := enc) (C := Try.checked) false ⟨#[], #[.string ByteArray.empty], []⟩ 8 (by kernel_rfl) (by kernel_rfl) (by kernel_rfl) (by kernel_rfl)) ?_
  intro W base args ds gs before hval0 hW hcnd _
  have hval : ∀ (j : Nat) t v, Try.f4.params[j]? = some t → args[j]? = some v → Value.okWide Try.prog W .any base t v := hval0
  have hW' := hW
  obtain ⟨p, q, hA0, hV, rfl, hfz, hnd⟩ := hW
  have hA : DataW.TrodAll enc Try.prog W 0 (fun _ => true) true Try.f4.params.toList args.toList ds p := hA0
  rw [Try.params4] at hA hval
  obtain ⟨v0, vs0, d0, ds0, p0, q0, hargs, rfl, rfl, h0, r0⟩ := trodAll_cons hA
  obtain ⟨rfl, rfl, rfl⟩ := trodAll_nil r0
  obtain rfl : args = #[v0] := by cases args; simp_all
  obtain ⟨rfl, rfl⟩ := trodVars_none hV
  obtain ⟨a0, rfl, rfl, rfl, w0⟩ := open_string Try.underlying9 (hval 0 9 v0 rfl rfl) h0
  clear hA0 hval0
  simp only [List.append_nil] at hW'
  refine (walk a0 w0 W).mono fun e W' ⟨he, bel⟩ => ?_
  subst he
  exact ⟨_, rfl, _, _, _, [], [], [], hW', (trodAll_cons_mk (shut_bool Try.underlying4 _) trodAll_mk0), (trodAll_cons_mk (shut_string Try.underlying9 w0) trodAll_mk0), rfl, bel.frame _, fun h => by cases h⟩

theorem over : Rows.fnTextLenRow.holds Try.pinned (OpenSpec.ofChange Rows.fnTextLenSpec) :=
  OpenClaim.holds_of_wide 4 Try.f4 rfl rfl rfl rfl rfl rfl rfl ⟨rfl, rfl, rfl, rfl, rfl⟩ rfl rfl rfl rfl rfl (by kernel_rfl) Try.func4 (by kernel_rfl)
    (of_decide_eq_true (by kernel_rfl)) (by unfold Func.isWrapper; first | (rw [if_pos (by decide +kernel)]; kernel_rfl) | (rw [if_neg (by decide +kernel)]; exact ⟨rfl, rfl⟩))
    (fun os started H enc _ => lifted os started H enc)

/-- The statement. -/
theorem proved : Rows.FnTextLenSaid :=
  over
#print axioms proved
end Go.Proofs.Ytipahokhphdafaa.fnTextLen
