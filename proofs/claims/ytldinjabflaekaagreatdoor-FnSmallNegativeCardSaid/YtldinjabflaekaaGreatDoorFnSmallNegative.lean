/- For each int64 a the law FnSmallNegative returns true: -a, where it fits an int64 (of 0 and of the least one the package goes through its great integers), and +a. No condition of its own: the listed variables are not read. -/
import Derived.Test.YtldinjabflaekaaGreatDoorRows
import Derived.Test.YtldinjabflaekaaGreatDoorTie
import Derived.Test.YtldinjabflaekaaGreatDoorCards
import Derived.WalkKit
import Derived.ProofKit
import Derived.LaidMore
import Derived.OpenShut
import Derived.Stop.Joined
import Derived.SevenTiedAt
import Derived.Carry
import Derived.Below
import Derived.Test.YtldinjabflaekaaGreatDoorVars
import Derived.Test.YtldinjabflaekaaGreatDoorSmallNeg
namespace Go.Proofs.YtldinjabflaekaaGreatDoor.fnSmallNegative
open Go.ChangeShapes Go.WideShapes Go.ChangeAt Go.RowKit
open Go.ChangeMaps (open_string shut_string)
set_option linter.unusedVariables false
theorem own : ownKnob Tryz.prog.godebug = none := by kernel_rfl
theorem walk (a : Int) (w0 : (Lit.int .i64 a).wf = true) (w : World) : Calls Tryz.prog 8 #[.int .i64 a] w fun e w' => e = .returned (.bool true) ∧ Below w.heap.size w w' := smallNegative_walk a w0 w

/-! ### The row's step. -/
theorem door_met (os : Os) (args : Array Value) : laidMetH Tryz.prog Rows.fnSmallNegativeRow.laid ((World.doorLaid Tryz.prog 400 os).forCall (fun _ _ => 0) ⟨#[], args, []⟩).memory :=
  laidMetH_of_parts3 (fuel := 8) (laidMet_of_run' 8 (by kernel_rfl) (by kernel_rfl)) (by kernel_rfl) (by kernel_rfl)
set_option maxRecDepth 100000 in
theorem lifted (os : Os) (started : os.Started) (H : Type) (enc : TypeId × Value → H) :
    ReturnsInHanded {} Tryz.checked os 8 .any (fun w args => (Rows.fnSmallNegativeSpec.pre enc Tryz.prog Tryz.f8 [] false w args ∧ laidMetH Tryz.prog Rows.fnSmallNegativeRow.laid w) ∧ sizedMet enc Tryz.prog Tryz.f8 (OpenSpec.ofChange Rows.fnSmallNegativeSpec) false w args)
      (Rows.fnSmallNegativeSpec.post enc Tryz.prog Tryz.f8 false true false false) := by
  refine returnsInHanded_of_change_and (C := Tryz.checked) (X := fun w _ => laidMetH Tryz.prog Rows.fnSmallNegativeRow.laid w) (fun _ _ _ hh h => h.of_heap hh) own started (by kernel_rfl) Tryz.func8
    (ChangeSpec.witness_shaped (enc := enc) (C := Tryz.checked) (os := os) (X := fun w _ => laidMetH Tryz.prog Rows.fnSmallNegativeRow.laid w) false (World.doorLaid Tryz.prog 400 os) #[.int .i64 0] 8 rfl (World.shaped_of_RefB (by kernel_rfl) (by kernel_rfl)) (by kernel_rfl) (by kernel_rfl) (by kernel_rfl) (door_met os _)) ?_
  intro W base args ds gs before hval0 hW _ _ hL _
  have hval : ∀ (j : Nat) t v, Tryz.f8.params[j]? = some t → args[j]? = some v → Value.okWide Tryz.prog W .any base t v := hval0
  have hW' := hW
  obtain ⟨p, q, hA0, hV, rfl, hfz, hnd⟩ := hW
  have hA : DataW.TrodAll enc Tryz.prog W 0 (fun _ => true) true Tryz.f8.params.toList args.toList ds p := hA0
  rw [Tryz.params8] at hA hval
  obtain ⟨v0, vs0, d0, ds0, p0, q0, hargs, rfl, rfl, h0, r0⟩ := trodAll_cons hA
  obtain ⟨rfl, rfl, rfl⟩ := trodAll_nil r0
  obtain rfl : args = #[v0] := by cases args; simp_all
  obtain ⟨a0, rfl, rfl, rfl, w0⟩ := open_int Tryz.underlying2 (hval 0 2 v0 rfl rfl) h0
  clear hA0 hval0
  obtain ⟨g0, g1, g2, g3, rfl⟩ : ∃ g0 g1 g2 g3, gs = [g0, g1, g2, g3] := vars4 hV
  have ltq : ∀ y ∈ q, y.block < W.heap.size := fun y hy => hW'.lt y (List.mem_append_right _ hy)
  refine (walk a0 w0 W).mono fun e W' ⟨he, bel⟩ => ?_
  subst he
  exact ⟨_, rfl, _, _, _, [], _, _, hW', trodAll_mk1 (shut_bool Tryz.underlying4 _), trodAll_mk1 (shut_int Tryz.underlying2 w0), trodVars_below bel _ (by kernel_rfl) _ _ hV ltq, bel.frame _, fun h => by cases h⟩

theorem over : Rows.fnSmallNegativeRow.holds Tryz.pinned (OpenSpec.ofChange Rows.fnSmallNegativeSpec) :=
  OpenClaim.holds_of_wide 8 Tryz.f8 rfl rfl rfl rfl rfl rfl rfl ⟨rfl, rfl, rfl, rfl, rfl⟩ rfl rfl rfl rfl rfl (by kernel_rfl) Tryz.func8 (by kernel_rfl)
    (of_decide_eq_true (by kernel_rfl)) (by unfold Func.isWrapper; first | (rw [if_pos (by decide +kernel)]; kernel_rfl) | (rw [if_neg (by decide +kernel)]; exact ⟨rfl, rfl⟩))
    (fun os started H enc _ => lifted os started H enc)

/-- The statement: the tied card. -/
theorem proved : Rows.FnSmallNegativeCardSaid :=
  Claim7.holds_tied_plain_at .later [] [.data, .data, .data, .data] true (true, "edf3aaee086d50abbea0b5081f0bff55e0c609b9ba96cc325b5d07077c524306") true
    over (fun _ h => by cases h) (by kernel_rfl) (fun _ h => by cases h) fnSmallNegative_row_tie rfl ⟨rfl, rfl⟩ (by kernel_rfl) rfl
    (fun f fn hf hfn => by
      obtain rfl : f = 8 := Option.some.inj ((show Tryz.prog.funcNamed "loop.example/pub-g03237/laws.FnSmallNegative" = some 8 by kernel_rfl).symm.trans hf) |>.symm
      obtain rfl : fn = Tryz.f8 := (Option.some.inj (Tryz.func8.symm.trans hfn)).symm
      exact ⟨by kernel_rfl, fun j t ht => by
        rw [Tryz.params8] at ht
        have hm : t ∈ [2] := by simpa using Array.mem_of_getElem? ht
        have hall : ([2].all fun u => !Tryz.prog.wantsStandIn u) = true := by kernel_rfl
        exact (show Tryz.prog.wantsStandIn t = false by simpa using List.all_eq_true.1 hall t hm)⟩)
    (by kernel_rfl)
end Go.Proofs.YtldinjabflaekaaGreatDoor.fnSmallNegative
