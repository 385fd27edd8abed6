/- For each truth b the law FnTruthNot returns true: !b as the package reckons it (UnaryOp with NOT on a boolVal) is !b. No condition of its own: the listed variables are not read. -/
import Derived.Test.YtldinjabflaekaaGreatDoorRows
import Derived.Test.YtldinjabflaekaaGreatDoorTie
import Derived.Test.YtldinjabflaekaaGreatDoorCards
import Derived.WalkKit
import Derived.ProofKit
import Derived.LaidMore
import Derived.OpenShut
import Derived.Stop.Joined
import Derived.SevenTiedAt
import Derived.Carry
import Derived.Below
import Derived.Test.YtldinjabflaekaaGreatDoorVars
import Derived.Test.YtldinjabflaekaaGreatDoorChecked
import Derived.KernelRfl
import Derived.WalkMore
namespace Go.Proofs.YtldinjabflaekaaGreatDoor.fnTruthNot
open Go.ChangeShapes Go.WideShapes Go.ChangeAt Go.RowKit
open Go.ChangeMaps (open_string shut_string)
set_option linter.unusedVariables false
theorem own : ownKnob Tryz.prog.godebug = none := by kernel_rfl
@[go_sem] theorem as_bool_unk (v : Value) (w : World) : (Instr.typeAssert (.iface 119 v) 60 91 true).run Tryz.prog w = .ok (.tuple #[.agg #[], .bool false]) w := by kernel_rfl
@[go_sem] theorem as_bool_bool (v : Value) (w : World) : (Instr.typeAssert (.iface 119 v) 60 119 true).run Tryz.prog w = .ok (.tuple #[v, .bool true]) w := by kernel_rfl
theorem makeBool_any (b : Bool) (w : World) : Calls Tryz.prog 46 #[.bool b] w (fun e w' => e = .returned (.iface 119 (.bool b)) ∧ w' = w) := by
  go_enter Tryz.func46, Tryz.ntmps46
  go_wp2
  go_ret
  trivial
theorem boolVal_bool (b : Bool) (w : World) : Calls Tryz.prog 44 #[.iface 119 (.bool b)] w (fun e w' => e = .returned (.bool b) ∧ w' = w) := by
  go_enter Tryz.func44, Tryz.ntmps44
  go_wp2
  go_ret
  trivial
set_option maxRecDepth 100000 in
set_option maxHeartbeats 1600000 in
theorem unaryNot (b : Bool) (w : World) : Calls Tryz.prog 45 #[.int .i64 43, .iface 119 (.bool b), .int .u64 0] w (fun e w' => e = .returned (.iface 119 (.bool !b)) ∧ w' = w) := by
  go_enter Tryz.func45, Tryz.ntmps45
  go_wp2; go_step3; go_wp2
  rw [Exit.noGoto_ret]
  go_ret
  trivial
theorem truthNot_any (b : Bool) (w : World) : Calls Tryz.prog 22 #[.bool b] w (fun e w' => e = .returned (.bool !b) ∧ w' = w) := by
  go_enter Tryz.func22, Tryz.ntmps22
  go_wp2_with fail
  refine (makeBool_any b w).mono ?_
  rintro e w1 ⟨rfl, rfl⟩
  go_wp2_with fail
  refine (unaryNot b w1).mono ?_
  rintro e w2 ⟨rfl, rfl⟩
  go_wp2_with fail
  refine (boolVal_bool (!b) w2).mono ?_
  rintro e w3 ⟨rfl, rfl⟩
  go_wp2
  go_ret
  trivial
theorem walk (b : Bool) (w : World) : Calls Tryz.prog 7 #[.bool b] w fun e w' => e = .returned (.bool true) ∧ Below w.heap.size w w' := by
  go_enter Tryz.func7, Tryz.ntmps7
  go_wp2_with fail
  refine (truthNot_any b w).mono ?_
  rintro e w1 ⟨rfl, rfl⟩
  go_wp2_with fail
  refine (truthNot_any false w1).mono ?_
  rintro e w2 ⟨rfl, rfl⟩
  cases b <;> (go_wp2; go_ret; exact ⟨rfl, Below.refl _ _⟩)

/-! ### The row's step. -/
theorem door_met (os : Os) (args : Array Value) : laidMetH Tryz.prog Rows.fnTruthNotRow.laid ((World.doorLaid Tryz.prog 400 os).forCall (fun _ _ => 0) ⟨#[], args, []⟩).memory :=
  laidMetH_of_parts3 (fuel := 8) (laidMet_of_run' 8 (by kernel_rfl) (by kernel_rfl)) (by kernel_rfl) (by kernel_rfl)
set_option maxRecDepth 100000 in
theorem lifted (os : Os) (started : os.Started) (H : Type) (enc : TypeId × Value → H) :
    ReturnsInHanded {} Tryz.checked os 7 .any (fun w args => (Rows.fnTruthNotSpec.pre enc Tryz.prog Tryz.f7 [] false w args ∧ laidMetH Tryz.prog Rows.fnTruthNotRow.laid w) ∧ sizedMet enc Tryz.prog Tryz.f7 (OpenSpec.ofChange Rows.fnTruthNotSpec) false w args)
      (Rows.fnTruthNotSpec.post enc Tryz.prog Tryz.f7 false true false false) := by
  refine returnsInHanded_of_change_and (C := Tryz.checked) (X := fun w _ => laidMetH Tryz.prog Rows.fnTruthNotRow.laid w) (fun _ _ _ hh h => h.of_heap hh) own started (by kernel_rfl) Tryz.func7
    (ChangeSpec.witness_shaped (enc := enc) (C := Tryz.checked) (os := os) (X := fun w _ => laidMetH Tryz.prog Rows.fnTruthNotRow.laid w) false (World.doorLaid Tryz.prog 400 os) #[.bool false] 8 rfl (World.shaped_of_RefB (by kernel_rfl) (by kernel_rfl)) (by kernel_rfl) (by kernel_rfl) (by kernel_rfl) (door_met os _)) ?_
  intro W base args ds gs before hval0 hW _ _ hL _
  have hval : ∀ (j : Nat) t v, Tryz.f7.params[j]? = some t → args[j]? = some v → Value.okWide Tryz.prog W .any base t v := hval0
  have hW' := hW
  obtain ⟨p, q, hA0, hV, rfl, hfz, hnd⟩ := hW
  have hA : DataW.TrodAll enc Tryz.prog W 0 (fun _ => true) true Tryz.f7.params.toList args.toList ds p := hA0
  rw [Tryz.params7] at hA hval
  obtain ⟨v0, vs0, d0, ds0, p0, q0, hargs, rfl, rfl, h0, r0⟩ := trodAll_cons hA
  obtain ⟨rfl, rfl, rfl⟩ := trodAll_nil r0
  obtain rfl : args = #[v0] := by cases args; simp_all
  obtain ⟨b0, rfl, rfl, rfl⟩ := open_bool Tryz.underlying4 (hval 0 4 v0 rfl rfl) h0
  clear hA0 hval0
  obtain ⟨g0, g1, g2, g3, rfl⟩ : ∃ g0 g1 g2 g3, gs = [g0, g1, g2, g3] := vars4 hV
  have ltq : ∀ y ∈ q, y.block < W.heap.size := fun y hy => hW'.lt y (List.mem_append_right _ hy)
  refine (walk b0 W).mono fun e W' ⟨he, bel⟩ => ?_
  subst he
  exact ⟨_, rfl, _, _, _, [], _, _, hW', trodAll_mk1 (shut_bool Tryz.underlying4 _), trodAll_mk1 (shut_bool Tryz.underlying4 _), trodVars_below bel _ (by kernel_rfl) _ _ hV ltq, bel.frame _, fun h => by cases h⟩

theorem over : Rows.fnTruthNotRow.holds Tryz.pinned (OpenSpec.ofChange Rows.fnTruthNotSpec) :=
  OpenClaim.holds_of_wide 7 Tryz.f7 rfl rfl rfl rfl rfl rfl rfl ⟨rfl, rfl, rfl, rfl, rfl⟩ rfl rfl rfl rfl rfl (by kernel_rfl) Tryz.func7 (by kernel_rfl)
    (of_decide_eq_true (by kernel_rfl)) (by unfold Func.isWrapper; first | (rw [if_pos (by decide +kernel)]; kernel_rfl) | (rw [if_neg (by decide +kernel)]; exact ⟨rfl, rfl⟩))
    (fun os started H enc _ => lifted os started H enc)

/-- The statement: the tied card. -/
theorem proved : Rows.FnTruthNotCardSaid :=
  Claim7.holds_tied_plain_at .later [] [.data, .data, .data, .data] true (true, "edf3aaee086d50abbea0b5081f0bff55e0c609b9ba96cc325b5d07077c524306") true
    over (fun _ h => by cases h) (by kernel_rfl) (fun _ h => by cases h) fnTruthNot_row_tie rfl ⟨rfl, rfl⟩ (by kernel_rfl) rfl
    (fun f fn hf hfn => by
      obtain rfl : f = 7 := Option.some.inj ((show Tryz.prog.funcNamed "loop.example/pub-g03237/laws.FnTruthNot" = some 7 by kernel_rfl).symm.trans hf) |>.symm
      obtain rfl : fn = Tryz.f7 := (Option.some.inj (Tryz.func7.symm.trans hfn)).symm
      exact ⟨by kernel_rfl, fun j t ht => by
        rw [Tryz.params7] at ht
        have hm : t ∈ [4] := by simpa using Array.mem_of_getElem? ht
        have hall : ([4].all fun u => !Tryz.prog.wantsStandIn u) = true := by kernel_rfl
        exact (show Tryz.prog.wantsStandIn t = false by simpa using List.all_eq_true.1 hall t hm)⟩)
    (by kernel_rfl)
end Go.Proofs.YtldinjabflaekaaGreatDoor.fnTruthNot
