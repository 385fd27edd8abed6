/- For every value the law FnFloatSign returns true: the package's sign of a fraction of at most 20 words over at most 20 words is the reference's (of other values the law says nothing). No condition of its own: the listed variables are not read. -/
import Derived.Test.YtgooioafmddneabGreatDoorRows
import Derived.Test.YtgooioafmddneabGreatDoorTie
import Derived.Test.YtgooioafmddneabGreatDoorCards
import Derived.WalkKit
import Derived.ProofKit
import Derived.LaidMore
import Derived.OpenShut
import Derived.Stop.Joined
import Derived.SevenTiedAt
import Derived.Carry
import Derived.Below
import Derived.Test.YtgooioafmddneabGreatDoorVars
import Derived.Test.YtgooioafmddneabGreatDoorFloatSignW
import Derived.Test.YtgooioafmddneabGreatDoorOpenV
namespace Go.Proofs.YtgooioafmddneabGreatDoor.fnFloatSign
open Go.ChangeShapes Go.WideShapes Go.ChangeAt Go.RowKit
open Go.ChangeMaps (open_string shut_string)
set_option linter.unusedVariables false
theorem own : ownKnob Tryz.prog.godebug = none := by kernel_rfl
theorem walk (k : Int) (t : Bool) (s : ByteArray) (neg ineg : Bool) (ws : List Nat) (hws : ∀ x ∈ ws, x < Dg.W64) (den : List Nat) (hden : ∀ x ∈ den, x < Dg.W64) (A A2 A3 A4 : Option Addr) (n c n2 c2 n3 c3 n4 c4 : Nat) (w : World) (hv : Rd w (.slice A n c) (cU ws)) (hv2 : Rd w (.slice A2 n2 c2) (cU den)) :
    Calls Tryz.prog 3 #[.agg #[.int .i64 k, .bool t, .string s, .bool neg, .slice A n c, .slice A2 n2 c2, .bool ineg, .slice A3 n3 c3, .slice A4 n4 c4]] w fun e w' => e = .returned (.bool true) ∧ Below w.heap.size w w' :=
  floatSign_walk k t s neg ineg ws hws den hden A A2 A3 A4 n c n2 c2 n3 c3 n4 c4 w hv hv2

/-! ### The row's step. -/
theorem door_met (os : Os) (args : Array Value) : laidMetH Tryz.prog Rows.fnFloatSignRow.laid ((World.doorLaid Tryz.prog 400 os).forCall (fun _ _ => 0) ⟨#[], args, []⟩).memory :=
  laidMetH_of_parts3 (fuel := 8) (laidMet_of_run' 8 (by kernel_rfl) (by kernel_rfl)) (by kernel_rfl) (by kernel_rfl)
set_option maxRecDepth 100000 in
theorem lifted (os : Os) (started : os.Started) (H : Type) (enc : TypeId × Value → H) :
    ReturnsInHanded {} Tryz.checked os 3 .any (fun w args => (Rows.fnFloatSignSpec.pre enc Tryz.prog Tryz.f3 [] false w args ∧ laidMetH Tryz.prog Rows.fnFloatSignRow.laid w) ∧ sizedMet enc Tryz.prog Tryz.f3 (OpenSpec.ofChange Rows.fnFloatSignSpec) false w args)
      (Rows.fnFloatSignSpec.post enc Tryz.prog Tryz.f3 false true false false) := by
  refine returnsInHanded_of_change_and (C := Tryz.checked) (X := fun w _ => laidMetH Tryz.prog Rows.fnFloatSignRow.laid w) (fun _ _ _ hh h => h.of_heap hh) own started (by kernel_rfl) Tryz.func3
    (ChangeSpec.witness_shaped (enc := enc) (C := Tryz.checked) (os := os) (X := fun w _ => laidMetH Tryz.prog Rows.fnFloatSignRow.laid w) false (World.doorLaid Tryz.prog 400 os) #[.agg #[.int .i64 0, .bool false, .string ⟨#[]⟩, .bool false, .slice none 0 0, .slice none 0 0, .bool false, .slice none 0 0, .slice none 0 0]] 8 rfl (World.shaped_of_RefB (by kernel_rfl) (by kernel_rfl)) (by kernel_rfl) (by kernel_rfl) (by kernel_rfl) (door_met os _)) ?_
  intro W base args ds gs before hval0 hW _ _ hL _
  have hval : ∀ (j : Nat) t v, Tryz.f3.params[j]? = some t → args[j]? = some v → Value.okWide Tryz.prog W .any base t v := hval0
  have hW' := hW
  obtain ⟨p, q, hA0, hV, rfl, hfz, hnd⟩ := hW
  have hA : DataW.TrodAll enc Tryz.prog W 0 (fun _ => true) true Tryz.f3.params.toList args.toList ds p := hA0
  rw [Tryz.params3] at hA hval
  obtain ⟨v0, vs0, d0, ds0, p0, q0, hargs, rfl, rfl, h0, r0⟩ := trodAll_cons hA
  obtain ⟨rfl, rfl, rfl⟩ := trodAll_nil r0
  obtain rfl : args = #[v0] := by cases args; simp_all
  have k0 := h0
  have lt0 : ∀ x ∈ p0, x.block < W.heap.size := by obtain ⟨m, hm⟩ := k0; exact DataW.trod_lt m _ _ _ hm
  obtain ⟨kk, tt, ss, neg, ineg, A1, A2, A3, A4, n1, c1, n2, c2, n3, c3, n4, c4, ws, den, rfl, hws, hrd, hden, hrd2⟩ := open_value (hval 0 26 v0 rfl rfl) h0
  clear hA0 hval0
  obtain ⟨g0, g1, g2, g3, rfl⟩ : ∃ g0 g1 g2 g3, gs = [g0, g1, g2, g3] := vars4 hV
  have ltq : ∀ y ∈ q, y.block < W.heap.size := fun y hy => hW'.lt y (List.mem_append_right _ hy)
  refine (walk kk tt ss neg ineg ws hws den hden A1 A2 A3 A4 n1 c1 n2 c2 n3 c3 n4 c4 W hrd hrd2).mono fun e W' ⟨he, bel⟩ => ?_
  subst he
  exact ⟨_, rfl, _, _, _, [], _, _, hW', trodAll_mk1 (shut_bool Tryz.underlying4 _), trodAll_cons_mk (Below.trod vLaidOut (by kernel_rfl) (of_decide_eq_true (by kernel_rfl)) k0 bel lt0) trodAll_mk0, trodVars_below bel _ (by kernel_rfl) _ _ hV ltq, bel.frame _, fun h => by cases h⟩

theorem over : Rows.fnFloatSignRow.holds Tryz.pinned (OpenSpec.ofChange Rows.fnFloatSignSpec) :=
  OpenClaim.holds_of_wide 3 Tryz.f3 rfl rfl rfl rfl rfl rfl rfl ⟨rfl, rfl, rfl, rfl, rfl⟩ rfl rfl rfl rfl rfl (by kernel_rfl) Tryz.func3 (by kernel_rfl)
    (of_decide_eq_true (by kernel_rfl)) (by unfold Func.isWrapper; first | (rw [if_pos (by decide +kernel)]; kernel_rfl) | (rw [if_neg (by decide +kernel)]; exact ⟨rfl, rfl⟩))
    (fun os started H enc _ => lifted os started H enc)

/-- The statement: the tied card. -/
theorem proved : Rows.FnFloatSignCardSaid :=
  Claim7.holds_tied_plain_at .later [] [.data, .data, .data, .data] true (true, "a7a6f1ac0b7c60184ad92920f4220189265739df8d4c222947269260105080e8") true
    over (fun _ h => by cases h) (by kernel_rfl) (fun _ h => by cases h) fnFloatSign_row_tie rfl ⟨rfl, rfl⟩ (by kernel_rfl) rfl
    (fun f fn hf hfn => by
      obtain rfl : f = 3 := Option.some.inj ((show Tryz.prog.funcNamed "loop.example/pub-g03237/laws.FnFloatSign" = some 3 by kernel_rfl).symm.trans hf) |>.symm
      obtain rfl : fn = Tryz.f3 := (Option.some.inj (Tryz.func3.symm.trans hfn)).symm
      exact ⟨by kernel_rfl, fun j t ht => by
        rw [Tryz.params3] at ht
        have hm : t ∈ [26] := by simpa using Array.mem_of_getElem? ht
        have hall : ([26].all fun u => !Tryz.prog.wantsStandIn u) = true := by kernel_rfl
        exact (show Tryz.prog.wantsStandIn t = false by simpa using List.all_eq_true.1 hall t hm)⟩)
    (by kernel_rfl)
end Go.Proofs.YtgooioafmddneabGreatDoor.fnFloatSign
