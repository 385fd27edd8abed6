/- For each byte b the law FnKindText returns true: the Kind b%6 prints as its name. The names are cut out of one string at the places that the listed table _Kind_index holds; the other three listed tables are not read: no number is ever printed. -/
import Derived.Test.YtipahokhphdafaaDoorRows
import Derived.Test.YtipahokhphdafaaDoorTie
import Derived.Test.YtipahokhphdafaaDoorCards
import Derived.WalkKit
import Derived.ProofKit
import Derived.LaidMore
import Derived.OpenShut
import Derived.Stop.Joined
import Derived.SevenTiedAt
import Derived.Carry
import Derived.Below
import Derived.Test.YtipahokhphdafaaDoorVars
import Derived.Test.YtipahokhphdafaaDoorChecked
import Derived.KernelRfl
import Derived.BigQuiet
import Derived.WalkSmall
namespace Go.Proofs.YtipahokhphdafaaDoor.fnKindText
open Go.ChangeShapes Go.WideShapes Go.ChangeAt Go.RowKit
open Go.ChangeMaps (open_string shut_string)
set_option linter.unusedVariables false
theorem own : ownKnob Tryd.prog.godebug = none := by kernel_rfl
theorem gK : Tryd.prog.globalNamed "loop.example/pub-g03237/pub/constant._Kind_index" = some 0 := by kernel_rfl
theorem tK : (Tryd.prog.globals[0]?).map (·.type) = some 28 := by kernel_rfl
theorem cells28 : Tryd.prog.cellsOf 28 = 7 := by kernel_rfl
theorem cells5 : Tryd.prog.cellsOf 5 = 1 := by kernel_rfl
theorem int_of_trod {H : Type} {enc : TypeId × Value → H} {P : Program} {w : World} {base : Nat} {sp : Nat → Bool} {held : Bool} {fuel : Nat} {t : TypeId} {k : IntKind} {c : Value} {y : DataW H × List MemPlace}
    (ht : P.underlying t = some (.int k)) (h : DataW.trod enc P w base sp held fuel t [c] = some y) : ∃ n, c = .int k n ∧ y = (.lit (.int k n), []) := by
  cases fuel with
  | zero => simp [DataW.trod] at h
  | succ fuel =>
    cases c <;> simp [DataW.trod, ht] at h
    rename_i k' n
    obtain ⟨⟨rfl, _⟩, rfl⟩ := h
    exact ⟨n, rfl, rfl⟩
def kcells : Array Value := #[.int .u8 0, .int .u8 7, .int .u8 11, .int .u8 17, .int .u8 20, .int .u8 25, .int .u8 32]
theorem cells_of_laid {W : World} (h : laidMetH Tryd.prog Rows.fnKindTextRow.laid W) : W.var? Tryd.prog "loop.example/pub-g03237/pub/constant._Kind_index" = some kcells := by
  rw [MakeChecks.laidMetH_plain _ _ _ (by kernel_rfl)] at h
  obtain ⟨ps, ⟨_, _, _, _, _, _, _, _, _, _, ⟨_, _, _, _, _, _, _, _, _, _, ⟨_, _, _, _, _, _, _, _, _, _, ⟨g, t, cs, fuel, p, q, hg, ht, hvar, hd, _, _⟩, _⟩, _⟩, _⟩, _⟩ := h
  obtain rfl := Option.some.inj (gK.symm.trans hg)
  obtain rfl := Option.some.inj (tK.symm.trans ht)
  rw [hvar]
  congr 1
  obtain ⟨l⟩ := cs
  cases fuel with
  | zero => simp [DataW.trod] at hd
  | succ fuel =>
    simp only [DataW.trod, Tryd.underlying28, cells28, cells5] at hd
    split at hd
    · rename_i hl
      obtain ⟨c0, c1, c2, c3, c4, c5, c6, rfl⟩ : ∃ c0 c1 c2 c3 c4 c5 c6, l = [c0, c1, c2, c3, c4, c5, c6] := by
        match l, hl with
        | [a, b, c, d, e, f, g], _ => exact ⟨a, b, c, d, e, f, g, rfl⟩
      have e : List.range 7 = [0, 1, 2, 3, 4, 5, 6] := rfl
      rw [e] at hd
      simp only [Option.map_eq_some_iff, List.mapM_cons, List.mapM_nil, Option.bind_eq_bind, Option.bind_eq_some_iff, Option.pure_def, Option.some.injEq] at hd
      obtain ⟨xs, ⟨y0, h0, _, ⟨y1, h1, _, ⟨y2, h2, _, ⟨y3, h3, _, ⟨y4, h4, _, ⟨y5, h5, _, ⟨y6, h6, _, rfl, rfl⟩, rfl⟩, rfl⟩, rfl⟩, rfl⟩, rfl⟩, rfl⟩, hx⟩ := hd
      obtain ⟨n0, rfl, rfl⟩ := int_of_trod Tryd.underlying5 h0
      obtain ⟨n1, rfl, rfl⟩ := int_of_trod Tryd.underlying5 h1
      obtain ⟨n2, rfl, rfl⟩ := int_of_trod Tryd.underlying5 h2
      obtain ⟨n3, rfl, rfl⟩ := int_of_trod Tryd.underlying5 h3
      obtain ⟨n4, rfl, rfl⟩ := int_of_trod Tryd.underlying5 h4
      obtain ⟨n5, rfl, rfl⟩ := int_of_trod Tryd.underlying5 h5
      obtain ⟨n6, rfl, rfl⟩ := int_of_trod Tryd.underlying5 h6
      simp [Rows.laid_loop_example_pub_g03237_pub_constant_Kind_index] at hx
      obtain ⟨⟨rfl, rfl, rfl, rfl, rfl, rfl, rfl⟩, _⟩ := hx
      rfl
    · cases hd
def KCells (w : World) : Prop := ∀ i : Nat, i < 7 → w.cell? ⟨0, i, none⟩ = some (.int .u8 ([0, 7, 11, 17, 20, 25, 32].getD i 0))
theorem kc_of_laid {W : World} (h : laidMetH Tryd.prog Rows.fnKindTextRow.laid W) : KCells W := by
  intro i hi
  have := World.var?_cell gK (cells_of_laid h) i
  rw [this]
  match i, hi with
  | 0, _ => rfl
  | 1, _ => rfl
  | 2, _ => rfl
  | 3, _ => rfl
  | 4, _ => rfl
  | 5, _ => rfl
  | 6, _ => rfl
theorem lt_of_kc {w : World} (h : KCells w) : 0 < w.heap.size := World.block_lt_of_cell? _ _ (h 0 (by decide))
def kname : Nat → ByteArray
  | 0 => ⟨#[85, 110, 107, 110, 111, 119, 110]⟩
  | 1 => ⟨#[66, 111, 111, 108]⟩
  | 2 => ⟨#[83, 116, 114, 105, 110, 103]⟩
  | 3 => ⟨#[73, 110, 116]⟩
  | 4 => ⟨#[70, 108, 111, 97, 116]⟩
  | _ => ⟨#[67, 111, 109, 112, 108, 101, 120]⟩
set_option maxHeartbeats 800000 in
theorem kString (j : Nat) (hj : j < 6) (w : World) (hk : KCells w) : Calls Tryd.prog 5 #[.int .i64 (j : Int)] w (fun e w' => e = .returned (.string (kname j)) ∧ ∃ m, w' = w.drewN m) := by
  have h0 : w.cell? ⟨0, 0, none⟩ = some (.int .u8 0) := hk 0 (by decide)
  have h1 : w.cell? ⟨0, 1, none⟩ = some (.int .u8 7) := hk 1 (by decide)
  have h2 : w.cell? ⟨0, 2, none⟩ = some (.int .u8 11) := hk 2 (by decide)
  have h3 : w.cell? ⟨0, 3, none⟩ = some (.int .u8 17) := hk 3 (by decide)
  have h4 : w.cell? ⟨0, 4, none⟩ = some (.int .u8 20) := hk 4 (by decide)
  have h5 : w.cell? ⟨0, 5, none⟩ = some (.int .u8 25) := hk 5 (by decide)
  have h6 : w.cell? ⟨0, 6, none⟩ = some (.int .u8 32) := hk 6 (by decide)
  clear hk
  have hj' : j = 0 ∨ j = 1 ∨ j = 2 ∨ j = 3 ∨ j = 4 ∨ j = 5 := by omega
  clear hj
  rcases hj' with rfl | rfl | rfl | rfl | rfl | rfl
  all_goals
    go_enter Tryd.func5, Tryd.ntmps5
    go_wp2_with fail
    go_quiet (fail)
    go_wp2
    go_ret
    exact ⟨rfl, ⟨_, rfl⟩⟩
theorem kindText_any (j : Nat) (hj : j < 6) (w : World) (hk : KCells w) : Calls Tryd.prog 4 #[.int .i64 (j : Int)] w (fun e w' => e = .returned (.string (kname j)) ∧ ∃ m, w' = w.drewN m) := by
  have C := kString j hj w hk
  clear hk hj
  go_enter Tryd.func4, Tryd.ntmps4
  go_wp2_with fail
  refine C.mono ?_
  rintro e w1 ⟨rfl, m, rfl⟩
  go_wp2
  go_ret
  exact ⟨rfl, ⟨_, rfl⟩⟩
theorem kc_below {w w' : World} (h : KCells w) (hb : Below w.heap.size w w') : KCells w' := fun i hi => (hb.cell (p := ⟨0, i, none⟩) (lt_of_kc h)).trans (h i hi)
theorem ret_true {b : Bool} (h : b = true) : Ending.returned (.bool b) = .returned (.bool true) := by rw [h]
theorem kt_quiet (j : Nat) (hj : j < 6) (w1 : World) (hk : KCells w1) (n : Nat) : Calls Tryd.prog 4 #[.int .i64 (j : Int)] (w1.drewN n) (fun e w' => e = .returned (.string (kname j)) ∧ ∃ m, w' = w1.drewN m) := by
  refine (kindText_any j hj (w1.drewN n) (kc_below hk (below_drewN (Below.refl _ _) n))).mono ?_
  rintro e w' ⟨he, m, rfl⟩
  exact ⟨he, ⟨n + m, World.drewN_drewN _ _ _⟩⟩
set_option maxHeartbeats 1600000 in
theorem walk (a0 : Int) (w0 : (Lit.int .u8 a0).wf = true) (w : World) (hL : laidMetH Tryd.prog Rows.fnKindTextRow.laid w) :
    Calls Tryd.prog 3 #[.int .u8 a0] w fun e w' => e = .returned (.bool true) ∧ Below w.heap.size w w' := by
  have hk := kc_of_laid hL
  clear hL
  have w1 : 0 ≤ a0 ∧ a0 ≤ 255 := by
    have e1 : IntKind.u8.min = 0 := by rfl
    have e2 : IntKind.u8.max = 255 := by rfl
    simpa [Lit.wf, e1, e2] using w0
  clear w0
  have h6 : a0.tmod 6 = 0 ∨ a0.tmod 6 = 1 ∨ a0.tmod 6 = 2 ∨ a0.tmod 6 = 3 ∨ a0.tmod 6 = 4 ∨ a0.tmod 6 = 5 := by
    have h1 : a0.tmod 6 = a0 % 6 := Int.tmod_eq_emod_of_nonneg (by omega)
    omega
  rcases h6 with h | h | h | h | h | h
  all_goals
    go_enter Tryd.func3, Tryd.ntmps3
    go_wp2
    go_quiet ((go_at_call 4; first | exact kt_quiet 0 (by decide) _ (kc_below hk ((Below.refl _ _).alloc (Nat.le_refl _) _)) _ | exact kt_quiet 1 (by decide) _ (kc_below hk ((Below.refl _ _).alloc (Nat.le_refl _) _)) _ | exact kt_quiet 2 (by decide) _ (kc_below hk ((Below.refl _ _).alloc (Nat.le_refl _) _)) _ | exact kt_quiet 3 (by decide) _ (kc_below hk ((Below.refl _ _).alloc (Nat.le_refl _) _)) _ | exact kt_quiet 4 (by decide) _ (kc_below hk ((Below.refl _ _).alloc (Nat.le_refl _) _)) _ | exact kt_quiet 5 (by decide) _ (kc_below hk ((Below.refl _ _).alloc (Nat.le_refl _) _)) _))
    go_wp2
    go_ret
    exact ⟨ret_true (by kernel_rfl), below_drewN ((Below.refl _ _).alloc (Nat.le_refl _) _) _⟩

/-! ### The row's step. -/
theorem door_met (os : Os) (args : Array Value) : laidMetH Tryd.prog Rows.fnKindTextRow.laid ((World.doorLaid Tryd.prog 400 os).forCall (fun _ _ => 0) ⟨#[], args, []⟩).memory :=
  laidMetH_of_parts3 (fuel := 8) (laidMet_of_run' 8 (by kernel_rfl) (by kernel_rfl)) (by kernel_rfl) (by kernel_rfl)
set_option maxRecDepth 100000 in
theorem lifted (os : Os) (started : os.Started) (H : Type) (enc : TypeId × Value → H) :
    ReturnsInHanded {} Tryd.checked os 3 .any (fun w args => (Rows.fnKindTextSpec.pre enc Tryd.prog Tryd.f3 [] false w args ∧ laidMetH Tryd.prog Rows.fnKindTextRow.laid w) ∧ sizedMet enc Tryd.prog Tryd.f3 (OpenSpec.ofChange Rows.fnKindTextSpec) false w args)
      (Rows.fnKindTextSpec.post enc Tryd.prog Tryd.f3 false true false false) := by
  refine returnsInHanded_of_change_and (C := Tryd.checked) (X := fun w _ => laidMetH Tryd.prog Rows.fnKindTextRow.laid w) (fun _ _ _ hh h => h.of_heap hh) own started (by kernel_rfl) Tryd.func3
    (ChangeSpec.witness_shaped (enc := enc) (C := Tryd.checked) (os := os) (X := fun w _ => laidMetH Tryd.prog Rows.fnKindTextRow.laid w) false (World.doorLaid Tryd.prog 400 os) #[.int .u8 0] 8 rfl (World.shaped_of_RefB (by kernel_rfl) (by kernel_rfl)) (by kernel_rfl) (by kernel_rfl) (by kernel_rfl) (door_met os _)) ?_
  intro W base args ds gs before hval0 hW _ _ hL _
  have hval : ∀ (j : Nat) t v, Tryd.f3.params[j]? = some t → args[j]? = some v → Value.okWide Tryd.prog W .any base t v := hval0
  have hW' := hW
  obtain ⟨p, q, hA0, hV, rfl, hfz, hnd⟩ := hW
  have hA : DataW.TrodAll enc Tryd.prog W 0 (fun _ => true) true Tryd.f3.params.toList args.toList ds p := hA0
  rw [Tryd.params3] at hA hval
  obtain ⟨v0, vs0, d0, ds0, p0, q0, hargs, rfl, rfl, h0, r0⟩ := trodAll_cons hA
  obtain ⟨rfl, rfl, rfl⟩ := trodAll_nil r0
  obtain rfl : args = #[v0] := by cases args; simp_all
  obtain ⟨a0, rfl, rfl, rfl, w0⟩ := open_int Tryd.underlying5 (hval 0 5 v0 rfl rfl) h0
  clear hA0 hval0
  obtain ⟨g0, rfl⟩ : ∃ g0, gs = [g0] := vars1 hV
  have ltq : ∀ y ∈ q, y.block < W.heap.size := fun y hy => hW'.lt y (List.mem_append_right _ hy)
  refine (walk a0 w0 W hL).mono fun e W' ⟨he, bel⟩ => ?_
  subst he
  exact ⟨_, rfl, _, _, _, [], _, _, hW', trodAll_mk1 (shut_bool Tryd.underlying4 _), trodAll_mk1 (shut_int Tryd.underlying5 w0), trodVars_below bel _ (by kernel_rfl) _ _ hV ltq, bel.frame _, fun h => by cases h⟩

theorem over : Rows.fnKindTextRow.holds Tryd.pinned (OpenSpec.ofChange Rows.fnKindTextSpec) :=
  OpenClaim.holds_of_wide 3 Tryd.f3 rfl rfl rfl rfl rfl rfl rfl ⟨rfl, rfl, rfl, rfl, rfl⟩ rfl rfl rfl rfl rfl (by kernel_rfl) Tryd.func3 (by kernel_rfl)
    (of_decide_eq_true (by kernel_rfl)) (by unfold Func.isWrapper; first | (rw [if_pos (by decide +kernel)]; kernel_rfl) | (rw [if_neg (by decide +kernel)]; exact ⟨rfl, rfl⟩))
    (fun os started H enc _ => lifted os started H enc)

/-- The statement: the tied card. -/
theorem proved : Rows.FnKindTextCardSaid :=
  Claim7.holds_tied_plain_at .later [] [.data, .data, .data, .data] true (true, "ce97b8bd4921f13e00dfca29725c04a0123fb866838d5c886fa58dbd80a6a103") false
    over (fun _ h => by cases h) (by kernel_rfl) (fun _ h => by cases h) fnKindText_row_tie rfl ⟨rfl, rfl⟩ (by kernel_rfl) rfl
    (fun f fn hf hfn => by
      obtain rfl : f = 3 := Option.some.inj ((show Tryd.prog.funcNamed "loop.example/pub-g03237/laws.FnKindText" = some 3 by kernel_rfl).symm.trans hf) |>.symm
      obtain rfl : fn = Tryd.f3 := (Option.some.inj (Tryd.func3.symm.trans hfn)).symm
      exact ⟨by kernel_rfl, fun j t ht => by
        rw [Tryd.params3] at ht
        have hm : t ∈ [5] := by simpa using Array.mem_of_getElem? ht
        have hall : ([5].all fun u => !Tryd.prog.wantsStandIn u) = true := by kernel_rfl
        exact (show Tryd.prog.wantsStandIn t = false by simpa using List.all_eq_true.1 hall t hm)⟩)
    (by kernel_rfl)
end Go.Proofs.YtipahokhphdafaaDoor.fnKindText
