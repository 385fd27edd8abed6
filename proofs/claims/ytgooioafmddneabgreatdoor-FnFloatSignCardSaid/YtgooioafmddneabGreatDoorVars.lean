/- The listed package-level variables behind a call: below the heap's old size nothing has turned, so each reads as it read. -/
import Derived.Test.YtgooioafmddneabGreatDoorChecked
import Derived.Carry
import Derived.WalkSmall
import Derived.KernelRfl
namespace Go.Proofs.YtgooioafmddneabGreatDoor
open Go.RowKit
theorem vLaidOut : laidOutB Tryz.prog = true := by kernel_rfl
noncomputable def varOk (n : String) : Bool :=
  match Tryz.prog.globalNamed n with
  | none => true
  | some g => match (Tryz.prog.globals[g]?).map (·.type) with
    | none => true
    | some t => Tryz.prog.readableRec t && decide (t < Tryz.prog.types.size)
theorem trodVars_below {H : Type} {enc : TypeId × Value → H} {W W' : World} (hb : Below W.heap.size W W') : ∀ (ns : List String), ns.all varOk = true → ∀ (gs : List (DataW H)) (q : List MemPlace),
    DataW.TrodVars enc Tryz.prog W (fun _ => true) ns gs q → (∀ y ∈ q, y.block < W.heap.size) → DataW.TrodVars enc Tryz.prog W' (fun b => decide (b < W.heap.size)) ns gs q
  | [], _, [], _, h, _ => h
  | [], _, _ :: _, _, h, _ => h.elim
  | _ :: _, _, [], _, h, _ => h.elim
  | n :: ns, ok, d :: ds, ps, ⟨g, t, cs, fuel, p, q, h1, h2, h3, h4, h5, h6⟩, hlt => by
    subst h6
    obtain ⟨ok1, ok2⟩ : varOk n = true ∧ ns.all varOk = true := by simpa using ok
    have hg : g < W.heap.size := by
      unfold World.var? at h3
      rw [h1, Option.bind_some] at h3
      by_cases hh : g < W.heap.size
      · exact hh
      · rw [Array.getElem?_eq_none (by omega)] at h3; cases h3
    have hr : Tryz.prog.readableRec t = true ∧ t < Tryz.prog.types.size := by
      unfold varOk at ok1
      rw [h1] at ok1
      simp only [h2] at ok1
      simpa using ok1
    refine ⟨g, t, cs, fuel, p, q, h1, h2, var?_below hb h1 hg h3, ?_, trodVars_below hb ns ok2 ds q h5 (fun y hy => hlt y (by simp [hy])), rfl⟩
    exact DataW.trod_stays (kids_book vLaidOut hr.1) (book_sized hr.1) (fun h => by cases h) ⟨hr.2, book_self t⟩ h4 (fun x hx => hb.same (hlt x (by simp [show x ∈ p from hx]))) (fun x hx => by simpa using hlt x (by simp [show x ∈ p from hx]))
theorem vars1 {H : Type} {enc : TypeId × Value → H} {W : World} {sp : Nat → Bool} {n1 : String} {gs : List (DataW H)} {q : List MemPlace} (h : DataW.TrodVars enc Tryz.prog W sp [n1] gs q) : ∃ g0, gs = [g0] := by
  match gs, h with
  | [g0], _ => exact ⟨g0, rfl⟩
  | _ :: _ :: _, ⟨_, _, _, _, _, _, _, _, _, _, h, _⟩ => exact h.elim
theorem vars4 {H : Type} {enc : TypeId × Value → H} {W : World} {sp : Nat → Bool} {n1 n2 n3 n4 : String} {gs : List (DataW H)} {q : List MemPlace} (h : DataW.TrodVars enc Tryz.prog W sp [n1, n2, n3, n4] gs q) : ∃ g0 g1 g2 g3, gs = [g0, g1, g2, g3] := by
  match gs, h with
  | [_], ⟨_, _, _, _, _, _, _, _, _, _, h, _⟩ => exact h.elim
  | [_, _], ⟨_, _, _, _, _, _, _, _, _, _, ⟨_, _, _, _, _, _, _, _, _, _, h, _⟩, _⟩ => exact h.elim
  | [_, _, _], ⟨_, _, _, _, _, _, _, _, _, _, ⟨_, _, _, _, _, _, _, _, _, _, ⟨_, _, _, _, _, _, _, _, _, _, h, _⟩, _⟩, _⟩ => exact h.elim
  | [a, b, c, d], _ => exact ⟨a, b, c, d, rfl⟩
  | _ :: _ :: _ :: _ :: _ :: _, ⟨_, _, _, _, _, _, _, _, _, _, ⟨_, _, _, _, _, _, _, _, _, _, ⟨_, _, _, _, _, _, _, _, _, _, ⟨_, _, _, _, _, _, _, _, _, _, h, _⟩, _⟩, _⟩, _⟩ => exact h.elim
end Go.Proofs.YtgooioafmddneabGreatDoor
