/- The reference's functions on fractions, each by its contract: Of64, Whole. -/
import Derived.Test.YtgooioafmddneabGreatDoorSpecA
namespace Go.Proofs.YtgooioafmddneabGreatDoor
open Go.RowKit

/-- The call returns a fraction: its sign, and the digits of its numerator and denominator; it leaves what was there. -/
def GotRatio (neg : Bool) (n d : Nat) (w : World) (e : Ending) (w' : World) : Prop :=
  ∃ v u, e = .returned (.agg #[.bool neg, v, u]) ∧ Rd w' v (cI (Dg.digs 65536 n)) ∧ Rd w' u (cI (Dg.digs 65536 d)) ∧ Below w.heap.size w w'

@[go_sem] theorem field_neg (b : Bool) (A B : Option Addr) (n c m d : Nat) (w : World) : (Instr.field 31 (.agg #[.bool b, .slice A n c, .slice B m d]) 0).run Tryz.prog w = .ok (.bool b) w := by kernel_rfl
@[go_sem] theorem field_num (b : Bool) (A B : Option Addr) (n c m d : Nat) (w : World) : (Instr.field 31 (.agg #[.bool b, .slice A n c, .slice B m d]) 1).run Tryz.prog w = .ok (.slice A n c) w := by kernel_rfl
@[go_sem] theorem field_den (b : Bool) (A B : Option Addr) (n c m d : Nat) (w : World) : (Instr.field 31 (.agg #[.bool b, .slice A n c, .slice B m d]) 2).run Tryz.prog w = .ok (.slice B m d) w := by kernel_rfl
theorem rd_one (w : World) (u : Value) (t : TypeId) : Rd (w.alloc (.cells #[u] t)) (.slice (some ⟨w.heap.size, 0, none⟩) 1 1) [u] := by
  refine ⟨_, 1, rfl, by simp, by simp [maxLen], fun _ => ⟨w.heap.size, 0, rfl, by simp, fun j x hj => ?_⟩⟩
  match j, hj with
  | 0, hj => simp at hj; subst hj; exact cell_new1 _ _ _
theorem wrap_abs_neg {a : Int} (hlo : -9223372036854775808 ≤ a) (h : a < 0) : IntKind.u64.wrap (-IntKind.u64.wrap a) = (a.natAbs : Int) := by
  rw [IntKind.wrap_u64, IntKind.wrap_u64]; omega

/-- The world behind the store of a fraction into a block of three cells. -/
def put3 (w : World) (g : Nat) (x y z : Value) : World := ((w.setCell ⟨g, 0, none⟩ x).setCell ⟨g, 1, none⟩ y).setCell ⟨g, 2, none⟩ z
theorem put3_grown (w : World) (g : Nat) (x y z : Value) : w.grownBy (put3 w g x y z) (some g) :=
  only_setCell (p := ⟨g, 2, none⟩) (only_setCell (p := ⟨g, 1, none⟩) (only_setCell (p := ⟨g, 0, none⟩) (World.grownBy.refl w _) (.inl rfl) x) (.inl rfl) y) (.inl rfl) z
/-- A block of a bool and two slices. -/
def Blk3 (w : World) (g : Nat) (t : TypeId) (b : Bool) (v u : Value) : Prop := Blk w g t #[.bool b, v, u] ∧ noInt v = true ∧ noInt u = true
theorem Blk3.no {w : World} {g : Nat} {t : TypeId} {b : Bool} {v u : Value} (h : Blk3 w g t b v u) : ∀ (i : Nat) (y : Value), (#[Value.bool b, v, u] : Array Value)[i]? = some y → noInt y = true := by
  intro i y hy
  match i, hy with
  | 0, hy => simp at hy; subst hy; rfl
  | 1, hy => simp at hy; subst hy; exact h.2.1
  | 2, hy => simp at hy; subst hy; exact h.2.2
theorem put3_rd {w : World} {g : Nat} {t : TypeId} {b : Bool} {v u : Value} (h : Blk3 w g t b v u) {s : Value} {l : List Nat} (hs : Rd w s (cI l)) (x y z : Value) : Rd (put3 w g x y z) s (cI l) :=
  hs.keepInts (cI_int l) h.1 h.no (put3_grown w g x y z)
theorem put3_below {w0 w : World} {B g : Nat} (hb : Below B w0 w) (hg : B ≤ g) (x y z : Value) : Below B w0 (put3 w g x y z) := ((hb.setCell hg _).setCell hg _).setCell hg _

theorem val_one (n : Nat) : Dg.val Dg.W64 [n] = n := by simp [Dg.val]
theorem wrap_pos {a : Int} (hhi : a ≤ 9223372036854775807) (h : 0 ≤ a) : a = (a.natAbs : Int) := by omega
end Go.Proofs.YtgooioafmddneabGreatDoor
