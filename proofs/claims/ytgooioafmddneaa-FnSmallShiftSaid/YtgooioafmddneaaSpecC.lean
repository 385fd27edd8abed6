/- The reference's functions on fractions, each by its contract: Of64, Whole. -/
import Derived.Test.YtgooioafmddneaaSpecA
namespace Go.Proofs.Ytgooioafmddneaa
open Go.RowKit

/-- The call returns a fraction: its sign, and the digits of its numerator and denominator; it leaves what was there. -/
def GotRatio (neg : Bool) (n d : Nat) (w : World) (e : Ending) (w' : World) : Prop :=
  ∃ v u, e = .returned (.agg #[.bool neg, v, u]) ∧ Rd w' v (cI (Dg.digs 65536 n)) ∧ Rd w' u (cI (Dg.digs 65536 d)) ∧ Below w.heap.size w w'

@[go_sem] theorem field_neg (b : Bool) (A B : Option Addr) (n c m d : Nat) (w : World) : (Instr.field 30 (.agg #[.bool b, .slice A n c, .slice B m d]) 0).run Try.prog w = .ok (.bool b) w := by kernel_rfl
@[go_sem] theorem field_num (b : Bool) (A B : Option Addr) (n c m d : Nat) (w : World) : (Instr.field 30 (.agg #[.bool b, .slice A n c, .slice B m d]) 1).run Try.prog w = .ok (.slice A n c) w := by kernel_rfl
@[go_sem] theorem field_den (b : Bool) (A B : Option Addr) (n c m d : Nat) (w : World) : (Instr.field 30 (.agg #[.bool b, .slice A n c, .slice B m d]) 2).run Try.prog w = .ok (.slice B m d) w := by kernel_rfl
theorem rd_one (w : World) (u : Value) (t : TypeId) : Rd (w.alloc (.cells #[u] t)) (.slice (some ⟨w.heap.size, 0, none⟩) 1 1) [u] := by
  refine ⟨_, 1, rfl, by simp, by simp [maxLen], fun _ => ⟨w.heap.size, 0, rfl, by simp, fun j x hj => ?_⟩⟩
  match j, hj with
  | 0, hj => simp at hj; subst hj; exact cell_new1 _ _ _
theorem wrap_abs_neg {a : Int} (hlo : -9223372036854775808 ≤ a) (h : a < 0) : IntKind.u64.wrap (-IntKind.u64.wrap a) = (a.natAbs : Int) := by
  rw [IntKind.wrap_u64, IntKind.wrap_u64]; omega

/-- The world behind the store of a fraction into a block of three cells. -/
def put3 (w : World) (g : Nat) (x y z : Value) : World := ((w.setCell ⟨g, 0, none⟩ x).setCell ⟨g, 1, none⟩ y).setCell ⟨g, 2, none⟩ z
theorem put3_grown (w : World) (g : Nat) (x y z : Value) : w.grownBy (put3 w g x y z) (some g) :=
  only_setCell (p := ⟨g, 2, none⟩) (only_setCell (p := ⟨g, 1, none⟩) (only_setCell (p := ⟨g, 0, none⟩) (World.grownBy.refl w _) (.inl rfl) x) (.inl rfl) y) (.inl rfl) z
/-- A block of a bool and two slices. -/
def Blk3 (w : World) (g : Nat) (t : TypeId) (b : Bool) (v u : Value) : Prop := Blk w g t #[.bool b, v, u] ∧ noInt v = true ∧ noInt u = true
theorem Blk3.no {w : World} {g : Nat} {t : TypeId} {b : Bool} {v u : Value} (h : Blk3 w g t b v u) : ∀ (i : Nat) (y : Value), (#[Value.bool b, v, u] : Array Value)[i]? = some y → noInt y = true := by
  intro i y hy
  match i, hy with
  | 0, hy => simp at hy; subst hy; rfl
  | 1, hy => simp at hy; subst hy; exact h.2.1
  | 2, hy => simp at hy; subst hy; exact h.2.2
theorem put3_rd {w : World} {g : Nat} {t : TypeId} {b : Bool} {v u : Value} (h : Blk3 w g t b v u) {s : Value} {l : List Nat} (hs : Rd w s (cI l)) (x y z : Value) : Rd (put3 w g x y z) s (cI l) :=
  hs.keepInts (cI_int l) h.1 h.no (put3_grown w g x y z)
theorem put3_below {w0 w : World} {B g : Nat} (hb : Below B w0 w) (hg : B ≤ g) (x y z : Value) : Below B w0 (put3 w g x y z) := ((hb.setCell hg _).setCell hg _).setCell hg _

theorem val_one (n : Nat) : Dg.val Dg.W64 [n] = n := by simp [Dg.val]
theorem wrap_pos {a : Int} (hhi : a ≤ 9223372036854775807) (h : 0 ≤ a) : a = (a.natAbs : Int) := by omega
set_option maxHeartbeats 800000 in
theorem of64_any (a : Int) (hlo : -9223372036854775808 ≤ a) (hhi : a ≤ 9223372036854775807) (w : World) :
    Calls Try.prog 7 #[.int .i64 a] w (GotRatio (decide (a < 0)) a.natAbs 1 w) := by
  by_cases h : a < 0
  · have hd : decide (a < 0) = true := by simpa using h
    rw [hd]
    clear hd
    obtain ⟨B, hB⟩ : ∃ B, B = w.heap.size := ⟨_, rfl⟩
    go_enter Try.func7, Try.ntmps7
    go_wp2_with fail
    have hk := Blk.new w 30 #[Value.bool false, Value.slice none 0 0, Value.slice none 0 0]
    have h1 := rd_one (w.alloc (Obj.cells #[Value.bool false, Value.slice none 0 0, Value.slice none 0 0] 30)) (.int .u64 (a.natAbs : Int)) 25
    rw [wrap_abs_neg hlo h]
    rw [World.size_alloc] at h1
    refine (of_any [a.natAbs] (by simp [Dg.W64]; omega) (by simp) _ _ h1).mono ?_
    rintro e w1 ⟨v, rfl, hv, hb1⟩
    rw [val_one] at hv
    obtain ⟨A1, n1, k1, rfl⟩ := hv.shape
    go_wp2_with fail
    refine (small_any 1 (by omega) _).mono ?_
    rintro e w2 ⟨u, rfl, hu, hb2⟩
    obtain ⟨A2, n2, k2, rfl⟩ := hu.shape
    have hk2 : Blk w2 w.heap.size 30 _ := ((hk.alloc _).below hb1 (by simp; omega)).below hb2 (by have := hb1.size; simp at this; omega)
    have c0 : w2.cell? ⟨w.heap.size, 0, none⟩ = some (.bool false) := hk2.cell 0
    have c1 : w2.cell? ⟨w.heap.size, 1, none⟩ = some (.slice none 0 0) := hk2.cell 1
    have c2 : w2.cell? ⟨w.heap.size, 2, none⟩ = some (.slice none 0 0) := hk2.cell 2
    have f0 := hk2.frozen 0
    have f1 := hk2.frozen 1
    have f2 := hk2.frozen 2
    go_wp2
    have H3 : Blk3 w2 w.heap.size 30 false (.slice none 0 0) (.slice none 0 0) := ⟨hk2, rfl, rfl⟩
    have HB : Below w.heap.size w w2 := (((below1 _ _).alloc (by simp) _).trans (hb1.mono (by simp; omega))).trans (hb2.mono (by have := hb1.size; simp at this; omega))
    have R1 := put3_rd H3 (hv.below hb2) (.bool true) (.slice A1 n1 k1) (.slice A2 n2 k2)
    have R2 := put3_rd H3 hu (.bool true) (.slice A1 n1 k1) (.slice A2 n2 k2)
    have R3 := put3_below HB (Nat.le_refl _) (.bool true) (.slice A1 n1 k1) (.slice A2 n2 k2)
    refine bodyPost_ret (v := .agg #[.bool true, .slice A1 n1 k1, .slice A2 n2 k2]) (by simp [results, Try.results7, go_sem, c0, c1, c2]) rfl ?_
    exact ⟨_, _, rfl, R1, R2, R3⟩
  · have hd : decide (a < 0) = false := by simpa using h
    rw [hd]
    have h' : 0 ≤ a := by omega
    clear hd h
    obtain ⟨x, hx⟩ : ∃ x, x = a.natAbs := ⟨_, rfl⟩
    have ha : a = (x : Int) := by omega
    rw [← hx]
    have hxl : x ≤ 9223372036854775807 := by omega
    clear hx h' hlo hhi
    subst ha
    go_enter Try.func7, Try.ntmps7
    go_wp2_with fail
    have hk := Blk.new w 30 #[Value.bool false, Value.slice none 0 0, Value.slice none 0 0]
    have h1 := rd_one (w.alloc (Obj.cells #[Value.bool false, Value.slice none 0 0, Value.slice none 0 0] 30)) (.int .u64 (x : Int)) 25
    rw [World.size_alloc] at h1
    refine (of_any [x] (by simp [Dg.W64]; omega) (by simp) _ _ h1).mono ?_
    rintro e w1 ⟨v, rfl, hv, hb1⟩
    rw [val_one] at hv
    obtain ⟨A1, n1, k1, rfl⟩ := hv.shape
    go_wp2_with fail
    refine (small_any 1 (by omega) _).mono ?_
    rintro e w2 ⟨u, rfl, hu, hb2⟩
    obtain ⟨A2, n2, k2, rfl⟩ := hu.shape
    have hk2 : Blk w2 w.heap.size 30 _ := ((hk.alloc _).below hb1 (by simp; omega)).below hb2 (by have := hb1.size; simp at this; omega)
    have c0 : w2.cell? ⟨w.heap.size, 0, none⟩ = some (.bool false) := hk2.cell 0
    have c1 : w2.cell? ⟨w.heap.size, 1, none⟩ = some (.slice none 0 0) := hk2.cell 1
    have c2 : w2.cell? ⟨w.heap.size, 2, none⟩ = some (.slice none 0 0) := hk2.cell 2
    have f0 := hk2.frozen 0
    have f1 := hk2.frozen 1
    have f2 := hk2.frozen 2
    go_wp2
    have H3 : Blk3 w2 w.heap.size 30 false (.slice none 0 0) (.slice none 0 0) := ⟨hk2, rfl, rfl⟩
    have HB : Below w.heap.size w w2 := (((below1 _ _).alloc (by simp) _).trans (hb1.mono (by simp; omega))).trans (hb2.mono (by have := hb1.size; simp at this; omega))
    have R1 := put3_rd H3 (hv.below hb2) (.bool false) (.slice A1 n1 k1) (.slice A2 n2 k2)
    have R2 := put3_rd H3 hu (.bool false) (.slice A1 n1 k1) (.slice A2 n2 k2)
    have R3 := put3_below HB (Nat.le_refl _) (.bool false) (.slice A1 n1 k1) (.slice A2 n2 k2)
    refine bodyPost_ret (v := .agg #[.bool false, .slice A1 n1 k1, .slice A2 n2 k2]) (by simp [results, Try.results7, go_sem, c0, c1, c2]) rfl ?_
    exact ⟨_, _, rfl, R1, R2, R3⟩
end Go.Proofs.Ytgooioafmddneaa
