/- The package's int of an int64 (SetInt64) and its shift to the left. -/
import Derived.Test.YtgooioafmddneacGreatDoorNatB
import Derived.Test.YtgooioafmddneacGreatDoorSpecC
import Derived.Test.YtgooioafmddneacGreatDoorBigB
import Derived.Deep.RegionHeld3
namespace Go.Proofs.YtgooioafmddneacGreatDoor
open Go.RowKit
theorem and63 {r : Nat} (h : r < 64) : bits .and .u64 (r : Int) 63 = (r : Int) := by
  rw [show (63 : Int) = ((63 : Nat) : Int) from rfl, u64_and_nat _ _ (by omega) (by omega), show (63 : Nat) = 2 ^ 6 - 1 from rfl, Nat.and_two_pow_sub_one_eq_mod]
  congr 1
  omega
set_option maxHeartbeats 800000 in
theorem setWord_any (n : Nat) (h0 : 0 < n) (_ : n < W64) (w : World) :
    Calls Tryz.prog 60 #[.slice none 0 0, .int .u64 (n : Int)] w (fun e w' => e = .returned (.slice (some ⟨w.heap.size, 0, none⟩) 1 1) ∧ w' = w.alloc (.cells #[.int .u64 (n : Int)] 60)) := by
  have hn' : ¬ (n : Int) = 0 := by omega
  go_enter Tryz.func60, Tryz.ntmps60
  go_wp2_with fail
  refine (natMake1 w).mono ?_
  rintro e w' ⟨rfl, rfl⟩
  go_wp2
  go_ret
  exact ⟨rfl, rfl⟩
theorem setUint64_any (n : Nat) (h0 : 0 < n) (hn : n < W64) (w : World) :
    Calls Tryz.prog 47 #[.slice none 0 0, .int .u64 (n : Int)] w (fun e w' => e = .returned (.slice (some ⟨w.heap.size, 0, none⟩) 1 1) ∧ w' = w.alloc (.cells #[.int .u64 (n : Int)] 60)) := by
  have hW : W64 = 18446744073709551616 := rfl
  have hb : n ≤ 18446744073709551615 := by omega
  have C := hide (setWord_any n h0 hn w)
  clear hn hW
  go_enter Tryz.func47, Tryz.ntmps47
  go_wp2_with fail
  refine C.out.mono ?_
  rintro e w' ⟨rfl, rfl⟩
  go_wp2
  go_ret
  exact ⟨rfl, rfl⟩
theorem setUint64_zero (w : World) :
    Calls Tryz.prog 47 #[.slice none 0 0, .int .u64 0] w (fun e w' => e = .returned (.slice none 0 0) ∧ w' = w) := by
  have C : ∀ w, Calls Tryz.prog 60 #[.slice none 0 0, .int .u64 0] w (fun e w' => e = .returned (.slice none 0 0) ∧ w' = w) := by
    intro w
    go_enter Tryz.func60, Tryz.ntmps60
    go_wp2
    go_ret
    exact ⟨rfl, rfl⟩
  go_enter Tryz.func47, Tryz.ntmps47
  go_wp2_with fail
  refine (C w).mono ?_
  rintro e w' ⟨rfl, rfl⟩
  go_wp2
  go_ret
  exact ⟨rfl, rfl⟩
theorem wrapU_neg {a : Int} (hlo : -9223372036854775808 ≤ a) (h : a < 0) : IntKind.u64.wrap (wrap64 (-a)) = (a.natAbs : Int) := by
  rw [IntKind.wrap_u64]; unfold wrap64; omega
set_option maxHeartbeats 800000 in
theorem setInt64_new (a : Int) (hlo : -9223372036854775808 ≤ a) (hhi : a ≤ 9223372036854775807) (w : World) (g : Nat) (hb : Blk w g 76 #[.bool false, .slice none 0 0]) :
    Calls Tryz.prog 32 #[.pointer (some ⟨g, 0, none⟩), .int .i64 a] w (fun e w' => e = .returned (.pointer (some ⟨g, 0, none⟩)) ∧ Below g w w' ∧
      ((a = 0 ∧ Blk w' g 76 #[.bool false, .slice none 0 0]) ∨ (a ≠ 0 ∧ Blk w' g 76 #[.bool (decide (a < 0)), .slice (some ⟨w.heap.size, 0, none⟩) 1 1] ∧ w'.cell? ⟨w.heap.size, 0, none⟩ = some (.int .u64 (a.natAbs : Int)) ∧ w.heap.size < w'.heap.size))) := by
  have c0 := hb.cell 0
  have c1 := hb.cell 1
  have f0 := hb.frozen 0
  have f1 := hb.frozen 1
  have hlt := hb.lt
  simp only [List.getElem?_toArray, List.getElem?_cons_zero, List.getElem?_cons_succ] at c0 c1
  have Hb := hide hb
  clear hb
  have hW : W64 = 18446744073709551616 := rfl
  rcases Int.lt_trichotomy a 0 with h | h | h
  · have C := hide (setUint64_any a.natAbs (by omega) (by omega))
    have hz := wrapU_neg hlo h
    have h' : ¬ 0 ≤ a := by omega
    have HD := hide (show a ≠ 0 ∧ decide (a < 0) = true by exact ⟨by omega, by simpa using h⟩)
    have H1 := hide ((Hb.out.alloc (Obj.cells #[Value.int .u64 (a.natAbs : Int)] 60)))
    have d0 := H1.out.cell 0
    have d1 := H1.out.cell 1
    have e0 := H1.out.frozen 0
    have e1 := H1.out.frozen 1
    simp only [List.getElem?_toArray, List.getElem?_cons_zero, List.getElem?_cons_succ] at d0 d1
    have Hlt := hide hlt
    clear hW hlt
    go_enter Tryz.func32, Tryz.ntmps32
    go_wp2_with fail
    refine (C.out _).mono ?_
    rintro e w' ⟨rfl, rfl⟩
    go_wp2
    go_ret
    have hk := (H1.out.set_ 1 (.slice (some ⟨w.heap.size, 0, none⟩) 1 1)).set_ 0 (.bool true)
    have hcell : (((w.alloc (Obj.cells #[Value.int .u64 (a.natAbs : Int)] 60)).setCell ⟨g, 1, none⟩ (.slice (some ⟨w.heap.size, 0, none⟩) 1 1)).setCell ⟨g, 0, none⟩ (.bool true)).cell? ⟨w.heap.size, 0, none⟩ = some (.int .u64 (a.natAbs : Int)) := by
      have hg := Hlt.out
      rw [World.cell?_setCell_far _ _ _ _ (by simp; omega), World.cell?_setCell_far _ _ _ _ (by simp; omega), cell_new1]
    refine ⟨rfl, ((((Below.refl g w).alloc (Nat.le_of_lt Hlt.out) _).setCell (Nat.le_refl _) _).setCell (Nat.le_refl _) _), .inr ⟨HD.out.1, ?_, hcell, by simp [World.setCell]⟩⟩
    rw [HD.out.2]
    simpa using hk
  · subst h
    clear hW hlo hhi
    go_enter Tryz.func32, Tryz.ntmps32
    go_wp2_with fail
    refine (setUint64_zero w).mono ?_
    rintro e w' ⟨rfl, rfl⟩
    go_wp2
    go_ret
    have hk := (Hb.out.set_ 1 (.slice none 0 0)).set_ 0 (.bool false)
    exact ⟨rfl, ((Below.refl g _).setCell (Nat.le_refl _) _).setCell (Nat.le_refl _) _, .inl ⟨trivial, by simpa using hk⟩⟩
  · have C := hide (setUint64_any a.natAbs (by omega) (by omega))
    have hz : IntKind.u64.wrap a = (a.natAbs : Int) := by rw [IntKind.wrap_u64]; omega
    have h' : ¬ a < 0 := by omega
    have HD := hide (show a ≠ 0 ∧ decide (a < 0) = false by exact ⟨by omega, by simpa using h'⟩)
    have H1 := hide ((Hb.out.alloc (Obj.cells #[Value.int .u64 (a.natAbs : Int)] 60)))
    have d0 := H1.out.cell 0
    have d1 := H1.out.cell 1
    have e0 := H1.out.frozen 0
    have e1 := H1.out.frozen 1
    simp only [List.getElem?_toArray, List.getElem?_cons_zero, List.getElem?_cons_succ] at d0 d1
    have Hlt := hide hlt
    clear hW hlt
    go_enter Tryz.func32, Tryz.ntmps32
    go_wp2_with fail
    refine (C.out _).mono ?_
    rintro e w' ⟨rfl, rfl⟩
    go_wp2
    go_ret
    have hk := (H1.out.set_ 1 (.slice (some ⟨w.heap.size, 0, none⟩) 1 1)).set_ 0 (.bool false)
    have hcell : (((w.alloc (Obj.cells #[Value.int .u64 (a.natAbs : Int)] 60)).setCell ⟨g, 1, none⟩ (.slice (some ⟨w.heap.size, 0, none⟩) 1 1)).setCell ⟨g, 0, none⟩ (.bool false)).cell? ⟨w.heap.size, 0, none⟩ = some (.int .u64 (a.natAbs : Int)) := by
      have hg := Hlt.out
      rw [World.cell?_setCell_far _ _ _ _ (by simp; omega), World.cell?_setCell_far _ _ _ _ (by simp; omega), cell_new1]
    refine ⟨rfl, ((((Below.refl g w).alloc (Nat.le_of_lt Hlt.out) _).setCell (Nat.le_refl _) _).setCell (Nat.le_refl _) _), .inr ⟨HD.out.1, ?_, hcell, by simp [World.setCell]⟩⟩
    rw [HD.out.2]
    simpa using hk
set_option maxHeartbeats 800000 in
theorem lshVU_one (u r : Nat) (hu : u < W64) (h0 : 0 < r) (hr : r < 64) (w : World) (b o c g p d : Nat) (hx : w.cell? ⟨b, o, none⟩ = some (.int .u64 (u : Int))) (hz : (w.cell? ⟨g, p, none⟩).isSome = true) (hf : w.frozen? ⟨g, p, none⟩ = false) :
    Calls Tryz.prog 64 #[.slice (some ⟨g, p, none⟩) 1 d, .slice (some ⟨b, o, none⟩) 1 c, .int .u64 (r : Int)] w
      (fun e w' => e = .returned (.int .u64 ((u / 2 ^ (64 - r) : Nat) : Int)) ∧ w' = w.setCell ⟨g, p, none⟩ (.int .u64 ((u * 2 ^ r % W64 : Nat) : Int))) := by
  obtain ⟨y, hy⟩ := Option.isSome_iff_exists.1 hz
  have h1 := and63 hr
  have h2 := and63 (show 64 - r < 64 by omega)
  rw [show ((64 - r : Nat) : Int) = 64 - (r : Int) by omega] at h2
  have h3 : ¬ (r : Int) = 0 := by omega
  have HV : Hid ((u : Int) / 2 ^ (64 - r) = ((u / 2 ^ (64 - r) : Nat) : Int) ∧ IntKind.u64.wrap ((u : Int) * 2 ^ r) = ((u * 2 ^ r % W64 : Nat) : Int)) := by
    constructor
    · rw [show ((2 : Int) ^ (64 - r)) = ((2 ^ (64 - r) : Nat) : Int) by rw [Int.natCast_pow]; rfl]; rfl
    · rw [show ((2 : Int) ^ r) = ((2 ^ r : Nat) : Int) by rw [Int.natCast_pow]; rfl, IntKind.wrap_u64, ← Int.natCast_mul]; rfl
  have hub : (u : Int) ≤ 18446744073709551615 := by have hW : W64 = 18446744073709551616 := rfl; omega
  clear hz hu
  have C : Calls Tryz.prog 82 #[.slice (some ⟨g, p, none⟩) 1 d, .slice (some ⟨b, o, none⟩) 1 c, .int .u64 (r : Int)] w
      (fun e w' => e = .returned (.int .u64 ((u / 2 ^ (64 - r) : Nat) : Int)) ∧ w' = w.setCell ⟨g, p, none⟩ (.int .u64 ((u * 2 ^ r % W64 : Nat) : Int))) := by
    go_enter Tryz.func82, Tryz.ntmps82
    go_wp2
    go_loopw [8] (fun i wr => i = .int .i64 0 ∧ wr = w) (fun _ _ => 0)
    case atStart => exact ⟨rfl, rfl⟩
    case round =>
      obtain ⟨rfl, rfl⟩ := hrel
      go_wp2
      go_ret
      rw [HV.out.1, HV.out.2]
      exact ⟨rfl, rfl⟩
  have C := hide C
  clear h1 h2 h3 hub
  go_enter Tryz.func64, Tryz.ntmps64
  go_wp2_with fail
  refine C.out.mono ?_
  rintro e w' ⟨rfl, rfl⟩
  go_wp2
  go_ret
  exact ⟨rfl, rfl⟩
end Go.Proofs.YtgooioafmddneacGreatDoor
