/- The reference: Whole by its value; Words, HasWords, IsNumber, rest, Integer: that they end, and what they leave. -/
import Derived.Test.YtgooioafmddneacGreatDoorSpecC
import Derived.WalkLawsBesides
namespace Go.Proofs.YtgooioafmddneacGreatDoor
open Go.RowKit
theorem digs_len_pos_iff {m n : Nat} {w : World} {A : Option Addr} {c : Nat} (hv : Rd w (.slice A n c) (cI (Dg.digs 65536 m))) : decide (0 < n) = decide (0 < m) := by
  obtain ⟨_, _, e, _⟩ := hv.any
  injection e with _ e2 _
  rw [e2, cI_len]
  rcases Nat.eq_zero_or_pos m with h | h
  · subst h; simp [Dg.digs]
  · have := Dg.digs_len_pos (B := 65536) (by omega) h
    simp [h, this]
set_option maxHeartbeats 800000 in
theorem whole_any (neg : Bool) (m : Nat) (w : World) (A : Option Addr) (n c : Nat) (hv : Rd w (.slice A n c) (cI (Dg.digs 65536 m))) :
    Calls Tryz.prog 6 #[.bool neg, .slice A n c] w (GotRatio (neg && decide (0 < m)) m 1 w) := by
  rw [← digs_len_pos_iff hv]
  have Hv := hide hv
  clear hv
  have key : ∀ (b : Bool) (w2 : World) (A2 : Option Addr) (n2 k2 : Nat), Rd w2 (.slice A2 n2 k2) (cI (Dg.digs 65536 1)) → Below (w.heap.size + 1) (w.alloc (.cells #[.bool false, .slice none 0 0, .slice none 0 0] 33)) w2 →
      Rd (put3 w2 w.heap.size (.bool b) (.slice A n c) (.slice A2 n2 k2)) (.slice A n c) (cI (Dg.digs 65536 m)) ∧ Rd (put3 w2 w.heap.size (.bool b) (.slice A n c) (.slice A2 n2 k2)) (.slice A2 n2 k2) (cI (Dg.digs 65536 1)) ∧ Below w.heap.size w (put3 w2 w.heap.size (.bool b) (.slice A n c) (.slice A2 n2 k2)) := by
    intro b w2 A2 n2 k2 hu hb
    have hk := (Blk.new w 33 #[.bool false, .slice none 0 0, .slice none 0 0]).below hb (by omega)
    have H3 : Blk3 w2 w.heap.size 33 false (.slice none 0 0) (.slice none 0 0) := ⟨hk, rfl, rfl⟩
    have HB : Below w.heap.size w w2 := below_alloc (hb.mono (by omega)) (Nat.le_refl _)
    exact ⟨put3_rd H3 (Hv.out.below HB) _ _ _, put3_rd H3 hu _ _ _, put3_below HB (Nat.le_refl _) _ _ _⟩
  have cl : ∀ w2 : World, Below (w.heap.size + 1) (w.alloc (.cells #[.bool false, .slice none 0 0, .slice none 0 0] 33)) w2 → Blk w2 w.heap.size 33 #[.bool false, .slice none 0 0, .slice none 0 0] := fun w2 hb => (Blk.new w _ _).below hb (by omega)
  cases neg
  all_goals
    go_enter Tryz.func6, Tryz.ntmps6
    go_wp2_with fail
    refine (small_any 1 (by omega) _).mono ?_
    rintro e w2 ⟨u, rfl, hu, hb2⟩
    obtain ⟨A2, n2, k2, rfl⟩ := hu.shape
    rw [World.size_alloc] at hb2
    have hk2 := cl w2 hb2
    have c0 : w2.cell? ⟨w.heap.size, 0, none⟩ = some (.bool false) := hk2.cell 0
    have c1 : w2.cell? ⟨w.heap.size, 1, none⟩ = some (.slice none 0 0) := hk2.cell 1
    have c2 : w2.cell? ⟨w.heap.size, 2, none⟩ = some (.slice none 0 0) := hk2.cell 2
    have f0 := hk2.frozen 0
    have f1 := hk2.frozen 1
    have f2 := hk2.frozen 2
    have Hu := hide hu
    have Hb2 := hide hb2
    clear hu hb2 hk2
    go_wp2
    first
    | (refine bodyPost_ret (v := .agg #[.bool false, .slice A n c, .slice A2 n2 k2]) (by simp [results, Tryz.results6, go_sem, c0, c1, c2]) rfl ?_
       exact ⟨_, _, rfl, key false w2 A2 n2 k2 Hu.out Hb2.out⟩)
    | (generalize decide (0 < n) = b
       refine bodyPost_ret (v := .agg #[.bool b, .slice A n c, .slice A2 n2 k2]) (by simp [results, Tryz.results6, go_sem, c0, c1, c2]) rfl ?_
       exact ⟨_, _, rfl, key b w2 A2 n2 k2 Hu.out Hb2.out⟩)
end Go.Proofs.YtgooioafmddneacGreatDoor
