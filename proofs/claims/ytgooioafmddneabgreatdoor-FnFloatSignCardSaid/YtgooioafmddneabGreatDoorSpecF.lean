/- The reference: Whole by its value; Words, HasWords, IsNumber, rest, Integer: that they end, and what they leave. -/
import Derived.Test.YtgooioafmddneabGreatDoorSpecC
import Derived.WalkLawsBesides
namespace Go.Proofs.YtgooioafmddneabGreatDoor
open Go.RowKit
theorem digs_len_pos_iff {m n : Nat} {w : World} {A : Option Addr} {c : Nat} (hv : Rd w (.slice A n c) (cI (Dg.digs 65536 m))) : decide (0 < n) = decide (0 < m) := by
  obtain ⟨_, _, e, _⟩ := hv.any
  injection e with _ e2 _
  rw [e2, cI_len]
  rcases Nat.eq_zero_or_pos m with h | h
  · subst h; simp [Dg.digs]
  · have := Dg.digs_len_pos (B := 65536) (by omega) h
    simp [h, this]
end Go.Proofs.YtgooioafmddneabGreatDoor
