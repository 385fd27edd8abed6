/- Plain arithmetic of digits: words of 64 bits out of digits of 16. No program is named here. -/
import Derived.Test.YtgooioafmddneabGreatDoorMath
namespace Go.Proofs.YtgooioafmddneabGreatDoor
namespace Dg
/-- The words l are those of the first j digits of xs. -/
def WP (xs : List Nat) (j : Nat) (l : List Nat) : Prop := l.length = (j + 3) / 4 ∧ val W64 l = val 65536 (xs.take j) ∧ ∀ x ∈ l, x < W64
theorem W64_pow (q : Nat) : W64 ^ q = 65536 ^ (4 * q) := by rw [W64_eq, Nat.pow_mul]
theorem W64_pos (q : Nat) : 0 < W64 ^ q := Nat.pow_pos (by rw [W64_eq]; exact Nat.pow_pos (by omega))
theorem digit_lt {t d r : Nat} (ht : t < 65536 ^ r) (hd : d < 65536) : t + 65536 ^ r * d < 65536 ^ (r + 1) := by
  have h3 : 65536 ^ r * d + 65536 ^ r ≤ 65536 ^ r * 65536 := by rw [← Nat.mul_succ]; exact Nat.mul_le_mul_left _ hd
  rw [Nat.pow_succ]; omega
theorem pow_le_W64 {r : Nat} (hr : r ≤ 4) : 65536 ^ r ≤ W64 := by
  rw [W64_eq]; exact Nat.pow_le_pow_right (by omega) hr
theorem wp_zero (xs : List Nat) : WP xs 0 [] := ⟨rfl, by simp [val], by simp⟩
theorem wp_split {xs l : List Nat} {j : Nat} (hx : ∀ d ∈ xs, d < 65536) (h : WP xs j l) (hr : 0 < j % 4) :
    ∃ l0 t, l = l0 ++ [t] ∧ l0.length = j / 4 ∧ t < 65536 ^ (j % 4) ∧ (∀ x ∈ l0, x < W64) := by
  obtain ⟨hl, hv, hd⟩ := h
  have hne : l ≠ [] := by intro e; subst e; simp at hl; omega
  obtain ⟨l0, t, rfl⟩ : ∃ l0 t, l = l0 ++ [t] := ⟨l.dropLast, l.getLast hne, (List.dropLast_concat_getLast hne).symm⟩
  have hl0 : l0.length = j / 4 := by simp at hl; omega
  refine ⟨l0, t, rfl, hl0, ?_, fun x hx => hd x (List.mem_append_left _ hx)⟩
  rw [val_snoc, hl0, W64_pow] at hv
  have h1 := take_lt hx j
  have h2 : 65536 ^ min j xs.length ≤ 65536 ^ j := Nat.pow_le_pow_right (by omega) (Nat.min_le_left _ _)
  have h3 : 65536 ^ j = 65536 ^ (4 * (j / 4)) * 65536 ^ (j % 4) := by rw [← Nat.pow_add]; congr 1; omega
  have h4 : 65536 ^ (4 * (j / 4)) * t < 65536 ^ (4 * (j / 4)) * 65536 ^ (j % 4) := by omega
  exact Nat.lt_of_mul_lt_mul_left h4
theorem wp_first {xs l : List Nat} {j : Nat} (h : WP xs j l) (hr : j % 4 = 0) : l.length = j / 4 ∧ val W64 (l ++ [0]) = val 65536 (xs.take j) ∧ (∀ x ∈ l, x < W64) := by
  obtain ⟨hl, hv, hd⟩ := h
  exact ⟨by omega, by rw [val_snoc]; omega, hd⟩
theorem wp_step {xs l0 : List Nat} {j t d : Nat} (hl : l0.length = j / 4) (hv : val W64 (l0 ++ [t]) = val 65536 (xs.take j)) (ht : t < 65536 ^ (j % 4)) (h0 : ∀ x ∈ l0, x < W64) (hd : d < 65536)
    (hx : val 65536 (xs.take (j + 1)) = val 65536 (xs.take j) + 65536 ^ j * d) : WP xs (j + 1) (l0 ++ [t + 65536 ^ (j % 4) * d]) := by
  refine ⟨by simp; omega, ?_, ?_⟩
  · have h3 : 65536 ^ j = 65536 ^ (4 * (j / 4)) * 65536 ^ (j % 4) := by rw [← Nat.pow_add]; congr 1; omega
    rw [val_snoc, hl, W64_pow] at hv
    rw [val_snoc, hl, hx, ← hv, W64_pow, h3, Nat.mul_add, Nat.mul_assoc]
    omega
  · intro x hx
    rcases List.mem_append.1 hx with hx | hx
    · exact h0 x hx
    · rw [List.mem_singleton.1 hx]
      exact Nat.lt_of_lt_of_le (digit_lt ht hd) (pow_le_W64 (by omega))
theorem wp_done {xs l : List Nat} {n : Nat} (hn : n = xs.length) (hc : Can 65536 xs) (h : WP xs n l) : l = digs W64 (val 65536 xs) := by
  obtain ⟨hl, hv, hd⟩ := h
  rw [val_take_all (by omega)] at hv
  have h2 : 2 ≤ W64 := by rw [W64_eq]; decide
  rw [← hv]
  refine (digs_val h2 ⟨hd, fun e => ?_⟩).symm
  have hz := val_dropLast_zero (B := W64) e
  have hne : l ≠ [] := by intro e2; subst e2; simp at e
  have hlt : val W64 l.dropLast < W64 ^ l.dropLast.length := val_lt _ fun x hx => hd x (List.dropLast_subset l hx)
  rw [hz, hv, W64_pow, List.length_dropLast, hl] at hlt
  have hpos : 0 < n := by
    rcases Nat.eq_zero_or_pos n with h0 | h0
    · subst h0; simp at hl; exact absurd hl hne
    · exact h0
  have hxne : xs ≠ [] := by intro e2; subst e2; simp at hn; omega
  have hp := can_val_pos (by omega) hc hxne
  have h5 := pow_le_digs (B := 65536) (by omega) hp
  rw [digs_val (by omega) hc, ← hn] at h5
  have h6 : 65536 ^ (4 * ((n + 3) / 4 - 1)) ≤ 65536 ^ (n - 1) := Nat.pow_le_pow_right (by omega) (by omega)
  omega
end Dg
end Go.Proofs.YtgooioafmddneabGreatDoor
