/- The plain mathematics of digits: natural numbers as lists of digits in a base, the lowest first. No program is named here. -/
namespace Go.Proofs.YtgooioafmddneabGreatDoor.Dg

/-- The digits of a number in base B (at least 2), the lowest first. -/
def digs (B n : Nat) : List Nat := if _h : n = 0 ∨ B < 2 then [] else n % B :: digs B (n / B)
termination_by n
decreasing_by exact Nat.div_lt_self (by omega) (by omega)

/-- The number of a list of digits. -/
def val (B : Nat) : List Nat → Nat
  | [] => 0
  | d :: l => d + B * val B l

theorem digs_zero (B : Nat) : digs B 0 = [] := by rw [digs]; simp
theorem digs_pos {B n : Nat} (hB : 2 ≤ B) (hn : 0 < n) : digs B n = n % B :: digs B (n / B) := by
  rw [digs, dif_neg (by omega)]
theorem val_digs {B : Nat} (hB : 2 ≤ B) (n : Nat) : val B (digs B n) = n := by
  induction n using Nat.strongRecOn with
  | _ n ih =>
    rcases Nat.eq_zero_or_pos n with h | h
    · subst h; rw [digs_zero]; rfl
    · rw [digs_pos hB h, val, ih _ (Nat.div_lt_self h (by omega))]
      exact Nat.mod_add_div n B
theorem digs_lt {B : Nat} (hB : 2 ≤ B) (n : Nat) : ∀ d ∈ digs B n, d < B := by
  induction n using Nat.strongRecOn with
  | _ n ih =>
    rcases Nat.eq_zero_or_pos n with h | h
    · subst h; rw [digs_zero]; simp
    · rw [digs_pos hB h]
      intro d hd
      rcases List.mem_cons.1 hd with rfl | hd
      · exact Nat.mod_lt _ (by omega)
      · exact ih _ (Nat.div_lt_self h (by omega)) d hd
theorem val_append (B : Nat) (l m : List Nat) : val B (l ++ m) = val B l + B ^ l.length * val B m := by
  induction l with
  | nil => simp [val]
  | cons d l ih =>
    simp only [List.cons_append, val, ih, List.length_cons, Nat.pow_succ]
    rw [Nat.mul_add, Nat.add_assoc, ← Nat.mul_assoc, Nat.mul_comm B (B ^ l.length)]
theorem val_snoc (B : Nat) (l : List Nat) (d : Nat) : val B (l ++ [d]) = val B l + B ^ l.length * d := by
  rw [val_append]; simp [val]
theorem val_lt {B : Nat} (l : List Nat) (h : ∀ d ∈ l, d < B) : val B l < B ^ l.length := by
  induction l with
  | nil => simp [val]
  | cons d l ih =>
    have h1 := h d (by simp)
    have h2 := ih (fun x hx => h x (by simp [hx]))
    simp only [val, List.length_cons, Nat.pow_succ]
    have h3 : B * val B l + B ≤ B * B ^ l.length := by rw [← Nat.mul_succ]; exact Nat.mul_le_mul_left _ h2
    rw [Nat.mul_comm (B ^ l.length)]
    omega
theorem val_zeros (B k : Nat) : val B (List.replicate k 0) = 0 := by
  induction k with
  | zero => rfl
  | succ k ih => simp [List.replicate_succ, val, ih]

/-- Digits below B, the last one not 0. -/
def Can (B : Nat) (l : List Nat) : Prop := (∀ d ∈ l, d < B) ∧ l.getLast? ≠ some 0

theorem can_tail {B d : Nat} {l : List Nat} (h : Can B (d :: l)) : Can B l := by
  refine ⟨fun x hx => h.1 x (by simp [hx]), fun e => h.2 ?_⟩
  cases l with
  | nil => simp at e
  | cons a l => rw [List.getLast?_cons_cons]; exact e
theorem can_val_pos {B : Nat} (hB : 2 ≤ B) {l : List Nat} (h : Can B l) (hl : l ≠ []) : 0 < val B l := by
  induction l with
  | nil => exact absurd rfl hl
  | cons d l ih =>
    cases l with
    | nil =>
      have h2 : d ≠ 0 := by have := h.2; simpa using this
      simp [val]; omega
    | cons a l =>
      have := ih (can_tail h) (by simp)
      rw [val]
      have : 0 < B * val B (a :: l) := Nat.mul_pos (by omega) this
      omega
theorem digs_val {B : Nat} (hB : 2 ≤ B) {l : List Nat} (h : Can B l) : digs B (val B l) = l := by
  induction l with
  | nil => simp [val, digs_zero]
  | cons d l ih =>
    have hp := can_val_pos hB h (by simp)
    have hd := h.1 d (by simp)
    rw [digs_pos hB hp]
    have e1 : val B (d :: l) % B = d := by rw [val, Nat.add_mul_mod_self_left, Nat.mod_eq_of_lt hd]
    have e2 : val B (d :: l) / B = val B l := by rw [val, Nat.add_mul_div_left _ _ (by omega), Nat.div_eq_of_lt hd, Nat.zero_add]
    rw [e1, e2, ih (can_tail h)]
theorem can_digs {B : Nat} (hB : 2 ≤ B) (n : Nat) : Can B (digs B n) := by
  refine ⟨digs_lt hB n, ?_⟩
  induction n using Nat.strongRecOn with
  | _ n ih =>
    rcases Nat.eq_zero_or_pos n with h | h
    · subst h; rw [digs_zero]; simp
    · have hlt : n / B < n := Nat.div_lt_self h (by omega)
      rw [digs_pos hB h]
      rcases Nat.eq_zero_or_pos (n / B) with h2 | h2
      · rw [h2, digs_zero]
        have : n < B := by
          rcases Nat.lt_or_ge n B with h3 | h3
          · exact h3
          · have h4 : 0 < n / B := Nat.div_pos h3 (by omega)
            omega
        rw [Nat.mod_eq_of_lt this]
        intro e
        have e2 : n = 0 := by simpa using e
        omega
      · have := ih _ hlt
        rw [digs_pos hB h2] at this ⊢
        rw [List.getLast?_cons_cons]
        exact this
/-- A 0 at the end tells nothing: the step of trimming. -/
theorem val_dropLast_zero {B : Nat} {l : List Nat} (h : l.getLast? = some 0) : val B l.dropLast = val B l := by
  have : l = l.dropLast ++ [0] := by
    have hne : l ≠ [] := by rintro rfl; simp at h
    have := List.dropLast_concat_getLast hne
    have h2 : l.getLast hne = 0 := by
      rw [List.getLast?_eq_some_getLast hne] at h; simpa using h
    rw [h2] at this; exact this.symm
  conv => rhs; rw [this]
  rw [val_snoc]; simp
theorem digs_len_le {B : Nat} (hB : 2 ≤ B) {n k : Nat} (h : n < B ^ k) : (digs B n).length ≤ k := by
  induction k generalizing n with
  | zero => have : n = 0 := by simpa using h
            subst this; simp [digs_zero]
  | succ k ih =>
    rcases Nat.eq_zero_or_pos n with h0 | h0
    · subst h0; simp [digs_zero]
    · rw [digs_pos hB h0, List.length_cons]
      have : n / B < B ^ k := by
        rw [Nat.div_lt_iff_lt_mul (by omega)]; rw [Nat.pow_succ] at h; exact h
      have := ih this
      omega
theorem lt_pow_digs {B : Nat} (hB : 2 ≤ B) (n : Nat) : n < B ^ (digs B n).length := by
  have := val_lt (B := B) (digs B n) (digs_lt hB n)
  rwa [val_digs hB] at this
theorem pow_le_digs {B : Nat} (hB : 2 ≤ B) {n : Nat} (h : 0 < n) : B ^ ((digs B n).length - 1) ≤ n := by
  rcases Nat.lt_or_ge n (B ^ ((digs B n).length - 1)) with h1 | h1
  · have := digs_len_le hB h1
    rw [digs_pos hB h] at this
    simp at this
    omega
  · exact h1
theorem digs_nil_iff {B : Nat} (hB : 2 ≤ B) {n : Nat} : digs B n = [] ↔ n = 0 := by
  constructor
  · intro h
    have := val_digs hB n
    rw [h] at this; exact this.symm
  · rintro rfl; exact digs_zero B
theorem digs_len_pos {B : Nat} (hB : 2 ≤ B) {n : Nat} (h : 0 < n) : 0 < (digs B n).length := by
  rw [digs_pos hB h]; simp
theorem digs_getD {B : Nat} (hB : 2 ≤ B) (n i : Nat) : (digs B n).getD i 0 = n / B ^ i % B := by
  induction i generalizing n with
  | zero =>
    rcases Nat.eq_zero_or_pos n with h0 | h0
    · subst h0; simp [digs_zero]
    · rw [digs_pos hB h0]; simp
  | succ i ih =>
    rcases Nat.eq_zero_or_pos n with h0 | h0
    · subst h0; simp [digs_zero]
    · rw [digs_pos hB h0, List.getD_cons_succ, ih, Nat.div_div_eq_div_mul, Nat.pow_succ, Nat.mul_comm B]
theorem val_take {B : Nat} (hB : 2 ≤ B) (n k : Nat) : val B ((digs B n).take k) = n % B ^ k := by
  induction k generalizing n with
  | zero => simp [val, Nat.mod_one]
  | succ k ih =>
    rcases Nat.eq_zero_or_pos n with h0 | h0
    · subst h0; simp [digs_zero, val]
    · rw [digs_pos hB h0, List.take_succ_cons, val, ih, Nat.pow_succ, Nat.mul_comm (B ^ k), Nat.mod_mul]
theorem val_drop {B : Nat} (hB : 2 ≤ B) (n k : Nat) : val B ((digs B n).drop k) = n / B ^ k := by
  induction k generalizing n with
  | zero => simp [val_digs hB]
  | succ k ih =>
    rcases Nat.eq_zero_or_pos n with h0 | h0
    · subst h0; simp [digs_zero, val]
    · rw [digs_pos hB h0, List.drop_succ_cons, ih, Nat.div_div_eq_div_mul, Nat.pow_succ, Nat.mul_comm B]
theorem digs_len_mono {B : Nat} (hB : 2 ≤ B) {m n : Nat} (h : m ≤ n) : (digs B m).length ≤ (digs B n).length :=
  digs_len_le hB (Nat.lt_of_le_of_lt h (lt_pow_digs hB n))
theorem digs_inj {B : Nat} (hB : 2 ≤ B) {m n : Nat} (h : digs B m = digs B n) : m = n := by
  rw [← val_digs hB m, h, val_digs hB]
end Go.Proofs.YtgooioafmddneabGreatDoor.Dg
