/- The plain mathematics behind the reference's functions. No program is named here. -/
import Derived.Test.YtgooioafmddneabGreatDoorDigs
namespace Go.Proofs.YtgooioafmddneabGreatDoor.Dg

/-- How many bits a number has. -/
def bl (n : Nat) : Nat := (digs 2 n).length
theorem bl_zero : bl 0 = 0 := by simp [bl, digs_zero]
theorem bl_pos {n : Nat} (h : 0 < n) : bl n = bl (n / 2) + 1 := by simp [bl, digs_pos (by omega : 2 ≤ 2) h]
theorem bl_le {n k : Nat} (h : n < 2 ^ k) : bl n ≤ k := digs_len_le (by omega) h
theorem lt_bl (n : Nat) : n < 2 ^ bl n := lt_pow_digs (by omega) n
theorem bl_low {n : Nat} (h : 0 < n) : 2 ^ (bl n - 1) ≤ n := pow_le_digs (by omega) h
theorem bl_eq {n k : Nat} (h1 : 2 ^ k ≤ n) (h2 : n < 2 ^ (k + 1)) : bl n = k + 1 := by
  have h3 := bl_le h2
  have h4 := lt_bl n
  rcases Nat.lt_or_ge (bl n) (k + 1) with h5 | h5
  · have : 2 ^ bl n ≤ 2 ^ k := Nat.pow_le_pow_right (by omega) (by omega)
    omega
  · omega
theorem bl_pos_iff {n : Nat} : 0 < bl n ↔ 0 < n := by
  constructor
  · intro h
    rcases Nat.eq_zero_or_pos n with h0 | h0
    · subst h0; rw [bl_zero] at h; omega
    · exact h0
  · intro h; rw [bl_pos h]; omega
theorem lt_pow_iff_bl {n k : Nat} : n < 2 ^ k ↔ bl n ≤ k :=
  ⟨bl_le, fun h => Nat.lt_of_lt_of_le (lt_bl n) (Nat.pow_le_pow_right (by omega) h)⟩
/-- d above a part below 2 to the k. -/
theorem bl_top {d r k : Nat} (hd : 0 < d) (hr : r < 2 ^ k) : bl (r + 2 ^ k * d) = k + bl d := by
  have h1 := lt_bl d
  have h2 := bl_low hd
  have h3 : 0 < bl d := bl_pos_iff.2 hd
  have e : k + bl d = (k + bl d - 1) + 1 := by omega
  rw [e]
  apply bl_eq
  · have : 2 ^ (k + bl d - 1) = 2 ^ k * 2 ^ (bl d - 1) := by rw [← Nat.pow_add]; congr 1; omega
    rw [this]
    have := Nat.mul_le_mul_left (2 ^ k) h2
    omega
  · have : 2 ^ (k + bl d - 1 + 1) = 2 ^ k * 2 ^ bl d := by rw [← Nat.pow_add]; congr 1; omega
    rw [this]
    have := Nat.mul_le_mul_left (2 ^ k) (show d + 1 ≤ 2 ^ bl d from h1)
    rw [Nat.mul_succ] at this
    omega
theorem pow16 (k : Nat) : 65536 ^ k = 2 ^ (16 * k) := by rw [show 65536 = 2 ^ 16 from rfl, ← Nat.pow_mul]
theorem pow64 (k : Nat) : 18446744073709551616 ^ k = 2 ^ (64 * k) := by rw [show 18446744073709551616 = 2 ^ 64 from rfl, ← Nat.pow_mul]

/-- Digits of a canonical list: the last one, and what lies below it. -/
theorem val_split {B : Nat} {l : List Nat} (hl : 0 < l.length) : val B l = val B (l.take (l.length - 1)) + B ^ (l.length - 1) * l.getD (l.length - 1) 0 := by
  have e : l = l.take (l.length - 1) ++ [l.getD (l.length - 1) 0] := by
    conv => lhs; rw [← List.take_append_drop (l.length - 1) l]
    congr 1
    rw [List.drop_eq_getElem_cons (by omega), List.drop_of_length_le (by omega)]
    simp [List.getD, List.getElem?_eq_getElem (show l.length - 1 < l.length by omega)]
  conv => lhs; rw [e]
  rw [val_snoc]
  congr 2
  simp
theorem take_lt {B : Nat} {l : List Nat} (h : ∀ d ∈ l, d < B) (k : Nat) : val B (l.take k) < B ^ min k l.length := by
  have := val_lt (B := B) (l.take k) (fun d hd => h d (List.mem_of_mem_take hd))
  rwa [List.length_take] at this
theorem val_take_succ {B : Nat} {l : List Nat} {k : Nat} (hk : k < l.length) : val B (l.take (k + 1)) = val B (l.take k) + B ^ k * l.getD k 0 := by
  rw [List.take_succ_eq_append_getElem hk, val_snoc, List.length_take, Nat.min_eq_left (by omega)]
  simp [List.getD, List.getElem?_eq_getElem hk]
theorem val_take_all {B : Nat} {l : List Nat} {k : Nat} (hk : l.length ≤ k) : val B (l.take k) = val B l := by rw [List.take_of_length_le hk]
/-- The bits of a number by its digits of 16 bits: those of the last one, and 16 for each other. -/
theorem bl_can {l : List Nat} (h : Can 65536 l) (hl : 0 < l.length) : bl (val 65536 l) = 16 * (l.length - 1) + bl (l.getD (l.length - 1) 0) := by
  rw [val_split hl, pow16]
  have hd : 0 < l.getD (l.length - 1) 0 := by
    have := h.2
    rw [List.getLast?_eq_getElem?] at this
    rcases Nat.eq_zero_or_pos (l.getD (l.length - 1) 0) with h0 | h0
    · exfalso; apply this
      rw [List.getD_eq_getElem?_getD, List.getElem?_eq_getElem (show l.length - 1 < l.length by omega)] at h0
      rw [List.getElem?_eq_getElem (show l.length - 1 < l.length by omega)]
      simpa using h0
    · exact h0
  refine bl_top hd ?_
  have := take_lt h.1 (l.length - 1)
  rwa [Nat.min_eq_left (by omega), pow16] at this

/-- The value of words of 64 bits. -/
def W64 : Nat := 18446744073709551616
theorem W64_eq : W64 = 65536 ^ 4 := rfl
theorem split16 (w : Nat) (j : Nat) : w % 65536 ^ (j + 1) = w % 65536 ^ j + 65536 ^ j * (w / 65536 ^ j % 65536) := by
  rw [Nat.mod_pow_succ]
theorem of_step {l ws : List Nat} {k j : Nat} (w : Nat) (hl : l.length = 4 * k + j) (hv : val 65536 l = val W64 (ws.take k) + 65536 ^ (4 * k) * (w % 65536 ^ j)) :
    val 65536 (l ++ [w / 65536 ^ j % 65536]) = val W64 (ws.take k) + 65536 ^ (4 * k) * (w % 65536 ^ (j + 1)) := by
  rw [val_snoc, hv, hl, split16 w j, Nat.mul_add, Nat.pow_add, Nat.mul_assoc, Nat.add_assoc]
theorem of_next {l ws : List Nat} {k : Nat} (hk : k < ws.length) (hw : ws.getD k 0 < W64) (hv : val 65536 l = val W64 (ws.take k) + 65536 ^ (4 * k) * (ws.getD k 0 % 65536 ^ 4)) :
    val 65536 l = val W64 (ws.take (k + 1)) := by
  rw [W64_eq] at hw
  rw [hv, val_take_succ hk, Nat.mod_eq_of_lt hw, W64_eq, Nat.pow_mul]

/-- A comparison of two numbers, as Go's Cmp tells it. -/
def cmp (m n : Nat) : Int := if m < n then -1 else if n < m then 1 else 0
theorem cmp_lt {m n : Nat} (h : m < n) : cmp m n = -1 := by simp [cmp, h]
theorem cmp_gt {m n : Nat} (h : n < m) : cmp m n = 1 := by simp [cmp, h, Nat.not_lt.2 (Nat.le_of_lt h)]
theorem cmp_eq (m : Nat) : cmp m m = 0 := by simp [cmp]
theorem cmp_zero {m n : Nat} : cmp m n = 0 ↔ m = n := by
  unfold cmp
  split
  · simp; omega
  · split
    · simp; omega
    · simp; omega
theorem val_len_lt {B : Nat} (hB : 2 ≤ B) {l m : List Nat} (hl : ∀ d ∈ l, d < B) (hm : Can B m) (h : l.length < m.length) : val B l < val B m := by
  have h1 := val_lt (B := B) l hl
  have h2 := pow_le_digs hB (can_val_pos hB hm (by intro e; subst e; simp at h))
  rw [digs_val hB hm] at h2
  have h3 : B ^ l.length ≤ B ^ (m.length - 1) := Nat.pow_le_pow_right (by omega) (by omega)
  omega
theorem val_cut {B : Nat} {l : List Nat} {k : Nat} (hk : k < l.length) : val B l = val B (l.take k) + B ^ k * (l.getD k 0 + B * val B (l.drop (k + 1))) := by
  conv => lhs; rw [← List.take_append_drop k l]
  rw [val_append, List.length_take, Nat.min_eq_left (by omega), List.drop_eq_getElem_cons hk, val]
  simp [List.getD, List.getElem?_eq_getElem hk]
/-- Two lists of one length that are equal from k + 1 on: the digit k tells. -/
theorem val_at_lt {B : Nat} {l m : List Nat} {k : Nat} (hl : ∀ d ∈ l, d < B) (hk : k < l.length) (hm : k < m.length) (he : l.drop (k + 1) = m.drop (k + 1)) (h : l.getD k 0 < m.getD k 0) : val B l < val B m := by
  rw [val_cut hk, val_cut hm, he]
  have h1 := take_lt hl k
  rw [Nat.min_eq_left (by omega)] at h1
  have h2 : B ^ k * (l.getD k 0 + B * val B (m.drop (k + 1))) + B ^ k ≤ B ^ k * (m.getD k 0 + B * val B (m.drop (k + 1))) := by
    rw [← Nat.mul_succ]; apply Nat.mul_le_mul_left; omega
  omega
theorem drop_at {l m : List Nat} {k : Nat} (hk : k < l.length) (hm : k < m.length) (he : l.drop (k + 1) = m.drop (k + 1)) (h : l.getD k 0 = m.getD k 0) : l.drop k = m.drop k := by
  rw [List.drop_eq_getElem_cons hk, List.drop_eq_getElem_cons hm, he]
  simp [List.getD, List.getElem?_eq_getElem hk, List.getElem?_eq_getElem hm] at h
  rw [h]

/-- A step of a sum with carry. -/
theorem add_step {B : Nat} {l xs ys : List Nat} {k c : Nat} (hl : l.length = k) (hv : val B l + B ^ k * c = val B (xs.take k) + val B (ys.take k)) (x y : Nat)
    (hx : val B (xs.take (k + 1)) = val B (xs.take k) + B ^ k * x) (hy : val B (ys.take (k + 1)) = val B (ys.take k) + B ^ k * y) :
    val B (l ++ [(c + x + y) % B]) + B ^ (k + 1) * ((c + x + y) / B) = val B (xs.take (k + 1)) + val B (ys.take (k + 1)) := by
  rw [val_snoc, hl, hx, hy]
  have h1 := Nat.mod_add_div (c + x + y) B
  have h2 : B ^ k * ((c + x + y) % B) + B ^ (k + 1) * ((c + x + y) / B) = B ^ k * c + B ^ k * x + B ^ k * y := by
    rw [Nat.pow_succ, Nat.mul_assoc, ← Nat.mul_add, h1, Nat.mul_add, Nat.mul_add]
  omega
theorem take_past {B : Nat} {xs : List Nat} {k : Nat} (hk : xs.length ≤ k) : val B (xs.take (k + 1)) = val B (xs.take k) + B ^ k * 0 := by
  rw [val_take_all hk, val_take_all (by omega)]; simp

/-- What a shift to the left has written: noughts, digits, what is carried, noughts. -/
def sh (q : Nat) (l : List Nat) (c z : Nat) : List Nat := List.replicate q 0 ++ (l ++ (c :: List.replicate z 0))
theorem sh_len (q : Nat) (l : List Nat) (c z : Nat) : (sh q l c z).length = q + l.length + 1 + z := by simp [sh]; omega
theorem sh_at (q : Nat) (l : List Nat) (c z : Nat) : (sh q l c z).getD (q + l.length) 0 = c := by
  simp [sh, List.getD]
theorem sh_set (q : Nat) (l : List Nat) (c z a b : Nat) : ((sh q l c (z + 1)).set (q + l.length) a).set (q + l.length + 1) b = sh q (l ++ [a]) b z := by
  have e1 : (sh q l c (z + 1)).set (q + l.length) a = List.replicate q 0 ++ (l ++ (a :: List.replicate (z + 1) 0)) := by
    rw [sh, List.set_append_right _ _ (by rw [List.length_replicate]; omega), List.length_replicate, Nat.add_sub_cancel_left, List.set_append_right _ _ (Nat.le_refl _), Nat.sub_self, List.set_cons_zero]
  rw [e1, List.set_append_right _ _ (by rw [List.length_replicate]; omega), List.length_replicate, show q + l.length + 1 - q = l.length + 1 by omega, List.set_append_right _ _ (by omega), Nat.add_sub_cancel_left, List.set_cons_succ, List.replicate_succ, List.set_cons_zero, sh]
  simp
theorem sh_val (q : Nat) (l : List Nat) (c z : Nat) : val 65536 (sh q l c z) = 65536 ^ q * (val 65536 l + 65536 ^ l.length * c) := by
  simp only [sh, val_append, val_zeros, List.length_replicate, val]
  simp
theorem sh_lt {q : Nat} {l : List Nat} {c z : Nat} (hl : ∀ d ∈ l, d < 65536) (hc : c < 65536) : ∀ d ∈ sh q l c z, d < 65536 := by
  intro d hd
  simp only [sh, List.mem_append, List.mem_cons, List.mem_replicate] at hd
  rcases hd with ⟨_, rfl⟩ | hd | rfl | ⟨_, rfl⟩
  · omega
  · exact hl d hd
  · exact hc
  · omega
theorem pow_split {s : Nat} (hs : s < 16) : 65536 = 2 ^ s * 2 ^ (16 - s) := by
  rw [← Nat.pow_add, show s + (16 - s) = 16 by omega]
theorem shl_digit {s c x : Nat} (hs : s < 16) (hc : c < 2 ^ s) : c + x * 2 ^ s % 65536 < 65536 := by
  have e := pow_split hs
  have h1 : x * 2 ^ s % 65536 = 2 ^ s * (x % 2 ^ (16 - s)) := by
    conv => lhs; rw [e, Nat.mul_comm x, Nat.mul_mod_mul_left]
  have h2 : x % 2 ^ (16 - s) < 2 ^ (16 - s) := Nat.mod_lt _ (Nat.pow_pos (by omega))
  have h3 := Nat.mul_le_mul_left (2 ^ s) (show x % 2 ^ (16 - s) + 1 ≤ 2 ^ (16 - s) from h2)
  rw [← e, Nat.mul_succ] at h3
  omega
theorem shl_carry {s x : Nat} (hx : x < 65536) : x * 2 ^ s / 65536 < 2 ^ s := by
  rw [Nat.div_lt_iff_lt_mul (by omega), Nat.mul_comm]
  exact Nat.mul_lt_mul_of_pos_left hx (Nat.pow_pos (by omega))
theorem shl_step {l xs : List Nat} {s c k x : Nat} (hl : l.length = k) (hv : val 65536 l + 65536 ^ k * c = 2 ^ s * val 65536 (xs.take k)) (hx : val 65536 (xs.take (k + 1)) = val 65536 (xs.take k) + 65536 ^ k * x) :
    val 65536 (l ++ [c + x * 2 ^ s % 65536]) + 65536 ^ (k + 1) * (x * 2 ^ s / 65536) = 2 ^ s * val 65536 (xs.take (k + 1)) := by
  rw [val_snoc, hl, hx, Nat.mul_add, Nat.mul_add, ← hv]
  have h1 := Nat.mod_add_div (x * 2 ^ s) 65536
  have h2 : 65536 ^ k * (x * 2 ^ s % 65536) + 65536 ^ (k + 1) * (x * 2 ^ s / 65536) = 2 ^ s * (65536 ^ k * x) := by
    rw [Nat.pow_succ, Nat.mul_assoc, ← Nat.mul_add, h1, Nat.mul_comm x, Nat.mul_left_comm]
  omega
theorem shl_done {xs : List Nat} {n : Nat} : 65536 ^ (n / 16) * (2 ^ (n % 16) * val 65536 xs) = val 65536 xs * 2 ^ n := by
  rw [pow16, ← Nat.mul_assoc, ← Nat.pow_add, show 16 * (n / 16) + n % 16 = n by omega, Nat.mul_comm]

theorem shr_pow {q s : Nat} (N k : Nat) : N / 2 ^ (16 * q + s) / 65536 ^ k = N / 65536 ^ (q + k) / 2 ^ s := by
  rw [Nat.div_div_eq_div_mul, Nat.div_div_eq_div_mul, pow16, pow16, ← Nat.pow_add, ← Nat.pow_add]
  congr 2
  omega
theorem shr_low {s : Nat} (hs : s < 16) (a b r : Nat) : (a + 65536 * (b + 65536 * r)) / 2 ^ s % 65536 = (a + 65536 * b) / 2 ^ s % 65536 := by
  have e := pow_split hs
  have h1 : a + 65536 * (b + 65536 * r) = a + 65536 * b + 2 ^ s * (65536 * (2 ^ (16 - s) * r)) := by
    have : 2 ^ s * (65536 * (2 ^ (16 - s) * r)) = 65536 * (65536 * r) := by
      rw [Nat.mul_left_comm, ← Nat.mul_assoc (2 ^ s), ← e]
    rw [this]; omega
  rw [h1, Nat.add_mul_div_left _ _ (Nat.pow_pos (by omega)), Nat.add_mul_mod_self_left]
theorem div_two {xs : List Nat} (h : ∀ d ∈ xs, d < 65536) {i : Nat} (hi : i < xs.length) : val 65536 xs / 65536 ^ i = xs.getD i 0 + 65536 * val 65536 (xs.drop (i + 1)) := by
  have h1 := take_lt h i
  rw [Nat.min_eq_left (by omega)] at h1
  rw [val_cut hi, Nat.add_mul_div_left _ _ (Nat.pow_pos (by omega)), Nat.div_eq_of_lt h1, Nat.zero_add]
theorem val_drop_head {B : Nat} {xs : List Nat} {i : Nat} (hi : i < xs.length) : val B (xs.drop i) = xs.getD i 0 + B * val B (xs.drop (i + 1)) := by
  rw [List.drop_eq_getElem_cons hi, val]
  simp [List.getD, List.getElem?_eq_getElem hi]
/-- The digit k of what is shifted to the right: out of two digits, or out of the last one. -/
theorem shr_digit_two {xs : List Nat} (h : ∀ d ∈ xs, d < 65536) {q s k : Nat} (hs : s < 16) (hi : q + k + 1 < xs.length) :
    val 65536 xs / 2 ^ (16 * q + s) / 65536 ^ k % 65536 = (xs.getD (q + k) 0 + 65536 * xs.getD (q + k + 1) 0) / 2 ^ s % 65536 := by
  rw [shr_pow, div_two h (by omega), val_drop_head hi, shr_low hs]
theorem shr_digit_one {xs : List Nat} (h : ∀ d ∈ xs, d < 65536) {q s k : Nat} (hi : q + k + 1 = xs.length) :
    val 65536 xs / 2 ^ (16 * q + s) / 65536 ^ k % 65536 = xs.getD (q + k) 0 / 2 ^ s % 65536 := by
  rw [shr_pow, div_two h (by omega), hi, List.drop_length]
  simp [val]
theorem shr_step {l : List Nat} {M k d : Nat} (hl : l.length = k) (hv : val 65536 l = M % 65536 ^ k) (hd : M / 65536 ^ k % 65536 = d) : val 65536 (l ++ [d]) = M % 65536 ^ (k + 1) := by
  rw [val_snoc, hl, hv, ← hd, ← split16]
theorem shr_done {xs : List Nat} (h : ∀ d ∈ xs, d < 65536) {q s k : Nat} (hk : xs.length ≤ q + k) : val 65536 xs / 2 ^ (16 * q + s) % 65536 ^ k = val 65536 xs / 2 ^ (16 * q + s) := by
  apply Nat.mod_eq_of_lt
  have h1 := val_lt xs h
  have h2 : 65536 ^ xs.length ≤ 65536 ^ (q + k) := Nat.pow_le_pow_right (by omega) hk
  rw [Nat.div_lt_iff_lt_mul (Nat.pow_pos (by omega)), pow16, ← Nat.pow_add]
  rw [pow16 (q + k)] at h2
  have h3 : 2 ^ (16 * (q + k)) ≤ 2 ^ (16 * k + (16 * q + s)) := Nat.pow_le_pow_right (by omega) (by omega)
  omega

theorem sub_step {B : Nat} {l xs ys : List Nat} {k c c' d : Nat} (hl : l.length = k) (hv : val B l + val B (ys.take k) = val B (xs.take k) + B ^ k * c) (x y : Nat)
    (hx : val B (xs.take (k + 1)) = val B (xs.take k) + B ^ k * x) (hy : val B (ys.take (k + 1)) = val B (ys.take k) + B ^ k * y) (hd : d + y + c = x + B * c') :
    val B (l ++ [d]) + val B (ys.take (k + 1)) = val B (xs.take (k + 1)) + B ^ (k + 1) * c' := by
  rw [val_snoc, hl, hx, hy]
  have h2 : B ^ k * d + B ^ k * y + B ^ k * c = B ^ k * x + B ^ (k + 1) * c' := by
    rw [Nat.pow_succ, Nat.mul_assoc, ← Nat.mul_add, ← Nat.mul_add, ← Nat.mul_add, hd]
  omega
theorem sub_done {B : Nat} {l xs ys : List Nat} {c : Nat} (hlt : ∀ d ∈ l, d < B) (hl : l.length = xs.length) (hv : val B l + val B ys = val B xs + B ^ xs.length * c) (h : val B ys ≤ val B xs) : val B l = val B xs - val B ys := by
  have h1 := val_lt l hlt
  rw [hl] at h1
  rcases Nat.eq_zero_or_pos c with h0 | h0
  · subst h0; simp at hv; omega
  · have : B ^ xs.length * 1 ≤ B ^ xs.length * c := Nat.mul_le_mul_left _ h0
    omega
theorem trim_step {B V : Nat} {xs : List Nat} {k : Nat} (h0 : 0 < k) (hk : k ≤ xs.length) (hd : 0 = xs.getD (k - 1) 0) (hs : val B (xs.take k) = V) : val B (xs.take (k - 1)) = V := by
  have e := val_take_succ (B := B) (l := xs) (k := k - 1) (by omega)
  rw [show k - 1 + 1 = k by omega, hs, ← hd] at e
  simpa using e.symm
theorem val_take_getD {B : Nat} (xs : List Nat) (k : Nat) : val B (xs.take (k + 1)) = val B (xs.take k) + B ^ k * xs.getD k 0 := by
  rcases Nat.lt_or_ge k xs.length with h | h
  · exact val_take_succ h
  · rw [take_past h, List.getD_eq_getElem?_getD, List.getElem?_eq_none h]; rfl
theorem getD_lt {B : Nat} {xs : List Nat} (hB : 0 < B) (h : ∀ d ∈ xs, d < B) (k : Nat) : xs.getD k 0 < B := by
  rw [List.getD_eq_getElem?_getD]
  rcases Nat.lt_or_ge k xs.length with h1 | h1
  · rw [List.getElem?_eq_getElem h1]; exact h _ (List.getElem_mem _)
  · rw [List.getElem?_eq_none h1]; exact hB
theorem getD_past {xs : List Nat} {k : Nat} (h : xs.length ≤ k) : xs.getD k 0 = 0 := by
  rw [List.getD_eq_getElem?_getD, List.getElem?_eq_none h]; rfl
theorem last_pos {B : Nat} {l : List Nat} (h : Can B l) (hl : 0 < l.length) : 0 < l.getD (l.length - 1) 0 := by
  have := h.2
  rw [List.getLast?_eq_getElem?] at this
  rcases Nat.eq_zero_or_pos (l.getD (l.length - 1) 0) with h0 | h0
  · exfalso; apply this
    rw [List.getD_eq_getElem?_getD, List.getElem?_eq_getElem (show l.length - 1 < l.length by omega)] at h0
    rw [List.getElem?_eq_getElem (show l.length - 1 < l.length by omega)]
    simpa using h0
  · exact h0
theorem bl_canW {l : List Nat} (h : Can W64 l) (hl : 0 < l.length) : bl (val W64 l) = 64 * (l.length - 1) + bl (l.getD (l.length - 1) 0) := by
  have hd := last_pos h hl
  have e : W64 = 2 ^ 64 := rfl
  rw [val_split hl, e, ← Nat.pow_mul]
  refine bl_top hd ?_
  have := take_lt h.1 (l.length - 1)
  rwa [Nat.min_eq_left (by omega), e, ← Nat.pow_mul] at this
theorem bl_or {x y : Nat} (hy : y ≤ x) : bl (x ||| y) = bl x := by
  rcases Nat.eq_zero_or_pos x with h0 | h0
  · subst h0
    have : y = 0 := by omega
    subst this
    rfl
  · have h1 := bl_low h0
    have h2 := lt_bl x
    have h3 : x ||| y < 2 ^ bl x := Nat.or_lt_two_pow h2 (by omega)
    have h4 : x ≤ x ||| y := Nat.left_le_or
    have h5 : 0 < bl x := bl_pos_iff.2 h0
    have e : bl x = (bl x - 1) + 1 := by omega
    rw [e]
    exact bl_eq (by omega) (by rw [← e]; exact h3)
end Go.Proofs.YtgooioafmddneabGreatDoor.Dg
