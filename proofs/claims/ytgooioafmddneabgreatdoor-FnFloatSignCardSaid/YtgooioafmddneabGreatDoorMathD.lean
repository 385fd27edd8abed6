/- Plain arithmetic of division: by a digit, by doubling; the sign of a shifted number. No program is named here. -/
import Derived.Test.YtgooioafmddneabGreatDoorMath
namespace Go.Proofs.YtgooioafmddneabGreatDoor
namespace Dg
/-! ### The long division by doubling -/
theorem div_start {m n : Nat} (hn : 0 < n) {z : Int} (hz : z = (bl m : Int) - (bl n : Int)) : m < n * 2 ^ (z + 1).toNat := by
  have h1 := lt_bl m
  have h2 := bl_low hn
  have h3 : 0 < bl n := bl_pos_iff.2 hn
  have h4 : 2 ^ bl m ≤ 2 ^ (bl n - 1) * 2 ^ (z + 1).toNat := by
    rw [← Nat.pow_add]; exact Nat.pow_le_pow_right (by omega) (by omega)
  have h5 : 2 ^ (bl n - 1) * 2 ^ (z + 1).toNat ≤ n * 2 ^ (z + 1).toNat := Nat.mul_le_mul_right _ h2
  omega
theorem div_yes {m0 n a q k : Nat} (hq : q * n + a = m0) (ha : a < n * 2 ^ (k + 1)) (hd : n * 2 ^ k ≤ a) : (q + 2 ^ k) * n + (a - n * 2 ^ k) = m0 ∧ a - n * 2 ^ k < n * 2 ^ k := by
  have e : n * 2 ^ (k + 1) = n * 2 ^ k + n * 2 ^ k := by rw [Nat.pow_succ, ← Nat.mul_assoc]; omega
  have e2 : (q + 2 ^ k) * n = q * n + n * 2 ^ k := by rw [Nat.add_mul, Nat.mul_comm (2 ^ k)]
  omega
theorem div_end {m0 n a q : Nat} (hq : q * n + a = m0) (ha : a < n * 2 ^ 0) : q = m0 / n ∧ a = m0 % n := by
  have hn : a < n := by simpa using ha
  have e : m0 = a + n * q := by rw [← hq, Nat.mul_comm]; omega
  rw [e]
  exact ⟨by rw [Nat.add_mul_div_left _ _ (by omega), Nat.div_eq_of_lt hn, Nat.zero_add], by rw [Nat.add_mul_mod_self_left, Nat.mod_eq_of_lt hn]⟩
theorem div_le {m0 n a q : Nat} (hn : 0 < n) (hq : q * n + a = m0) : q ≤ m0 ∧ a ≤ m0 := by
  have : q * 1 ≤ q * n := Nat.mul_le_mul_left _ hn
  omega
/-! ### The division by a digit -/
theorem byd_step {l xs : List Nat} {k d r x : Nat} (hk : k < l.length) (hl : l.length = xs.length) (hx : x = xs.getD k 0)
    (h : val 65536 (l.drop (k + 1)) * d + r = val 65536 (xs.drop (k + 1))) :
    val 65536 ((l.set k ((r * 65536 + x) / d)).drop k) * d + (r * 65536 + x) % d = val 65536 (xs.drop k) := by
  have e1 : (l.set k ((r * 65536 + x) / d)).drop k = ((r * 65536 + x) / d) :: l.drop (k + 1) := by
    rw [List.drop_eq_getElem_cons (by simpa using hk)]
    simp [List.drop_set]
  rw [e1, val, val_drop_head (xs := xs) (i := k) (by omega), ← hx, ← h]
  have e2 : (r * 65536 + x) / d * d + (r * 65536 + x) % d = r * 65536 + x := by rw [Nat.mul_comm]; exact Nat.div_add_mod _ _
  rw [Nat.add_mul, Nat.mul_assoc]
  generalize val 65536 (l.drop (k + 1)) * d = u at *
  omega
theorem byd_digit {d r x : Nat} (hr : r < d) (hx : x < 65536) : (r * 65536 + x) / d < 65536 := by
  rw [Nat.div_lt_iff_lt_mul (by omega)]
  have : (r + 1) * 65536 ≤ d * 65536 := Nat.mul_le_mul_right _ hr
  rw [Nat.mul_comm 65536 d]
  omega
/-! ### Shifted numbers and their sign -/
theorem shr_neg {m k : Nat} (hm : 0 < m) : -(((m - 1) / 2 ^ k + 1 : Nat) : Int) = (-(m : Int)) / 2 ^ k := by
  have hp : 0 < 2 ^ k := Nat.pow_pos (by omega)
  have e : ((2 : Int) ^ k) = ((2 ^ k : Nat) : Int) := by rw [Int.natCast_pow]; rfl
  rw [e]
  generalize 2 ^ k = P at *
  have h1 := Nat.div_add_mod (m - 1) P
  have h2 := Nat.mod_lt (m - 1) hp
  generalize hQ : (m - 1) / P = Q at *
  generalize (m - 1) % P = R at *
  have h3 : (P : Int) * ((Q + 1 : Nat) : Int) = ((P * Q : Nat) : Int) + P := by
    rw [Int.natCast_add, Int.mul_add, Int.natCast_mul]; simp
  refine (((Int.ediv_emod_unique (a := -(m : Int)) (b := (P : Int)) (r := (P : Int) - 1 - R) (q := -((Q + 1 : Nat) : Int)) (by omega)).2 ⟨?_, by omega, by omega⟩).1).symm
  rw [Int.mul_neg, h3]
  omega
theorem shr_pos {m k : Nat} : (((m / 2 ^ k : Nat)) : Int) = (m : Int) / 2 ^ k := by
  have e : ((2 : Int) ^ k) = ((2 ^ k : Nat) : Int) := by rw [Int.natCast_pow]; rfl
  rw [e]; rfl
end Dg
end Go.Proofs.YtgooioafmddneabGreatDoor
