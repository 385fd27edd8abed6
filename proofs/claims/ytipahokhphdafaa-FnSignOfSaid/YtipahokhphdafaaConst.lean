/- What the package tells of a constant of Kind Int: its sign, how many bits it has, and it as an int64 or a uint64, by contract. -/
import Derived.Test.YtipahokhphdafaaBigA
import Derived.Test.YtipahokhphdafaaBits
namespace Go.Proofs.Ytipahokhphdafaa
open Go.RowKit

def sgnI (z : Int) : Int := if z < 0 then -1 else if z = 0 then 0 else 1
theorem big_pos {neg : Bool} {n : Nat} (h : fits64 neg n = false) : 9223372036854775808 ≤ n := by
  simp only [fits64, Bool.or_eq_false_iff, decide_eq_false_iff_not] at h
  omega
theorem big_len {n : Nat} (h : 0 < n) : 0 < (Dg.digs W64 n).length := Dg.digs_len_pos W64_two h
set_option maxHeartbeats 800000 in
theorem bigSign_any (w : World) (g o : Nat) (neg : Bool) (n : Nat) (h : BigAt w g o neg n) (hn : neg = true → 0 < n) :
    Calls Try.prog 50 #[.pointer (some ⟨g, o, none⟩)] w (fun e w' => e = .returned (.int .i64 (sgnI (sgn neg n))) ∧ w = w') := by
  obtain ⟨h1, s, h2, h3⟩ := h
  obtain ⟨A, c, rfl, hlc, hcm, _⟩ := h3.any
  rw [cU_len] at h2 hlc
  clear h3
  rcases Nat.eq_zero_or_pos n with h0 | h0
  · have hng : neg = false := by
      cases neg
      · rfl
      · exact absurd (hn rfl) (by omega)
    subst hng h0
    rw [Dg.digs_zero] at h2 hlc
    clear hn
    go_enter Try.func50, Try.ntmps50
    go_wp2
    go_ret
    exact ⟨rfl, rfl⟩
  · have hl := big_len h0
    generalize (Dg.digs W64 n).length = k at *
    cases neg
    · have hs : sgnI (sgn false n) = 1 := by simp [sgnI, sgn]; omega
      rw [hs]
      clear hs hn h0
      go_enter Try.func50, Try.ntmps50
      go_wp2
      go_ret
      exact ⟨rfl, rfl⟩
    · have hs : sgnI (sgn true n) = -1 := by simp [sgnI, sgn]; omega
      rw [hs]
      clear hs hn h0
      go_enter Try.func50, Try.ntmps50
      go_wp2
      go_ret
      exact ⟨rfl, rfl⟩
set_option maxHeartbeats 1600000 in
theorem sign_any (w : World) (v : Value) (z : Int) (h : ConstInt w v z) :
    Calls Try.prog 36 #[v] w (fun e w' => e = .returned (.int .i64 (sgnI z)) ∧ Below w.heap.size w w') := by
  rcases h with ⟨rfl, h1, h2⟩ | ⟨g, o, neg, m, rfl, hbig, hf, rfl⟩
  · rcases Int.lt_trichotomy z 0 with h0 | h0 | h0
    · have hs : sgnI z = -1 := by simp [sgnI, h0]
      rw [hs]
      clear hs
      go_enter Try.func36, Try.ntmps36
      go_wp2
      go_ret
      exact ⟨rfl, Below.refl _ _⟩
    · subst h0
      go_enter Try.func36, Try.ntmps36
      go_wp2
      go_ret
      exact ⟨rfl, Below.refl _ _⟩
    · have hs : sgnI z = 1 := by simp [sgnI]; omega
      rw [hs]
      clear hs
      go_enter Try.func36, Try.ntmps36
      go_wp2
      go_ret
      exact ⟨rfl, Below.refl _ _⟩
  · have C := hide (bigSign_any (w.alloc (.cells #[.pointer (some ⟨g, o, none⟩)] 73)) g o neg m (hbig.below (below1 _ _)) (fun _ => by have := big_pos hf; omega))
    generalize sgnI (sgn neg m) = z at *
    clear hbig hf
    go_enter Try.func36, Try.ntmps36
    go_wp2_with (go_at_call 50; refine C.out.mono ?_; rintro e w' ⟨rfl, rfl⟩)
    go_ret
    exact ⟨rfl, below1 _ _⟩
end Go.Proofs.Ytipahokhphdafaa
