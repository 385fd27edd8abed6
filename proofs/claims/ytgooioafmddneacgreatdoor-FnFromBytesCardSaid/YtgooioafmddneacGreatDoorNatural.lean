/- The law's own reading of bytes as a natural number, by contract. -/
import Derived.Test.YtgooioafmddneacGreatDoorSpecD
import Derived.Test.YtgooioafmddneacGreatDoorOfBytes
namespace Go.Proofs.YtgooioafmddneacGreatDoor
open Go.RowKit

def NatIn (bs : List Nat) (n : Nat) (w : World) (v i : Value) (wr : World) : Prop :=
  ∃ k : Nat, i = .int .i64 (k : Int) ∧ k ≤ n ∧ Rd wr v (cI (Dg.digs 65536 (Dg.val 256 (bs.take k)))) ∧ Below w.heap.size w wr
theorem val256_lt {bs : List Nat} (h : ∀ d ∈ bs, d < 256) (k : Nat) : Dg.val 256 (bs.take k) < 65536 ^ k := by
  have h1 := Dg.take_lt h k
  have h2 : 256 ^ min k bs.length ≤ 256 ^ k := Nat.pow_le_pow_right (by omega) (by omega)
  have h3 : 256 ^ k ≤ 65536 ^ k := Nat.pow_le_pow_left (by omega) k
  omega
theorem term_lt {d k : Nat} (hd : d < 256) : d * 2 ^ (8 * k) < 65536 ^ (k + 1) := by
  have h1 : d * 2 ^ (8 * k) < 256 * 2 ^ (8 * k) := Nat.mul_lt_mul_of_pos_right hd (Nat.pow_pos (by omega))
  have h2 : 256 * 2 ^ (8 * k) = 256 ^ (k + 1) := by rw [Nat.pow_succ, pow256, Nat.mul_comm]
  have h3 : 256 ^ (k + 1) ≤ 65536 ^ (k + 1) := Nat.pow_le_pow_left (by omega) _
  omega
theorem natural_step {bs : List Nat} {k d : Nat} (h : d = bs.getD k 0) : Dg.val 256 (bs.take k) + d * 2 ^ (8 * k) = Dg.val 256 (bs.take (k + 1)) := by
  rw [Dg.val_take_getD, ← h, pow256, Nat.mul_comm d]
set_option maxRecDepth 100000 in
set_option maxHeartbeats 1600000 in
theorem natural_any (bs : List Nat) (hlen : bs.length ≤ 300) (w : World) (A : Option Addr) (n c : Nat) (hr : Raw w A n c bs) :
    Calls Tryz.prog 7 #[.slice A n c] w (GotNat (Dg.val 256 bs) w) := by
  have Hl := hide hr.1
  have Hlt := hide hr.2.2.2.1
  have hn : n ≤ 300 := by rw [← hr.1]; exact hlen
  obtain ⟨A', c', hv, hlc, hcm, hcell⟩ := hr.rd.any
  rw [cB_len, hr.1] at hv hcell
  have hA : A' = A := by injection hv with e; exact e.symm
  subst hA
  have Hc := hide hcell
  clear hr hlen hv hlc hcm hcell
  go_enter Tryz.func7, Tryz.ntmps7
  go_wp2
  go_loopw [3, 9] (NatIn bs n w) (fun _ i _ => n - (intOf i).toNat)
  case atStart => exact ⟨0, rfl, Nat.zero_le _, by simp [Dg.val, Dg.digs_zero]; exact Rd.of_own made0, below1 _ _⟩
  case round =>
    obtain ⟨k, rfl, hk, hrd, hbel⟩ := hrel
    by_cases hlt : k < n
    · obtain ⟨b, o, rfl, hb, hcl⟩ := Hc.out (by omega)
      have hck := (hbel.cell (p := ⟨b, o + k, none⟩) hb).trans (hcl k _ (cB_at (l := bs) (j := k) (by rw [Hl.out]; omega)))
      have hdl := Dg.getD_lt (by omega) Hlt.out k
      obtain ⟨d, hd⟩ : ∃ d, d = bs.getD k 0 := ⟨_, rfl⟩
      rw [← hd] at hck hdl
      have Hstep := hide (natural_step hd)
      have Hl1 := hide (Dg.digs_len_le (B := 65536) (by omega) (val256_lt Hlt.out k))
      have Hl2 := hide (Dg.digs_len_le (B := 65536) (by omega) (term_lt (k := k) hdl))
      have Hl3 := hide (Dg.digs_len_le (B := 65536) (n := d) (k := 1) (by omega) (by omega))
      have Hrd := hide hrd
      clear hd hcl hrd
      go_wp2_with fail
      refine (small_any d (by omega) _).mono ?_
      rintro e w1 ⟨v1, rfl, hv1, hb1⟩
      go_wp2_with fail
      have C1 := shl_any (Dg.digs 65536 d) (Dg.can_digs (by omega) d) (by have := Hl3.out; omega) (8 * k) (by omega) w1 v1 hv1
      rw [Dg.val_digs (by omega)] at C1
      rw [show ((8 * k : Nat) : Int) = 8 * (k : Int) from by omega] at C1
      refine C1.mono ?_
      rintro e w2 ⟨v2, rfl, hv2, hb2⟩
      have HB : Below wr.heap.size wr w2 := hb1.trans (hb2.mono hb1.size)
      have C2 := add_any (Dg.digs 65536 (Dg.val 256 (bs.take k))) (Dg.digs 65536 (d * 2 ^ (8 * k))) (Dg.digs_lt (by omega) _) (Dg.digs_lt (by omega) _) (by have := Hl1.out; omega) (by have := Hl2.out; omega) w2 u3 v2 (Hrd.out.below HB) hv2
      rw [Dg.val_digs (by omega), Dg.val_digs (by omega), Hstep.out] at C2
      clear C1
      go_wp2_with fail
      refine C2.mono ?_
      rintro e w3 ⟨v3, rfl, hv3, hb3⟩
      clear C2
      go_wp2
      go_roundw
      case rel => exact ⟨k + 1, by go_num, by omega, hv3, hbel.trans ((HB.mono hbel.size).trans (hb3.mono (by have := HB.size; have := hbel.size; omega)))⟩
      case measure => simp [intOf]; omega
    · have hkn : k = n := by omega
      subst hkn
      rw [Dg.val_take_all (by rw [Hl.out]; omega)] at hrd
      go_wp2
      go_ret
      exact ⟨_, rfl, hrd, hbel⟩
theorem words_len_k {bs : List Nat} (h : ∀ d ∈ bs, d < 256) {k : Nat} (hl : bs.length ≤ k) : (Dg.digs W64 (Dg.val 256 bs)).length ≤ k := by
  have h1 := val256_lt h k
  rw [Dg.val_take_all hl] at h1
  have h2 : 65536 ^ k ≤ W64 ^ k := Nat.pow_le_pow_left (by simp [W64, Dg.W64]) _
  exact Dg.digs_len_le W64_two (Nat.lt_of_lt_of_le h1 h2)
theorem words_len {bs : List Nat} (h : ∀ d ∈ bs, d < 256) (hl : bs.length ≤ 300) : (Dg.digs W64 (Dg.val 256 bs)).length ≤ 1000000 := by
  have := words_len_k h hl
  omega
end Go.Proofs.YtgooioafmddneacGreatDoor
