/- The reference's division: byDigit, Bit, DivMod, Gcd (that it ends). -/
import Derived.Test.YtgooioafmddneabGreatDoorSpecG
import Derived.Test.YtgooioafmddneabGreatDoorSpecD
import Derived.Test.YtgooioafmddneabGreatDoorMathD
import Derived.Deep.LoopGhost
namespace Go.Proofs.YtgooioafmddneabGreatDoor
open Go.RowKit
theorem digs_lt16 (n : Nat) : ∀ d ∈ Dg.digs 65536 n, d < 65536 := Dg.digs_lt (by omega) n
def ByIn (xs : List Nat) (d n g : Nat) (w : World) (r i : Value) (wr : World) : Prop :=
  ∃ (k r0 : Nat) (l : List Nat), i = .int .i64 ((k : Int) - 1) ∧ r = .int .i64 (r0 : Int) ∧ k ≤ n ∧ r0 < d ∧ Hid (l.length = n) ∧ Hid (∀ x ∈ l, x < 65536) ∧ Hid (Dg.val 65536 (l.drop k) * d + r0 = Dg.val 65536 (xs.drop k)) ∧
    wr.ownsRow w.heap.size 3 1 (.slice (some ⟨g, 0, none⟩) n n) n (cI l) ∧ Below w.heap.size w wr
set_option maxRecDepth 100000 in
set_option maxHeartbeats 1600000 in
theorem byDigit_any (xs : List Nat) (hx : ∀ x ∈ xs, x < 65536) (hlx : xs.length ≤ 1000000) (d : Nat) (h0 : 0 < d) (hd : d < 65536) (w : World) (v : Value) (hv : Rd w v (cI xs)) :
    Calls Tryz.prog 49 #[v, .int .i64 (d : Int)] w (fun e w' => ∃ u, e = .returned (.tuple #[u, .int .i64 ((Dg.val 65536 xs % d : Nat) : Int)]) ∧ Rd w' u (cI (Dg.digs 65536 (Dg.val 65536 xs / d))) ∧ Below w.heap.size w w') := by
  obtain ⟨A, c, rfl, hlc, hcm, hcx⟩ := hv.any
  rw [cI_len] at hlc hcx ⊢
  obtain ⟨i0, hi, hz0, hz1, hz2⟩ := info_parts infoI
  obtain ⟨n, hn⟩ : ∃ n, n = xs.length := ⟨_, rfl⟩
  rw [← hn] at hlc hcx hlx ⊢
  have Hn := hide hn
  have Hcx := hide hcx
  have Hx := hide hx
  obtain ⟨V, hV⟩ : ∃ V, V = Dg.val 65536 xs := ⟨_, rfl⟩
  rw [← hV]
  have HV := hide hV
  clear hn hcx hx hv hV
  go_enter Tryz.func49, Tryz.ntmps49
  go_wp2_with (at_make; refine wpList_make_full _ rfl _ _ 29 rfl w.heap.size 3 i0 (.int .i64 0) 1 Tryz.underlying29 hi hz0 hz1 .i64 .i64 _ _ n rfl rfl ?b1 ?b2 ?b3 ?b4 (Nat.le_refl _) ?_)
  case b1 => omega
  case b2 => omega
  case b3 => rw [hz2]; omega
  case b4 => simp only [maxLen]; omega
  intro w1 hown1 hg1
  have hbel1 : Below w.heap.size w w1 := below_of_grown hg1 (Nat.le_refl _) (by simp)
  rw [toList_madeCells_one] at hown1
  obtain ⟨g, hg⟩ : ∃ g, g = w.heap.size := ⟨_, rfl⟩
  have hgw := hide hg
  have Hown1 : Hid (w1.ownsRow w.heap.size 3 1 (.slice (some ⟨g, 0, none⟩) n n) n (cI (List.replicate n 0))) := by
    have e : cI (List.replicate n 0) = List.replicate n (Value.int .i64 0) := by simp [cI]
    rw [e, hg]
    exact hown1
  clear hown1 hz0 hz1 hz2 hi hg1
  rw [← hg]
  clear hg
  go_wp2_with fail
  go_loopw [7, 8] (ByIn xs d n g w) (fun _ i _ => idxOf i)
  case atStart => exact ⟨n, 0, List.replicate n 0, rfl, rfl, by omega, h0, by simp [Hid], by intro x hx; rw [List.eq_of_mem_replicate hx]; omega, by simp only [Hid]; rw [List.drop_of_length_le (by simp), List.drop_of_length_le (by rw [← Hn.out]; omega)]; simp [Dg.val], Hown1.out, hbel1⟩
  case round =>
    obtain ⟨k, r0, l, rfl, rfl, hk, hr0, hl, hall, hval, hown, hbel⟩ := hrel
    rcases Nat.eq_zero_or_pos k with hk0 | hk0
    · subst hk0
      have HF : Hid (Dg.val 65536 l = V / d ∧ r0 = V % d) := by
        have e := hval.out
        rw [List.drop_zero, List.drop_zero, ← HV.out] at e
        exact Dg.div_end e (by simpa using hr0)
      have hv2 := Rd.of_own hown
      clear hown hval
      go_wp2_with fail
      refine (trim_any l hall.out _ _ hv2).mono ?_
      rintro e w' ⟨⟨v', rfl, hrd, _⟩, rfl⟩
      go_wp2
      go_ret2
      refine ⟨v', ?_, ?_, hbel⟩
      · rw [HF.out.2]; rfl
      · rw [← HF.out.1]; exact hrd
    · obtain ⟨b, o, rfl, hb, hcl⟩ := Hcx.out (by omega)
      have hck := (hbel.cell (p := ⟨b, o + (k - 1), none⟩) hb).trans (hcl (k - 1) _ (cI_at (l := xs) (j := k - 1) (by rw [← Hn.out]; omega)))
      have hxl := Dg.getD_lt (by omega) Hx.out (k - 1)
      have Hstep := hide (Dg.byd_step (l := l) (xs := xs) (k := k - 1) (d := d) (r := r0) (x := xs.getD (k - 1) 0) (by rw [hl.out]; omega) (by rw [hl.out, ← Hn.out]) rfl (by rw [show k - 1 + 1 = k by omega]; exact hval.out))
      generalize xs.getD (k - 1) 0 = x at *
      have Hdig := hide (Dg.byd_digit hr0 hxl)
      have hmod := Nat.mod_lt (r0 * 65536 + x) h0
      have hcq := (hown.cellAt (k - 1) (by omega)).trans (cI_at (l := l) (j := k - 1) (by rw [hl.out]; omega))
      have hfq := hown.frozenAt (k - 1)
      have hrb : r0 * 65536 + x < 4294967296 := by omega
      have ey : ((r0 : Int) * 65536 + (x : Int)) = ((r0 * 65536 + x : Nat) : Int) := by omega
      have Hq : Hid (((r0 : Int) * 65536 + (x : Int)) / (d : Int) = (((r0 * 65536 + x) / d : Nat) : Int) ∧ ((r0 : Int) * 65536 + (x : Int)) % (d : Int) = (((r0 * 65536 + x) % d : Nat) : Int)) := by
        rw [ey]; exact ⟨(Int.natCast_ediv _ _).symm, (Int.natCast_emod _ _).symm⟩
      have Hown := hide hown
      clear hown hcl ey
      go_wp2
      go_roundw
      case rel =>
        rw [Hq.out.1, Hq.out.2]
        have S := Hown.out.stored (k - 1) (.int .i64 (((r0 * 65536 + x) / d : Nat) : Int))
        rw [show (cI l).set (k - 1) (Value.int .i64 (((r0 * 65536 + x) / d : Nat) : Int)) = cI (l.set (k - 1) ((r0 * 65536 + x) / d)) by simp [cI, List.map_set]] at S
        refine ⟨k - 1, (r0 * 65536 + x) % d, l.set (k - 1) ((r0 * 65536 + x) / d), by go_num, rfl, by omega, hmod, by have := hl.out; simp [Hid]; omega, ?_, Hstep.out, S.1, hbel.trans (below_of_grown S.2 hbel.size (own_le hgw.out))⟩
        intro y hy
        rcases List.mem_or_eq_of_mem_set hy with hy | hy
        · exact hall.out y hy
        · rw [hy]; exact Hdig.out
      case measure => simp [idxOf]; omega
/-- 'Bit': a power of 2. -/
theorem digs_pow2 (i : Nat) : Dg.digs 65536 (2 ^ i) = List.replicate (i / 16) 0 ++ [2 ^ (i % 16)] := by
  have hv : Dg.val 65536 (List.replicate (i / 16) 0 ++ [2 ^ (i % 16)]) = 2 ^ i := by
    rw [Dg.val_append, Dg.val_zeros, List.length_replicate, Nat.zero_add]
    simp only [Dg.val, Nat.mul_zero, Nat.add_zero]
    rw [Dg.pow16, ← Nat.pow_add]
    congr 1; omega
  have hp : 0 < 2 ^ (i % 16) := Nat.pow_pos (by omega)
  have hlt : 2 ^ (i % 16) < 65536 := Nat.lt_of_lt_of_le (Nat.pow_lt_pow_right (by omega) (Nat.mod_lt i (by omega))) (by decide)
  rw [← hv]
  refine Dg.digs_val (by omega) ⟨fun x hx => ?_, ?_⟩
  · rcases List.mem_append.1 hx with hx | hx
    · rw [List.eq_of_mem_replicate hx]; omega
    · rw [List.mem_singleton.1 hx]; exact hlt
  · rw [List.getLast?_append]
    simp
theorem bit_set (q a : Nat) : ((cI (List.replicate (q + 1) 0)).set q (.int .i64 (a : Int))) = cI (List.replicate q 0 ++ [a]) := by
  rw [List.replicate_succ', cI, cI, List.map_append, List.map_append, List.set_append_right _ _ (by simp)]
  simp
set_option maxHeartbeats 800000 in
theorem bit_any (i : Nat) (hi : i ≤ 1000000) (w : World) : Calls Tryz.prog 54 #[.int .i64 (i : Int)] w (GotNat (2 ^ i) w) := by
  obtain ⟨i0, hi0, hz0, hz1, hz2⟩ := info_parts infoI
  obtain ⟨q, hq⟩ : ∃ q, q = i / 16 := ⟨_, rfl⟩
  have hq1 : (i : Int) / 16 = (q : Int) := by omega
  have hql : q ≤ 1000000 := by omega
  have HD := hide (digs_pow2 i)
  have hp : 2 ^ (i % 16) ≤ 32768 := Nat.le_trans (Nat.pow_le_pow_right (by omega) (by omega : i % 16 ≤ 15)) (by decide)
  have Hw : Hid (wrap64 (2 ^ (i % 16)) = ((2 ^ (i % 16) : Nat) : Int)) := by
    have e : ((2 : Int) ^ (i % 16)) = ((2 ^ (i % 16) : Nat) : Int) := by rw [Int.natCast_pow]; rfl
    simp only [Hid]; rw [e]; generalize 2 ^ (i % 16) = P at *; unfold wrap64; omega
  rw [← hq] at HD
  clear hq hp
  go_enter Tryz.func54, Tryz.ntmps54
  go_wp2_with (at_make; refine wpList_make_full _ rfl _ _ 29 rfl w.heap.size 3 i0 (.int .i64 0) 1 Tryz.underlying29 hi0 hz0 hz1 .i64 .i64 _ _ (q + 1) rfl rfl ?b1 ?b2 ?b3 ?b4 (Nat.le_refl _) ?_)
  case b1 => omega
  case b2 => omega
  case b3 => rw [hz2]; omega
  case b4 => simp only [maxLen]; omega
  intro w1 hown1 hg1
  have hbel1 : Below w.heap.size w w1 := below_of_grown hg1 (Nat.le_refl _) (by simp)
  rw [toList_madeCells_one, show List.replicate (q + 1) (Value.int .i64 0) = cI (List.replicate (q + 1) 0) by simp [cI]] at hown1
  have hcq := (hown1.cellAt q (by omega)).trans (cI_at (l := List.replicate (q + 1) 0) (j := q) (by simp))
  have hfq := hown1.frozenAt q
  have Hown := hide hown1
  have HB1 := hide hbel1
  clear hown1 hbel1 hg1 hz0 hz1 hz2 hi0
  go_wp2
  go_ret
  have S := Hown.out.stored q (.int .i64 ((2 ^ (i % 16) : Nat) : Int))
  rw [bit_set] at S
  refine ⟨_, rfl, ?_, ?_⟩
  · rw [HD.out]
    have := Rd.of_own S.1
    rw [← Hw.out] at this
    exact this
  · have := HB1.out.trans (below_of_grown S.2 HB1.out.size (own_le rfl))
    rw [← Hw.out] at this
    exact this
end Go.Proofs.YtgooioafmddneabGreatDoor
