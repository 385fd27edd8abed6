/- The reference's DivMod; that Gcd ends. -/
import Derived.Test.YtgooioafmddneabGreatDoorDiv
namespace Go.Proofs.YtgooioafmddneabGreatDoor
open Go.RowKit
theorem shl_len_g {n k L K : Nat} (hn : (Dg.digs 65536 n).length ≤ L) (hk : k ≤ 16 * K) : (Dg.digs 65536 (n * 2 ^ k)).length ≤ L + K := by
  have h1 : n < 65536 ^ L := Nat.lt_of_lt_of_le (Dg.lt_pow_digs (by omega) n) (Nat.pow_le_pow_right (by omega) hn)
  have h2 : 2 ^ k ≤ 65536 ^ K := by rw [Dg.pow16]; exact Nat.pow_le_pow_right (by omega) hk
  refine Dg.digs_len_le (B := 65536) (by omega) ?_
  rw [Nat.pow_add]
  exact Nat.lt_of_le_of_lt (Nat.mul_le_mul_left _ h2) (Nat.mul_lt_mul_of_pos_right h1 (Nat.pow_pos (by omega)))
theorem shl_len_le {n k : Nat} (hn : (Dg.digs 65536 n).length ≤ 1000) (hk : k ≤ 20000) : (Dg.digs 65536 (n * 2 ^ k)).length ≤ 1000000 := by
  have := shl_len_g (K := 1250) hn (by omega : k ≤ 16 * 1250)
  omega
theorem bl_len_g {m L : Nat} (h : (Dg.digs 65536 m).length ≤ L) : Dg.bl m ≤ 16 * L := by
  refine Dg.bl_le (Nat.lt_of_lt_of_le (Dg.lt_pow_digs (B := 65536) (by omega) m) ?_)
  rw [Dg.pow16]
  exact Nat.pow_le_pow_right (by omega) (by omega)
theorem bl_len {m : Nat} (h : (Dg.digs 65536 m).length ≤ 1000) : Dg.bl m ≤ 16000 := by
  have := bl_len_g h
  omega
theorem cmp_le {a b : Nat} (h : a ≤ b) : Dg.cmp a b ≤ 0 := by
  unfold Dg.cmp
  split
  · omega
  · split
    · omega
    · omega
theorem cmp_pos {a b : Nat} (h : ¬ a ≤ b) : 0 < Dg.cmp a b := by
  rw [Dg.cmp_gt (by omega)]; omega
def DmIn (m n : Nat) (w : World) (a q i : Value) (wr : World) : Prop :=
  ∃ (a0 q0 : Nat) (z : Int), i = .int .i64 z ∧ -20000 ≤ z ∧ z ≤ 20000 ∧ Hid (Rd wr a (cI (Dg.digs 65536 a0))) ∧ Hid (Rd wr q (cI (Dg.digs 65536 q0))) ∧ Hid (q0 * n + a0 = m ∧ a0 < n * 2 ^ (z + 1).toNat) ∧ Below w.heap.size w wr
set_option maxRecDepth 100000 in
set_option maxHeartbeats 3200000 in
theorem divMod_any (m n : Nat) (hn : 0 < n) (hml : (Dg.digs 65536 m).length ≤ 1000) (hnl : (Dg.digs 65536 n).length ≤ 1000) (w : World) (u v : Value) (hu : Rd w u (cI (Dg.digs 65536 m))) (hv : Rd w v (cI (Dg.digs 65536 n))) :
    Calls Tryz.prog 36 #[u, v] w (fun e w' => ∃ q r, e = .returned (.tuple #[q, r]) ∧ Rd w' q (cI (Dg.digs 65536 (m / n))) ∧ Rd w' r (cI (Dg.digs 65536 (m % n))) ∧ Below w.heap.size w w') := by
  by_cases h1 : (Dg.digs 65536 n).length = 1
  · obtain ⟨d, hd⟩ : ∃ d, Dg.digs 65536 n = [d] := List.length_eq_one_iff.1 h1
    have hdn : d = n := by have := Dg.val_digs (B := 65536) (by omega) n; rw [hd] at this; simpa [Dg.val] using this
    have hd2 : d < 65536 := Dg.digs_lt (B := 65536) (by omega) n d (by rw [hd]; simp)
    subst hdn
    obtain ⟨b, o, c, rfl, hlc, hcm, hb, hcl⟩ := hv.pos (by rw [cI_len, h1]; omega)
    rw [cI_len, h1] at hlc ⊢
    have hck := hcl 0 _ (cI_at (l := Dg.digs 65536 d) (j := 0) (by omega))
    rw [hd, Nat.add_zero] at hck
    simp only [List.getD_cons_zero] at hck
    have C1 := hide (byDigit_any (Dg.digs 65536 m) (Dg.digs_lt (by omega) _) (by omega) d hn hd2 w u hu)
    rw [Dg.val_digs (by omega)] at C1
    have hr : m % d ≤ 9223372036854775807 := by have := Nat.mod_lt m hn; omega
    have C2 := hide (small_any (m % d) hr)
    obtain ⟨A0, n0, c0, rfl⟩ := hu.shape
    clear hcl hu hv hd h1 hml hnl
    go_enter Tryz.func36, Tryz.ntmps36
    go_wp2_with fail
    refine C1.out.mono ?_
    rintro e w1 ⟨q, rfl, hq, hb1⟩
    have Hq := hide hq
    have HB1 := hide hb1
    clear hq hb1
    go_wp2_with fail
    refine (C2.out w1).mono ?_
    rintro e w2 ⟨r, rfl, hr2, hb2⟩
    have Hr2 := hide hr2
    have Hq2 := hide (Hq.out.below hb2)
    have HB2 := hide (HB1.out.trans (hb2.mono HB1.out.size))
    clear hr2 hb2
    go_wp2
    go_ret2
    exact ⟨q, r, rfl, Hq2.out, Hr2.out, HB2.out⟩
  · have hz : ∀ x, x ≤ m → (Dg.digs 65536 x).length ≤ 1000 := fun x hx => Nat.le_trans (Dg.digs_len_mono (by omega) hx) hml
    have CM : Hid (∀ W, Below w.heap.size w W → Calls Tryz.prog 50 #[u] W (fun e w' => e = .returned (.int .i64 ((Dg.bl m : Nat) : Int)) ∧ W = w')) := by
      intro W hB
      have := len_any _ (Dg.can_digs (B := 65536) (by omega) m) (by omega) W u (hu.below hB)
      rw [Dg.val_digs (by omega)] at this
      exact this
    have CN : Hid (∀ W, Below w.heap.size w W → Calls Tryz.prog 50 #[v] W (fun e w' => e = .returned (.int .i64 ((Dg.bl n : Nat) : Int)) ∧ W = w')) := by
      intro W hB
      have := len_any _ (Dg.can_digs (B := 65536) (by omega) n) (by omega) W v (hv.below hB)
      rw [Dg.val_digs (by omega)] at this
      exact this
    have CL : Hid (∀ (W : World) (k : Nat), Below w.heap.size w W → k ≤ 20000 → Calls Tryz.prog 51 #[v, .int .i64 (k : Int)] W (GotNat (n * 2 ^ k) W)) := by
      intro W k hB hk
      have := shl_any _ (Dg.can_digs (B := 65536) (by omega) n) (by omega) k (by omega) W v (hv.below hB)
      rw [Dg.val_digs (by omega)] at this
      exact this
    have CC : Hid (∀ (W : World) (k a0 : Nat) (x y : Value), k ≤ 20000 → Rd W x (cI (Dg.digs 65536 (n * 2 ^ k))) → Rd W y (cI (Dg.digs 65536 a0)) → Calls Tryz.prog 23 #[x, y] W (GotCmp (n * 2 ^ k) a0 W)) := by
      intro W k a0 x y hk hx hy
      have hl := shl_len_le hnl hk
      have := cmp_any _ _ (Dg.can_digs (B := 65536) (by omega) (n * 2 ^ k)) (Dg.can_digs (by omega) a0) (by omega) W x y hx hy
      rw [Dg.val_digs (by omega), Dg.val_digs (by omega)] at this
      exact this
    have CS : Hid (∀ (W : World) (k a0 : Nat) (x y : Value), a0 ≤ m → n * 2 ^ k ≤ a0 → Rd W x (cI (Dg.digs 65536 a0)) → Rd W y (cI (Dg.digs 65536 (n * 2 ^ k))) → Calls Tryz.prog 52 #[x, y] W (GotNat (a0 - n * 2 ^ k) W)) := by
      intro W k a0 x y ha hk hx hy
      have := sub_any (Dg.digs 65536 a0) (Dg.digs 65536 (n * 2 ^ k)) (Dg.digs_lt (by omega) _) (Dg.can_digs (by omega) _) (by rw [Dg.val_digs (by omega), Dg.val_digs (by omega)]; exact hk) (by have := hz a0 ha; omega) (Dg.digs_len_mono (by omega) hk) W x y hx hy
      rw [Dg.val_digs (by omega), Dg.val_digs (by omega)] at this
      exact this
    have CA : Hid (∀ (W : World) (k q0 : Nat) (x y : Value), q0 ≤ m → k ≤ 20000 → Rd W x (cI (Dg.digs 65536 q0)) → Rd W y (cI (Dg.digs 65536 (2 ^ k))) → Calls Tryz.prog 53 #[x, y] W (GotNat (q0 + 2 ^ k) W)) := by
      intro W k q0 x y hq hk hx hy
      have hl : (Dg.digs 65536 (2 ^ k)).length ≤ 1000000 := by rw [digs_pow2]; simp; omega
      have := add_any (Dg.digs 65536 q0) (Dg.digs 65536 (2 ^ k)) (Dg.digs_lt (by omega) _) (Dg.digs_lt (by omega) _) (by have := hz q0 hq; omega) (by omega) W x y hx hy
      rw [Dg.val_digs (by omega), Dg.val_digs (by omega)] at this
      exact this
    have CB : Hid (∀ (W : World) (k : Nat), k ≤ 20000 → Calls Tryz.prog 54 #[.int .i64 (k : Int)] W (GotNat (2 ^ k) W)) := fun W k hk => bit_any k (by omega) W
    have hbm := bl_len hml
    have hbn := bl_len hnl
    have HST := hide fun (z : Int) (h : z = (Dg.bl m : Int) - (Dg.bl n : Int)) => Dg.div_start (m := m) hn h
    have HN := hide hn
    have HU := hide hu
    have hnlen : ∃ (A : Option Addr) (k c : Nat), v = .slice A k c ∧ Hid (k = (Dg.digs 65536 n).length) := by
      obtain ⟨A, c, e, _⟩ := hv.any
      exact ⟨A, _, c, e, by simp [Hid, cI_len]⟩
    obtain ⟨Av, kv, cv, rfl, hkv⟩ := hnlen
    have hkv1 : ¬ (kv : Int) = 1 := by have := hkv.out; omega
    obtain ⟨Au, ku, cu, rfl⟩ := hu.shape
    generalize Dg.bl m = bm at *
    generalize Dg.bl n = bn at *
    clear hu hv h1 hml hnl hz hn
    go_enter Tryz.func36, Tryz.ntmps36
    go_wp2_with fail
    refine (CM.out _ (below1 _ _)).mono ?_
    rintro e w1 ⟨rfl, rfl⟩
    go_wp2_with fail
    refine (CN.out _ (below1 _ _)).mono ?_
    rintro e w1 ⟨rfl, rfl⟩
    go_wp2_with fail
    go_loopw [0, 8, 9] (DmIn m n w) (fun _ _ i _ => idxOf i)
    case atStart =>
      refine ⟨m, 0, (bm : Int) - bn, by first | rfl | go_num, by omega, by omega, HU.out.alloc _, ?_, ⟨by omega, HST.out _ rfl⟩, below1 _ _⟩
      rw [show Dg.digs 65536 0 = [] by simp [Dg.digs]]
      exact Rd.nil_ _ _ _ (Nat.zero_le _)
    case round =>
      obtain ⟨a0, q0, z, rfl, hz1, hz2, hra, hrq, hval, hbel⟩ := hrel
      have hle := Dg.div_le HN.out hval.out.1
      obtain ⟨A1, n1, c1, rfl⟩ := hra.out.shape
      obtain ⟨A2, n2, c2, rfl⟩ := hrq.out.shape
      have Hle := hide hle
      have HB := hide hbel
      clear hle hbel
      by_cases h0 : 0 ≤ z
      · obtain ⟨k, rfl⟩ : ∃ k : Nat, z = (k : Int) := ⟨z.toNat, by omega⟩
        have hk : k ≤ 20000 := by omega
        rw [show ((k : Int) + 1).toNat = k + 1 by omega] at hval
        go_wp2_with fail
        refine (CL.out _ k HB.out hk).mono ?_
        rintro e w1 ⟨d, rfl, hd, hb1⟩
        obtain ⟨A3, n3, c3, rfl⟩ := hd.shape
        have Hd := hide hd
        have HB1 := hide (HB.out.trans (hb1.mono HB.out.size))
        have hra1 := hide (hra.out.below hb1)
        have hrq1 := hide (hrq.out.below hb1)
        clear hd hb1 hra hrq
        go_wp2_with fail
        refine (CC.out _ k a0 _ _ hk Hd.out hra1.out).mono ?_
        rintro e w2 ⟨rfl, hb2⟩
        have Hd2 := hide (Hd.out.below hb2)
        have HB2 := hide (HB1.out.trans (hb2.mono HB1.out.size))
        have hra2 := hide (hra1.out.below hb2)
        have hrq2 := hide (hrq1.out.below hb2)
        clear hb2 hra1 hrq1 Hd
        by_cases hc : n * 2 ^ k ≤ a0
        · have hcm := cmp_le hc
          have HC := hide hc
          clear hc
          generalize Dg.cmp (n * 2 ^ k) a0 = cc at *
          go_wp2_with fail
          refine (CS.out _ k a0 _ _ Hle.out.2 HC.out hra2.out Hd2.out).mono ?_
          rintro e w3 ⟨s, rfl, hs, hb3⟩
          obtain ⟨A4, n4, c4, rfl⟩ := hs.shape
          have Hs := hide hs
          have HB3 := hide (HB2.out.trans (hb3.mono HB2.out.size))
          have hrq3 := hide (hrq2.out.below hb3)
          clear hs hb3 hra2 hrq2 Hd2
          go_wp2_with fail
          refine (CB.out _ k hk).mono ?_
          rintro e w4 ⟨t, rfl, ht, hb4⟩
          obtain ⟨A5, n5, c5, rfl⟩ := ht.shape
          have Ht := hide ht
          have HB4 := hide (HB3.out.trans (hb4.mono HB3.out.size))
          have hrq4 := hide (hrq3.out.below hb4)
          have Hs4 := hide (Hs.out.below hb4)
          clear ht hb4 hrq3 Hs
          go_wp2_with fail
          refine (CA.out _ k q0 _ _ Hle.out.1 hk hrq4.out Ht.out).mono ?_
          rintro e w5 ⟨x, rfl, hx, hb5⟩
          obtain ⟨A6, n6, c6, rfl⟩ := hx.shape
          have Hx := hide hx
          have HB5 := hide (HB4.out.trans (hb5.mono HB4.out.size))
          have Hs5 := hide (Hs4.out.below hb5)
          have HV := hide (Dg.div_yes hval.out.1 hval.out.2 HC.out)
          clear hx hb5 hrq4 Hs4
          go_wp2
          go_roundw
          case rel => exact ⟨a0 - n * 2 ^ k, q0 + 2 ^ k, (k : Int) - 1, rfl, by omega, by omega, Hs5.out, Hx.out, ⟨HV.out.1, by rw [show ((k : Int) - 1 + 1).toNat = k by omega]; exact HV.out.2⟩, HB5.out⟩
          case measure => simp [idxOf] <;> omega
        · have hcm := cmp_pos hc
          have HC := hide hc
          clear hc
          generalize Dg.cmp (n * 2 ^ k) a0 = cc at *
          go_wp2
          go_roundw
          case rel => exact ⟨a0, q0, (k : Int) - 1, rfl, by omega, by omega, hra2.out, hrq2.out, ⟨hval.out.1, by rw [show ((k : Int) - 1 + 1).toNat = k by omega]; have := HC.out; omega⟩, HB2.out⟩
          case measure => simp [idxOf] <;> omega
      · have HF : Hid (q0 = m / n ∧ a0 = m % n) := by
          have h2 := hval.out.2
          rw [show (z + 1).toNat = 0 by omega] at h2
          exact Dg.div_end hval.out.1 h2
        go_wp2
        go_ret2
        refine ⟨_, _, rfl, ?_, ?_, HB.out⟩
        · rw [← HF.out.1]; exact hrq.out
        · rw [← HF.out.2]; exact hra.out
set_option maxRecDepth 100000 in
set_option maxHeartbeats 1600000 in
theorem gcd_some (m n : Nat) (hml : (Dg.digs 65536 m).length ≤ 1000) (hnl : (Dg.digs 65536 n).length ≤ 1000) (w : World) (u v : Value) (hu : Rd w u (cI (Dg.digs 65536 m))) (hv : Rd w v (cI (Dg.digs 65536 n))) :
    Calls Tryz.prog 24 #[u, v] w (fun e w' => ∃ g, (Dg.digs 65536 g).length ≤ 1000 ∧ GotNat g w e w') := by
  have HU := hide hu
  have HV := hide hv
  obtain ⟨A1, n1, c1, rfl⟩ := hu.shape
  obtain ⟨A2, n2, c2, rfl⟩ := hv.shape
  have HL := hide (And.intro hml hnl)
  have CD := hide divMod_any
  clear hu hv hml hnl
  go_enter Tryz.func24, Tryz.ntmps24
  go_wp2_with fail
  go_loopg [0, 1] n (fun k a b wr => ∃ a0, Hid (Rd wr a (cI (Dg.digs 65536 a0)) ∧ Rd wr b (cI (Dg.digs 65536 k)) ∧ (Dg.digs 65536 a0).length ≤ 1000 ∧ (Dg.digs 65536 k).length ≤ 1000) ∧ Below w.heap.size w wr)
  case atStart => exact ⟨m, ⟨HU.out, HV.out, HL.out⟩, Below.refl _ _⟩
  case round =>
    obtain ⟨a0, hh, hbel⟩ := hrel
    obtain ⟨A3, n3, c3, rfl⟩ := hh.out.1.shape
    obtain ⟨A4, c4, e4, _⟩ := hh.out.2.1.any
    rw [cI_len] at e4
    obtain ⟨n4, hn4⟩ : ∃ n4, n4 = (Dg.digs 65536 gk).length := ⟨_, rfl⟩
    rw [← hn4] at e4
    subst e4
    have HB := hide hbel
    have hl0 : 0 < gk → 0 < n4 := fun h => by rw [hn4]; exact Dg.digs_len_pos (by omega) h
    rcases Nat.eq_zero_or_pos gk with h0 | h0
    · have h40 : n4 = 0 := by rw [hn4, h0]; simp [Dg.digs]
      subst h40
      clear hl0 hn4 hbel
      go_wp2
      go_ret
      exact ⟨a0, hh.out.2.2.1, _, rfl, hh.out.1, HB.out⟩
    · have h4 := hl0 h0
      have HH : Hid (Rd wr (.slice A4 n4 c4) (cI (Dg.digs 65536 gk)) ∧ (Dg.digs 65536 gk).length ≤ 1000 ∧ 0 < gk) := ⟨hh.out.2.1, hh.out.2.2.2, h0⟩
      clear hl0 hn4 hbel h0
      go_wp2_with fail
      refine (CD.out a0 gk HH.out.2.2 hh.out.2.2.1 HH.out.2.1 _ _ _ hh.out.1 HH.out.1).mono ?_
      rintro e w1 ⟨q, r, rfl, hq, hr, hb1⟩
      obtain ⟨A5, n5, c5, rfl⟩ := hq.shape
      obtain ⟨A6, n6, c6, rfl⟩ := hr.shape
      have Hr := hide hr
      have Hb := hide (HH.out.1.below hb1)
      have HB1 := hide (HB.out.trans (hb1.mono HB.out.size))
      clear hq hr hb1
      go_wp2
      go_roundg (a0 % gk)
      case measure => exact Nat.mod_lt _ HH.out.2.2
      case rel =>
        refine ⟨gk, ⟨Hb.out, Hr.out, HH.out.2.1, ?_⟩, HB1.out⟩
        exact Nat.le_trans (Dg.digs_len_mono (by omega) (Nat.mod_le _ _)) hh.out.2.2.1
end Go.Proofs.YtgooioafmddneabGreatDoor
