/- The package's integer of bytes: MakeFromBytes and ofBytes, by contract. -/
import Derived.Test.YtgooioafmddneacGreatDoorBigA
import Derived.Deep.RegionWith
namespace Go.Proofs.YtgooioafmddneacGreatDoor
open Go.RowKit

/-- Behind k bytes: the words that are full, and what is gathered of the next one. -/
def BytesIn (bs : List Nat) (w : World) (n K g : Nat) (i acc s j : Value) (wr : World) : Prop :=
  ∃ (q r a : Nat) (l : List Nat), j = .int .i64 ((8 * q + r : Nat) : Int) ∧ i = .int .i64 (q : Int) ∧ acc = .int .u64 (a : Int) ∧ s = .int .u64 ((8 * r : Nat) : Int) ∧ 8 * q + r ≤ n ∧ r ≤ 7 ∧ Hid (a < 256 ^ r) ∧ Hid (l.length = q) ∧ Hid (∀ d ∈ l, d < W64) ∧
    Hid (Dg.val W64 l + W64 ^ q * a = Dg.val 256 (bs.take (8 * q + r))) ∧ wr.ownsRow w.heap.size 60 1 (.slice (some ⟨g, 0, none⟩) K K) K (cU (l ++ List.replicate (K - q) 0)) ∧ Below w.heap.size w wr

theorem pow256 (r : Nat) : 256 ^ r = 2 ^ (8 * r) := by rw [show 256 = 2 ^ 8 from rfl, ← Nat.pow_mul]
theorem W64_256 : W64 = 256 ^ 8 := rfl
theorem pow256_8 (q : Nat) : 256 ^ (8 * q) = W64 ^ q := by rw [Nat.pow_mul, W64_256]
theorem or_digit {a x r : Nat} (ha : a < 256 ^ r) (hx : x < 256) (hr : r ≤ 7) : bits .or .u64 (a : Int) (IntKind.u64.wrap ((x : Int) * 2 ^ (8 * r))) = ((a + 256 ^ r * x : Nat) : Int) := by
  have h7 : 256 ^ r ≤ 256 ^ 7 := Nat.pow_le_pow_right (by omega) hr
  have h8 : 256 ^ r * x + 256 ^ r ≤ 256 ^ r * 256 := by rw [← Nat.mul_succ]; exact Nat.mul_le_mul_left _ hx
  have e : ((x : Int) * 2 ^ (8 * r)) = ((256 ^ r * x : Nat) : Int) := by rw [pow256, Int.natCast_mul, Int.natCast_pow, Int.mul_comm]; rfl
  have h9 : 256 ^ r * x < 18446744073709551616 := by
    have : 256 ^ r * 256 ≤ 256 ^ 7 * 256 := Nat.mul_le_mul_right _ h7
    omega
  rw [e, IntKind.wrap_u64]
  rw [show ((256 ^ r * x : Nat) : Int) % 18446744073709551616 = ((256 ^ r * x : Nat) : Int) by omega, u64_or_nat _ _ (by omega) (by omega)]
  congr 1
  rw [Nat.or_comm, Nat.add_comm, pow256]
  exact (Nat.two_pow_add_eq_or_of_lt (by rw [← pow256]; exact ha) x).symm
theorem words_set {l : List Nat} {q K a : Nat} (hl : l.length = q) (hq : q < K) : (cU (l ++ List.replicate (K - q) 0)).set q (.int .u64 (a : Int)) = cU ((l ++ [a]) ++ List.replicate (K - (q + 1)) 0) := by
  obtain ⟨z, hz⟩ : ∃ z, K - q = z + 1 := ⟨K - q - 1, by omega⟩
  rw [hz, show K - (q + 1) = z by omega, List.replicate_succ]
  simp only [cU, List.map_append, List.map_cons]
  rw [List.set_append_right _ _ (by simp; omega)]
  simp [hl]
theorem words_at {l : List Nat} {q K : Nat} (hl : l.length = q) (hq : q < K) : (cU (l ++ List.replicate (K - q) 0))[q]? = some (.int .u64 0) := by
  obtain ⟨z, hz⟩ : ∃ z, K - q = z + 1 := ⟨K - q - 1, by omega⟩
  rw [hz, List.replicate_succ]
  simp [cU, hl]
theorem bytes_step {bs l : List Nat} {q r a : Nat} (hval : Dg.val W64 l + W64 ^ q * a = Dg.val 256 (bs.take (8 * q + r))) (x : Nat) (hx : x = bs.getD (8 * q + r) 0) :
    Dg.val W64 l + W64 ^ q * (a + 256 ^ r * x) = Dg.val 256 (bs.take (8 * q + r + 1)) := by
  rw [Dg.val_take_getD, ← hval, ← hx, Nat.mul_add, ← pow256_8, Nat.pow_add, Nat.mul_assoc, Nat.add_assoc]
theorem acc_lt {a x r : Nat} (ha : a < 256 ^ r) (hx : x < 256) : a + 256 ^ r * x < 256 ^ (r + 1) := by
  have : 256 ^ r * x + 256 ^ r ≤ 256 ^ r * 256 := by rw [← Nat.mul_succ]; exact Nat.mul_le_mul_left _ hx
  rw [Nat.pow_succ]; omega

theorem step_eq {bs l : List Nat} {q a : Nat} (hl : l.length = q) (h : Dg.val W64 l + W64 ^ q * a = Dg.val 256 (bs.take (8 * q + 8))) : Dg.val W64 (l ++ [a]) + W64 ^ (q + 1) * 0 = Dg.val 256 (bs.take (8 * (q + 1) + 0)) := by
  rw [Nat.mul_zero, Nat.add_zero, Dg.val_snoc, hl, h, Nat.add_zero, Nat.mul_add]

theorem rd_take {w : World} {base g K k : Nat} {e : TypeId} {l : List Nat} (h : w.ownsRow base e 1 (.slice (some ⟨g, 0, none⟩) K K) K (cU l)) (hk : k ≤ K) : Rd w (.slice (some ⟨g, 0, none⟩) k K) (cU (l.take k)) := by
  have hl : l.length = K := by have := h.1; rw [cU_len] at this; omega
  have hlen : (cU (l.take k)).length = k := by rw [cU_len, List.length_take]; omega
  obtain ⟨A, c, hv, h1, h2, h3⟩ := Rd.of_own h
  rw [cU_len] at hv h1 h3
  injection hv with e1 e2 e3
  subst e1
  refine ⟨_, K, by rw [hlen], by rw [hlen]; exact hk, by rw [e3]; exact h2, fun hn => ?_⟩
  rw [hlen] at hn
  obtain ⟨b, o, hA, hb, hc⟩ := h3 (by omega)
  refine ⟨b, o, hA, hb, fun j u hu => hc j u ?_⟩
  simp only [cU, List.getElem?_map, List.getElem?_take] at hu ⊢
  split at hu
  · exact hu
  · simp at hu
theorem fresh_rd {w : World} {v : Value} {xs : List Value} (h : Rd w v xs) (o : Obj) : Rd (w.alloc o).drew v xs := (h.alloc o).drew
theorem bytes_fin {w wr w2 : World} {bs l : List Nat} {k : Nat} {v : Value} {o : Obj} (hbel : Below w.heap.size w wr) (hg : (wr.alloc o).drew.grownBy w2 (some wr.heap.size)) (hv : Dg.val W64 (l.take k) = Dg.val 256 bs) (hc : ConstInt w2 v (sgn false (Dg.val W64 (l.take k)))) :
    ConstInt w2 v (Dg.val 256 bs) ∧ Below w.heap.size w w2 := by
  have e : sgn false (Dg.val W64 (l.take k)) = (Dg.val 256 bs : Int) := by simp [sgn, hv]
  rw [e] at hc
  exact ⟨hc, ((hbel.alloc hbel.size o).drew).grown hg (by have := hbel.size; simp; omega) (by intro k hk; have := hbel.size; injection hk with hk; omega)⟩
theorem digs_len_bound {l : List Nat} (h : ∀ d ∈ l, d < W64) {k : Nat} (hk : l.length ≤ 1000000) : (Dg.digs W64 (Dg.val W64 (l.take k))).length ≤ 1000000 := by
  have h1 := Dg.take_lt h k
  have h2 := Dg.digs_len_le W64_two h1
  omega

set_option maxHeartbeats 1600000 in
theorem fromBytes_any (bs : List Nat) (h : ∀ d ∈ bs, d < 256) (hlen : bs.length ≤ 1000000) (w : World) (v : Value) (hv : Rd w v (cB bs)) :
    Calls Tryz.prog 11 #[v] w (fun e w' => ∃ v', e = .returned v' ∧ ConstInt w' v' (Dg.val 256 bs) ∧ Below w.heap.size w w') := by
  obtain ⟨A, c, rfl, hlc, hcm, hcell⟩ := hv.any
  rw [cB_len] at *
  obtain ⟨n, hn⟩ : ∃ n, n = bs.length := ⟨_, rfl⟩
  rw [← hn] at hlc hcell hlen ⊢
  have Hn := hide hn
  have Hh := hide h
  have Hc := hide hcell
  clear hn h hcell hv
  obtain ⟨i0, hi, hz0, hz1, hz2⟩ := info_parts infoW
  go_enter Tryz.func11, Tryz.ntmps11
  go_wp2_with (at_make; refine wpList_make_full _ rfl _ _ 58 rfl w.heap.size 60 i0 (.int .u64 0) 1 Tryz.underlying58 hi hz0 hz1 .i64 .i64 _ _ ((n + 7) / 8) rfl rfl ?b1 ?b2 ?b3 ?b4 (Nat.le_refl _) ?_)
  case b1 => omega
  case b2 => omega
  case b3 => rw [hz2]; omega
  case b4 => simp only [maxLen]; omega
  intro w1 hown1 hg1
  have hbel1 : Below w.heap.size w w1 := below_of_grown hg1 (Nat.le_refl _) (by simp)
  rw [toList_madeCells_one] at hown1
  have hK1 : n ≤ 8 * ((n + 7) / 8) := by omega
  have hK2 : 8 * ((n + 7) / 8) ≤ n + 7 := by omega
  obtain ⟨K, hK⟩ : ∃ K, K = (n + 7) / 8 := ⟨_, rfl⟩
  rw [← hK] at hown1 hK1 hK2 ⊢
  obtain ⟨g, hg⟩ : ∃ g, g = w.heap.size := ⟨_, rfl⟩
  have hK0 := hide hK
  have hgw := hide hg
  have Hown1 : Hid (w1.ownsRow w.heap.size 60 1 (.slice (some ⟨g, 0, none⟩) K K) K (cU ([] ++ List.replicate K 0))) := by
    have e : cU ([] ++ List.replicate K 0) = List.replicate K (Value.int .u64 0) := by simp [cU]
    rw [e, hg]
    exact hown1
  clear hK hown1 hz0 hz1 hz2 hi hg1
  rw [← hg]
  clear hg
  go_wp2_with fail
  go_loopw [4, 5, 6, 16] (BytesIn bs w n K g) (fun _ _ _ j _ => n - (intOf j).toNat)
  case atStart => exact ⟨0, 0, 0, [], rfl, rfl, rfl, rfl, by omega, by omega, by simp [Hid], rfl, by simp [Hid], by simp [Hid, Dg.val], Hown1, hbel1⟩
  case round =>
    obtain ⟨q, r, a, l, rfl, rfl, rfl, rfl, hj, hr, ha, hl, hd, hval, hown, hbel⟩ := hrel
    by_cases hlt : 8 * q + r < n
    · obtain ⟨b, o, rfl, hb, hcl⟩ := Hc.out (by omega)
      have hck := (hbel.cell (p := ⟨b, o + (8 * q + r), none⟩) hb).trans (hcl (8 * q + r) _ (cB_at (l := bs) (j := 8 * q + r) (by rw [← Hn.out]; omega)))
      have hxl := Dg.getD_lt (by omega) Hh.out (8 * q + r)
      obtain ⟨x, hx⟩ : ∃ x, x = bs.getD (8 * q + r) 0 := ⟨_, rfl⟩
      rw [← hx] at hck hxl
      have step := hide (bytes_step hval.out x hx)
      have hor := or_digit ha.out hxl hr
      have hacc := hide (acc_lt ha.out hxl)
      have hqK : q < K := by omega
      have hcq := (hown.cellAt q (by omega)).trans (words_at hl.out hqK)
      have hfq := hown.frozenAt q
      have Hown := hide hown
      clear hx hcl hown
      generalize ha' : a + 256 ^ r * x = a' at *
      clear ha'
      by_cases hr7 : r = 7
      · have hr8 : 7 ≤ r := by omega
        have hacc7 := hide (show a' < 256 ^ 8 by have := hacc.out; rw [hr7] at this; exact this)
        have hstep7 := hide (show Dg.val W64 l + W64 ^ q * a' = Dg.val 256 (bs.take (8 * q + 8)) by have := step.out; rw [hr7] at this; exact this)
        clear hr7
        go_wp2
        go_roundw
        case rel =>
          have S := Hown.out.stored q (.int .u64 (a' : Int))
          rw [words_set hl.out hqK] at S
          refine ⟨q + 1, 0, 0, l ++ [a'], congrArg (Value.int .i64) (by omega), congrArg (Value.int .i64) (by omega), rfl, rfl, by omega, by omega, by simp [Hid], by have := hl.out; simp [Hid]; omega, snoc_lt hd.out (by have := hacc7.out; simp only [W64, Dg.W64]; omega), ?_, S.1, hbel.trans (below_of_grown S.2 hbel.size (own_le hgw.out))⟩
          exact step_eq hl.out hstep7.out
        case measure => simp [intOf]; omega
      · have hr6 : r ≤ 6 := by omega
        clear hr7 hr
        go_wp2
        go_roundw
        case rel => exact ⟨q, r + 1, a', l, by go_num, rfl, rfl, by go_num, by omega, by omega, hacc, hl, hd, step, Hown.out, hbel⟩
        case measure => simp [intOf]; omega
    · have hjn : 8 * q + r = n := by omega
      have hv := hval.out
      rw [hjn, Dg.val_take_all (by rw [← Hn.out]; omega)] at hv
      by_cases hr0 : r = 0
      · have hqK : K - q = 0 := by omega
        have hqK' : q = K := by omega
        have hown' := hown
        rw [hqK, List.replicate_zero, List.append_nil] at hown'
        have ha0 := ha.out
        rw [hr0] at ha0
        have ha1 : a = 0 := by omega
        rw [ha1, Nat.mul_zero, Nat.add_zero] at hv
        have Hv := hide hv
        have Hown := hide hown'
        subst hqK'
        clear hown hown' hv ha0 ha1 hjn hval hr0 hqK Hown1
        have hge : n ≤ 8 * q + r := by omega
        clear hlt
        go_wp2_with fail
        go_loop [4] (fun i => ∃ k : Nat, i = .int .i64 (k : Int) ∧ k ≤ q ∧ Hid (Dg.val W64 (l.take k) = Dg.val W64 l)) (fun i => (intOf i).toNat)
        case atStart => exact ⟨q, rfl, Nat.le_refl _, by simp only [Hid]; rw [Dg.val_take_all (by rw [hl.out]; omega)]⟩
        case round =>
          obtain ⟨k, rfl, hk, hkv⟩ := hrel
          rcases Nat.eq_zero_or_pos k with hk0 | hk0
          · subst hk0
            have hkv' := hide (hkv.out.trans Hv.out)
            have C2 := hide (setNew_any (l.take 0) (fun d hd' => hd.out d (List.mem_of_mem_take hd')) _ _ (fresh_rd (rd_take Hown.out (Nat.zero_le _)) (.cells #[.bool false, .slice none 0 0] 76)) wr.heap.size (Blk.new wr _ _).drew)
            have HL := hide (digs_len_bound hd.out (k := 0) (by rw [hl.out]; omega))
            go_wp2
            go_region_with (first
              | (go_at_call 25; refine (newInt_any _).mono ?_; rintro e w' ⟨rfl, rfl⟩)
              | (go_at_call 26; refine C2.out.mono ?_; rintro e w2 ⟨rfl, hbig, hgr⟩)
              | (go_at_call 24; refine (makeInt_any w2 wr.heap.size 0 false _ hbig HL.out).mono ?_; rintro e w3 ⟨⟨v', rfl, hci⟩, rfl⟩))
            all_goals (go_wp2; go_ret; exact ⟨_, rfl, bytes_fin hbel hgr hkv'.out hci⟩)
          · have hc := (Hown.out.cellAt (k - 1) (by omega)).trans (cU_at (l := l) (j := k - 1) (by rw [hl.out]; omega))
            obtain ⟨d, hdd⟩ : ∃ d, d = (l).getD (k - 1) 0 := ⟨_, rfl⟩
            rw [← hdd] at hc
            have Hd := hide hdd
            clear hdd
            rcases Nat.eq_zero_or_pos d with h1 | h1
            · subst h1
              go_wp2
              go_round
              case rel => exact ⟨k - 1, by go_num, by omega, Dg.trim_step hk0 (by rw [hl.out]; exact hk) Hd.out hkv.out⟩
              case measure => simp [intOf]; omega
            · have hdb : ((d : Int) == 0) = false := by simp; omega
              have hkv' := hide (hkv.out.trans Hv.out)
              have C2 := hide (setNew_any (l.take k) (fun d hd' => hd.out d (List.mem_of_mem_take hd')) _ _ (fresh_rd (rd_take Hown.out hk) (.cells #[.bool false, .slice none 0 0] 76)) wr.heap.size (Blk.new wr _ _).drew)
              have HL := hide (digs_len_bound hd.out (k := k) (by rw [hl.out]; omega))
              go_wp2
              go_region_with (first
                | (go_at_call 25; refine (newInt_any _).mono ?_; rintro e w' ⟨rfl, rfl⟩)
                | (go_at_call 26; refine C2.out.mono ?_; rintro e w2 ⟨rfl, hbig, hgr⟩)
                | (go_at_call 24; refine (makeInt_any w2 wr.heap.size 0 false _ hbig HL.out).mono ?_; rintro e w3 ⟨⟨v', rfl, hci⟩, rfl⟩))
              all_goals (go_wp2; go_ret; exact ⟨_, rfl, bytes_fin hbel hgr hkv'.out hci⟩)

      · have hqK : K = q + 1 := by omega
        subst hqK
        have hcq := (hown.cellAt q (by omega)).trans (words_at hl.out (by omega))
        have hfq := hown.frozenAt q
        have S := hown.stored q (.int .u64 (a : Int))
        rw [words_set hl.out (by omega), Nat.sub_self, List.replicate_zero, List.append_nil] at S
        have Hown0 := hide S.1
        have Hgrow := hide S.2
        have halt : a < W64 := by
          have h1 := ha.out
          have h2 : 256 ^ r ≤ 256 ^ 8 := Nat.pow_le_pow_right (by omega) (by omega)
          rw [W64_256]
          omega
        have hd' := hide (snoc_lt hd.out halt)
        have hl' : Hid ((l ++ [a]).length = q + 1) := by have := hl.out; simp [Hid]; omega
        have Hv : Hid (Dg.val W64 (l ++ [a]) = Dg.val 256 bs) := by simp only [Hid]; rw [Dg.val_snoc, hl.out]; exact hv
        have hbel' : Below w.heap.size w (wr.setCell ⟨g, q, none⟩ (.int .u64 (a : Int))) := hbel.trans (below_of_grown S.2 hbel.size (own_le hgw.out))
        have Hbel := hide hbel'
        clear hown hval hd hv S halt hjn Hown1 hbel hbel' hl
        have hge : n ≤ 8 * q + r := by omega
        clear hlt hr0
        generalize hL : l ++ [a] = L at *
        have hl := hl'
        have hd := hd'
        clear hL hl' hd'
        go_wp2_with fail
        generalize hW : wr.setCell ⟨g, q, none⟩ (.int .u64 (a : Int)) = wo at *
        have hbel := Hbel.out
        have Hown := Hown0
        clear hW Hbel Hown0 Hgrow hcq hfq
        go_loop [4] (fun i => ∃ k : Nat, i = .int .i64 (k : Int) ∧ k ≤ q + 1 ∧ Hid (Dg.val W64 (L.take k) = Dg.val W64 L)) (fun i => (intOf i).toNat)
        case atStart => exact ⟨q + 1, by go_num, Nat.le_refl _, by simp only [Hid]; rw [Dg.val_take_all (by rw [hl.out]; omega)]⟩
        case round =>
          obtain ⟨k, rfl, hk, hkv⟩ := hrel
          rcases Nat.eq_zero_or_pos k with hk0 | hk0
          · subst hk0
            have hkv' := hide (hkv.out.trans Hv.out)
            have C2 := hide (setNew_any (L.take 0) (fun d hd' => hd.out d (List.mem_of_mem_take hd')) _ _ (fresh_rd (rd_take Hown.out (Nat.zero_le _)) (.cells #[.bool false, .slice none 0 0] 76)) wo.heap.size (Blk.new wo _ _).drew)
            have HL := hide (digs_len_bound hd.out (k := 0) (by rw [hl.out]; omega))
            go_wp2
            go_region_with (first
              | (go_at_call 25; refine (newInt_any _).mono ?_; rintro e w' ⟨rfl, rfl⟩)
              | (go_at_call 26; refine C2.out.mono ?_; rintro e w2 ⟨rfl, hbig, hgr⟩)
              | (go_at_call 24; refine (makeInt_any w2 wo.heap.size 0 false _ hbig HL.out).mono ?_; rintro e w3 ⟨⟨v', rfl, hci⟩, rfl⟩))
            all_goals (go_wp2; go_ret; exact ⟨_, rfl, bytes_fin hbel hgr hkv'.out hci⟩)
          · have hc := (Hown.out.cellAt (k - 1) (by omega)).trans (cU_at (l := L) (j := k - 1) (by rw [hl.out]; omega))
            obtain ⟨d, hdd⟩ : ∃ d, d = (L).getD (k - 1) 0 := ⟨_, rfl⟩
            rw [← hdd] at hc
            have Hd := hide hdd
            clear hdd
            rcases Nat.eq_zero_or_pos d with h1 | h1
            · subst h1
              go_wp2
              go_round
              case rel => exact ⟨k - 1, by go_num, by omega, Dg.trim_step hk0 (by rw [hl.out]; exact hk) Hd.out hkv.out⟩
              case measure => simp [intOf]; omega
            · have hdb : ((d : Int) == 0) = false := by simp; omega
              have hkv' := hide (hkv.out.trans Hv.out)
              have C2 := hide (setNew_any (L.take k) (fun d hd' => hd.out d (List.mem_of_mem_take hd')) _ _ (fresh_rd (rd_take Hown.out hk) (.cells #[.bool false, .slice none 0 0] 76)) wo.heap.size (Blk.new wo _ _).drew)
              have HL := hide (digs_len_bound hd.out (k := k) (by rw [hl.out]; omega))
              go_wp2
              go_region_with (first
                | (go_at_call 25; refine (newInt_any _).mono ?_; rintro e w' ⟨rfl, rfl⟩)
                | (go_at_call 26; refine C2.out.mono ?_; rintro e w2 ⟨rfl, hbig, hgr⟩)
                | (go_at_call 24; refine (makeInt_any w2 wo.heap.size 0 false _ hbig HL.out).mono ?_; rintro e w3 ⟨⟨v', rfl, hci⟩, rfl⟩))
              all_goals (go_wp2; go_ret; exact ⟨_, rfl, bytes_fin hbel hgr hkv'.out hci⟩)

end Go.Proofs.YtgooioafmddneacGreatDoor
