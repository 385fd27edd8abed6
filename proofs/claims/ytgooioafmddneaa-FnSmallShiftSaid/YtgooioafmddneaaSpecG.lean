/- The reference's functions on natural numbers, each by its contract: Sub, Shr. -/
import Derived.Test.YtgooioafmddneaaSpecB
namespace Go.Proofs.Ytgooioafmddneaa
open Go.RowKit
def SubIn (xs ys : List Nat) (w : World) (v bo i : Value) (wr : World) : Prop :=
  ∃ (k c : Nat) (l : List Nat), i = .int .i64 (k : Int) ∧ bo = .int .i64 (c : Int) ∧ c ≤ 1 ∧ k ≤ xs.length ∧ Hid (l.length = k) ∧ Hid (∀ d ∈ l, d < 65536) ∧ Hid (Dg.val 65536 l + Dg.val 65536 (ys.take k) = Dg.val 65536 (xs.take k) + 65536 ^ k * c) ∧
    wr.ownsRow w.heap.size 3 1 v k (cI l) ∧ Below w.heap.size w wr
set_option maxHeartbeats 1600000 in
/-- 'Sub': the difference. -/
theorem sub_any (xs ys : List Nat) (hx : ∀ d ∈ xs, d < 65536) (hy : Dg.Can 65536 ys) (hle : Dg.val 65536 ys ≤ Dg.val 65536 xs) (hlx : xs.length ≤ 9000000) (hlen : ys.length ≤ xs.length) (w : World) (v u : Value) (hv : Rd w v (cI xs)) (hu : Rd w u (cI ys)) :
    Calls Try.prog 17 #[v, u] w (GotNat (Dg.val 65536 xs - Dg.val 65536 ys) w) := by
  obtain ⟨A, c, rfl, hlc, hcm, hcx⟩ := hv.any
  obtain ⟨A', c', rfl, hlc', hcm', hcy⟩ := hu.any
  rw [cI_len] at hlc hlc' hcx hcy ⊢
  rw [cI_len]
  obtain ⟨n, hn⟩ : ∃ n, n = xs.length := ⟨_, rfl⟩
  obtain ⟨m, hm⟩ : ∃ m, m = ys.length := ⟨_, rfl⟩
  rw [← hn] at hlc hcx hlx hlen ⊢
  rw [← hm] at hlc' hcy hlen ⊢
  have Hn := hide hn
  have Hm := hide hm
  have Hcx := hide hcx
  have Hcy := hide hcy
  have Hx := hide hx
  have Hy := hide hy
  have Hle := hide hle
  clear hn hm hcx hcy hx hy hv hu hle
  go_enter Try.func17, Try.ntmps17
  go_wp2_with fail
  go_loopw [5, 6, 12] (SubIn xs ys w) (fun _ _ i _ => n - (intOf i).toNat)
  case atStart => exact ⟨0, 0, [], rfl, rfl, by omega, by omega, rfl, by simp [Hid], by simp [Hid, Dg.val], made0, below1 _ _⟩
  case round =>
    obtain ⟨k, c, l, rfl, rfl, hc1, hk, hl, hd, hval, hown, hbel⟩ := hrel
    rw [← Hn.out] at hk
    have hsz := hbel.size
    have hdx := Dg.getD_lt (xs := xs) (by omega) Hx.out k
    have hdy := Dg.getD_lt (xs := ys) (by omega) Hy.out.1 k
    have cellx : k < n → ∃ b o, A = some ⟨b, o, none⟩ ∧ wr.cell? ⟨b, o + k, none⟩ = some (Value.int .i64 ((xs.getD k 0 : Nat) : Int)) := fun h => by
      obtain ⟨b, o, hA, hb, hcl⟩ := Hcx.out (by omega)
      exact ⟨b, o, hA, (hbel.cell (p := ⟨b, o + k, none⟩) hb).trans (hcl k _ (cI_at (l := xs) (j := k) (by rw [← Hn.out]; omega)))⟩
    have celly : k < m → ∃ b o, A' = some ⟨b, o, none⟩ ∧ wr.cell? ⟨b, o + k, none⟩ = some (Value.int .i64 ((ys.getD k 0 : Nat) : Int)) := fun h => by
      obtain ⟨b, o, hA, hb, hcl⟩ := Hcy.out (by omega)
      exact ⟨b, o, hA, (hbel.cell (p := ⟨b, o + k, none⟩) hb).trans (hcl k _ (cI_at (l := ys) (j := k) (by rw [← Hm.out]; omega)))⟩
    have zy : ¬ k < m → ys.getD k 0 = 0 := fun h => Dg.getD_past (by rw [← Hm.out]; omega)
    have step := hide fun (d c2 : Nat) (h : d + ys.getD k 0 + c = xs.getD k 0 + 65536 * c2) => Dg.sub_step (B := 65536) hl.out hval.out (xs.getD k 0) (ys.getD k 0) (Dg.val_take_getD xs k) (Dg.val_take_getD ys k) h
    generalize xs.getD k 0 = x at *
    generalize ys.getD k 0 = y at *
    have Zy := hide zy
    clear zy
    by_cases h1 : k < n
    · obtain ⟨b, o, rfl, hck⟩ := cellx h1
      by_cases h2 : k < m
      · obtain ⟨b', o', rfl, hck'⟩ := celly h2
        clear cellx celly
        by_cases hs : x < y + c
        · have hneg : (x : Int) - c - y < 0 := by omega
          go_wp2_with (at_builtin; refine appI _ rfl _ _ rfl w.heap.size u5 k l _ (x + 65536 - c - y) rfl rfl ?c1 hown ?c2 hsz ?_)
          try case c1 => omega
          try case c2 => omega
          intro v1 w1 hown1 hb1
          go_wp2
          go_roundw
          case rel => exact ⟨k + 1, 1, l ++ [x + 65536 - c - y], by go_num, by go_num, by omega, by rw [← Hn.out]; omega, by have := hl.out; simp [Hid]; omega, snoc_lt hd.out (by omega), step.out _ _ (by omega), hown1, hbel.trans hb1⟩
          case measure => simp [intOf]; omega
        · have hneg : ¬ (x : Int) - c - y < 0 := by omega
          go_wp2_with (at_builtin; refine appI _ rfl _ _ rfl w.heap.size u5 k l _ (x - c - y) rfl rfl ?c3 hown ?c4 hsz ?_)
          try case c3 => omega
          try case c4 => omega
          intro v1 w1 hown1 hb1
          go_wp2
          go_roundw
          case rel => exact ⟨k + 1, 0, l ++ [x - c - y], by go_num, by go_num, by omega, by rw [← Hn.out]; omega, by have := hl.out; simp [Hid]; omega, snoc_lt hd.out (by omega), step.out _ _ (by omega), hown1, hbel.trans hb1⟩
          case measure => simp [intOf]; omega
      · clear cellx celly
        have hy0 := Zy.out h2
        subst hy0
        by_cases hs : x < c
        · have hneg : (x : Int) - c < 0 := by omega
          go_wp2_with (at_builtin; refine appI _ rfl _ _ rfl w.heap.size u5 k l _ (x + 65536 - c) rfl rfl ?c5 hown ?c6 hsz ?_)
          try case c5 => omega
          try case c6 => omega
          intro v1 w1 hown1 hb1
          go_wp2
          go_roundw
          case rel => exact ⟨k + 1, 1, l ++ [x + 65536 - c], by go_num, by go_num, by omega, by rw [← Hn.out]; omega, by have := hl.out; simp [Hid]; omega, snoc_lt hd.out (by omega), step.out _ _ (by omega), hown1, hbel.trans hb1⟩
          case measure => simp [intOf]; omega
        · have hneg : ¬ (x : Int) - c < 0 := by omega
          go_wp2_with (at_builtin; refine appI _ rfl _ _ rfl w.heap.size u5 k l _ (x - c) rfl rfl ?c7 hown ?c8 hsz ?_)
          try case c7 => omega
          try case c8 => omega
          intro v1 w1 hown1 hb1
          go_wp2
          go_roundw
          case rel => exact ⟨k + 1, 0, l ++ [x - c], by go_num, by go_num, by omega, by rw [← Hn.out]; omega, by have := hl.out; simp [Hid]; omega, snoc_lt hd.out (by omega), step.out _ _ (by omega), hown1, hbel.trans hb1⟩
          case measure => simp [intOf]; omega
    · have hkn : k = n := by omega
      have HE : Hid (Dg.val 65536 l = Dg.val 65536 xs - Dg.val 65536 ys) := by
        have e := hval.out
        rw [Dg.val_take_all (l := ys) (by rw [← Hm.out]; omega), Dg.val_take_all (l := xs) (by rw [← Hn.out]; omega)] at e
        exact Dg.sub_done hd.out (by rw [← Hn.out, hl.out, hkn]) (by rw [← Hn.out, ← hkn]; exact e) Hle.out
      clear cellx celly step
      go_wp2_with (go_at_call 27; refine (trim_any l hd.out _ _ (Rd.of_own hown)).mono ?_; rintro e w' ⟨⟨v', rfl, hrd, _⟩, rfl⟩)
      go_ret
      refine ⟨v', rfl, ?_, hbel⟩
      rw [← HE.out]
      exact hrd
def ShrIn (q M : Nat) (w : World) (v i : Value) (wr : World) : Prop :=
  ∃ (p k : Nat) (l : List Nat), i = .int .i64 (p : Int) ∧ Hid (p = q + k) ∧ p ≤ 20000000 ∧ k ≤ 10000000 ∧ Hid (l.length = k) ∧ Hid (∀ d ∈ l, d < 65536) ∧ Hid (Dg.val 65536 l = M % 65536 ^ k) ∧
    wr.ownsRow w.heap.size 3 1 v k (cI l) ∧ Below w.heap.size w wr
theorem shr_int (z s : Nat) : ((z : Nat) : Int) / 2 ^ s % 65536 = ((z / 2 ^ s % 65536 : Nat) : Int) := by
  rw [show ((2 : Int) ^ s) = ((2 ^ s : Nat) : Int) by rw [Int.natCast_pow]; rfl]
  simp
set_option maxHeartbeats 1600000 in
/-- 'Shr': by a power of 2, rounded down. -/
theorem shr_any (xs : List Nat) (hx : ∀ d ∈ xs, d < 65536) (hlx : xs.length ≤ 1000000) (n : Nat) (hn : n ≤ 1000000) (w : World) (v : Value) (hv : Rd w v (cI xs)) :
    Calls Try.prog 16 #[v, .int .i64 (n : Int)] w (GotNat (Dg.val 65536 xs / 2 ^ n) w) := by
  obtain ⟨A, c, rfl, hlc, hcm, hcx⟩ := hv.any
  rw [cI_len] at hlc hcx ⊢
  obtain ⟨m, hm⟩ : ∃ m, m = xs.length := ⟨_, rfl⟩
  rw [← hm] at hlc hcx hlx ⊢
  have Hm := hide hm
  have Hcx := hide hcx
  have Hx := hide hx
  obtain ⟨q, hq⟩ : ∃ q, q = n / 16 := ⟨_, rfl⟩
  obtain ⟨s, hs⟩ : ∃ s, s = n % 16 := ⟨_, rfl⟩
  have hs16 : s < 16 := by omega
  have hqn : q ≤ 1000000 := by omega
  have HM : Hid (Dg.val 65536 xs / 2 ^ n = Dg.val 65536 xs / 2 ^ (16 * q + s)) := by simp only [Hid]; rw [show 16 * q + s = n by omega]
  rw [HM.out]
  obtain ⟨M, hM⟩ : ∃ M, M = Dg.val 65536 xs / 2 ^ (16 * q + s) := ⟨_, rfl⟩
  rw [← hM]
  have HMM := hide hM
  have Hq := hide hq
  have Hs := hide hs
  clear hm hcx hx hv hM HM
  clear hs
  go_enter Try.func16, Try.ntmps16
  go_wp2_with fail
  have Hqi : Hid ((n : Int) / 16 = (q : Int)) := by simp only [Hid]; have := Hq.out; omega
  go_loopw [5, 6] (ShrIn q M w) (fun _ i _ => m - (intOf i).toNat)
  case atStart => exact ⟨q, 0, [], by rw [Hqi.out], rfl, by omega, by omega, rfl, by simp [Hid], by simp [Hid, Dg.val, Nat.mod_one], made0, below1 _ _⟩
  case round =>
    obtain ⟨p, k, l, rfl, hp, hpb, hk2, hl, hd, hval, hown, hbel⟩ := hrel
    have hsz := hbel.size
    by_cases h1 : p < m
    · have hkp : k ≤ p := by have := hp.out; omega
      obtain ⟨b, o, rfl, hb, hcl⟩ := Hcx.out (by omega)
      have hck := (hbel.cell (p := ⟨b, o + p, none⟩) hb).trans (hcl p _ (cI_at (l := xs) (j := p) (by rw [← Hm.out]; omega)))
      have hdx := Dg.getD_lt (xs := xs) (by omega) Hx.out p
      by_cases h2 : p + 1 < m
      · have hck2 := (hbel.cell (p := ⟨b, o + (p + 1), none⟩) hb).trans (hcl (p + 1) _ (cI_at (l := xs) (j := p + 1) (by rw [← Hm.out]; omega)))
        have hdy := Dg.getD_lt (xs := xs) (by omega) Hx.out (p + 1)
        have hdig := Dg.shr_digit_two (xs := xs) Hx.out (q := q) (k := k) hs16 (by rw [← Hm.out, ← hp.out]; exact h2)
        rw [← HMM.out, ← hp.out] at hdig
        have Hstep := hide (Dg.shr_step hl.out hval.out hdig)
        clear hdig
        generalize xs.getD p 0 = x at *
        generalize xs.getD (p + 1) 0 = y at *
        clear hcl
        have hz : x + 65536 * y ≤ 4294967296 := by omega
        have hsh := shr_int (x + 65536 * y) s
        rw [show (((x + 65536 * y : Nat) : Int)) = (x : Int) + 65536 * y by omega] at hsh
        have Hsh := hide hsh
        clear hsh
        go_wp2_with (at_builtin; refine appI _ rfl _ _ rfl w.heap.size u5 k l _ ((x + 65536 * y) / 2 ^ s % 65536) rfl rfl ?c1 hown ?c2 hsz ?_)
        case c1 => rw [Hs.out] at *; exact Hsh.out
        case c2 => omega
        intro v1 w1 hown1 hb1
        go_wp2
        go_roundw
        case rel => (exact ⟨p + 1, k + 1, l ++ [(x + 65536 * y) / 2 ^ s % 65536], by go_num, by have := hp.out; simp only [Hid]; omega, by omega, by omega, by have := hl.out; simp [Hid]; omega, snoc_lt hd.out (Nat.mod_lt _ (by omega)), Hstep.out, hown1, hbel.trans hb1⟩)
        case measure => simp [intOf]; omega
      · have hdig := Dg.shr_digit_one (xs := xs) Hx.out (q := q) (s := s) (k := k) (by rw [← Hm.out, ← hp.out]; omega)
        rw [← HMM.out, ← hp.out] at hdig
        have Hstep := hide (Dg.shr_step hl.out hval.out hdig)
        clear hdig
        generalize xs.getD p 0 = x at *
        clear hcl
        have Hsh := hide (shr_int x s)
        go_wp2_with (at_builtin; refine appI _ rfl _ _ rfl w.heap.size u5 k l _ (x / 2 ^ s % 65536) rfl rfl ?c3 hown ?c4 hsz ?_)
        case c3 => rw [Hs.out] at *; exact Hsh.out
        case c4 => omega
        intro v1 w1 hown1 hb1
        go_wp2
        go_roundw
        case rel => (exact ⟨p + 1, k + 1, l ++ [x / 2 ^ s % 65536], by go_num, by have := hp.out; simp only [Hid]; omega, by omega, by omega, by have := hl.out; simp [Hid]; omega, snoc_lt hd.out (Nat.mod_lt _ (by omega)), Hstep.out, hown1, hbel.trans hb1⟩)
        case measure => simp [intOf]; omega
    · have HF : Hid (Dg.val 65536 l = M) := by
        have e := hval.out
        have hpo := hp.out
        rw [HMM.out, Dg.shr_done Hx.out (by rw [← Hm.out]; omega)] at e
        rw [HMM.out]; exact e
      go_wp2_with (go_at_call 27; refine (trim_any l hd.out _ _ (Rd.of_own hown)).mono ?_; rintro e w' ⟨⟨v', rfl, hrd, _⟩, rfl⟩)
      go_ret
      refine ⟨v', rfl, ?_, hbel⟩
      rw [← HF.out]
      exact hrd
end Go.Proofs.Ytgooioafmddneaa
