/- The reference's functions on natural numbers, each by its contract: Cmp, Add, Sub, Shl, Shr. -/
import Derived.Test.YtgooioafmddneabGreatDoorSpecA
import Derived.Deep.DeepCutAuto
namespace Go.Proofs.YtgooioafmddneabGreatDoor
open Go.RowKit

/-- The call returns the comparison of m and n, and leaves what was there. -/
def GotCmp (m n : Nat) (w : World) (e : Ending) (w' : World) : Prop := e = .returned (.int .i64 (Dg.cmp m n)) ∧ Below w.heap.size w w'
def CmpIn (xs ys : List Nat) (w : World) (i : Value) (wr : World) : Prop := ∃ k : Nat, i = .int .i64 ((k : Int) - 1) ∧ k ≤ xs.length ∧ Hid (xs.drop k = ys.drop k) ∧ Below w.heap.size w wr
def idxOf : Value → Nat | .int _ q => (q + 1).toNat | _ => 0

set_option maxHeartbeats 800000 in
theorem cmp_any (xs ys : List Nat) (hx : Dg.Can 65536 xs) (hy : Dg.Can 65536 ys) (hlx : xs.length ≤ 10000000) (w : World) (v u : Value) (hv : Rd w v (cI xs)) (hu : Rd w u (cI ys)) :
    Calls Tryz.prog 23 #[v, u] w (GotCmp (Dg.val 65536 xs) (Dg.val 65536 ys) w) := by
  obtain ⟨A, c, rfl, hlc, hcm, hcx⟩ := hv.any
  obtain ⟨A', c', rfl, hlc', hcm', hcy⟩ := hu.any
  rw [cI_len] at hlc hlc' hcx hcy ⊢
  rw [cI_len]
  rcases Nat.lt_trichotomy xs.length ys.length with hlt | heq | hgt
  · have hfin := Dg.cmp_lt (Dg.val_len_lt (B := 65536) (by omega) hx.1 hy hlt)
    have Hfin := hide hfin
    clear hfin
    generalize xs.length = n at hlt hlx hlc ⊢
    generalize ys.length = m at hlt hlc' ⊢
    go_enter Tryz.func23, Tryz.ntmps23
    go_wp2
    go_ret
    exact ⟨ret_int Hfin.out.symm, Below.refl _ _⟩
  · obtain ⟨n, hn⟩ : ∃ n, n = xs.length := ⟨_, rfl⟩
    rw [← hn] at hlc hcx hlx
    rw [← heq, ← hn] at hlc' hcy
    rw [← heq, ← hn]
    have Hn := hide hn
    have Hm := hide (hn.trans heq)
    have Hcx := hide hcx
    have Hcy := hide hcy
    have Hx := hide hx
    have Hy := hide hy
    clear hn heq hcx hcy hx hy hv hu
    go_enter Tryz.func23, Tryz.ntmps23
    go_wp2
    go_loopw [5] (CmpIn xs ys w) (fun i _ => idxOf i)
    case atStart => exact ⟨n, rfl, by rw [Hn.out]; omega, by simp only [Hid]; rw [List.drop_of_length_le (by rw [Hn.out]; omega), List.drop_of_length_le (by rw [Hm.out]; omega)], Below.refl _ _⟩
    case round =>
      obtain ⟨k, rfl, hk, he, hbel⟩ := hrel
      rw [← Hn.out] at hk
      rcases Nat.eq_zero_or_pos k with h0 | h0
      · subst h0
        have he' := he.out
        rw [List.drop_zero, List.drop_zero] at he'
        have Hfin : Hid (Dg.cmp (Dg.val 65536 xs) (Dg.val 65536 ys) = 0) := by
          simp only [Hid]
          rw [he']
          exact Dg.cmp_eq _
        clear he'
        go_wp2
        go_ret
        exact ⟨ret_int Hfin.out.symm, hbel⟩
      · obtain ⟨b, o, rfl, hb, hcl⟩ := Hcx.out (by omega)
        obtain ⟨b', o', rfl, hb', hcl'⟩ := Hcy.out (by omega)
        have hck := (hbel.cell (p := ⟨b, o + (k - 1), none⟩) hb).trans (hcl (k - 1) _ (cI_at (l := xs) (j := k - 1) (by rw [← Hn.out]; omega)))
        have hck' := (hbel.cell (p := ⟨b', o' + (k - 1), none⟩) hb').trans (hcl' (k - 1) _ (cI_at (l := ys) (j := k - 1) (by rw [← Hm.out]; omega)))
        obtain ⟨x, hx⟩ : ∃ x, x = xs.getD (k - 1) 0 := ⟨_, rfl⟩
        obtain ⟨y, hy⟩ : ∃ y, y = ys.getD (k - 1) 0 := ⟨_, rfl⟩
        rw [← hx] at hck
        rw [← hy] at hck'
        have Hxd := hide hx
        have Hyd := hide hy
        have e1 : k - 1 + 1 = k := by omega
        have He : Hid (xs.drop (k - 1 + 1) = ys.drop (k - 1 + 1)) := by rw [e1]; exact he
        clear hx hy hcl hcl' e1 Hcx Hcy
        rcases Nat.lt_trichotomy x y with h1 | h1 | h1
        · have Hfin := hide (Dg.cmp_lt (Dg.val_at_lt (B := 65536) (k := k - 1) Hx.out.1 (by rw [← Hn.out]; omega) (by rw [← Hm.out]; omega) He.out (by rw [← Hxd.out, ← Hyd.out]; exact h1)))
          go_wp2
          go_quiet (fail)
          go_wp2
          go_ret
          exact ⟨ret_int Hfin.out.symm, belowN hbel _⟩
        · subst h1
          go_wp2
          go_quiet (fail)
          go_wp2
          go_quiet (fail)
          go_wp2
          go_roundw
          case rel => exact ⟨k - 1, by go_num, by rw [← Hn.out]; omega, Dg.drop_at (by rw [← Hn.out]; omega) (by rw [← Hm.out]; omega) He.out (by rw [← Hxd.out, ← Hyd.out]), belowN hbel _⟩
          case measure => simp [idxOf]; omega
        · have Hfin := hide (Dg.cmp_gt (Dg.val_at_lt (B := 65536) (k := k - 1) Hy.out.1 (by rw [← Hm.out]; omega) (by rw [← Hn.out]; omega) He.out.symm (by rw [← Hxd.out, ← Hyd.out]; exact h1)))
          go_wp2
          go_quiet (fail)
          go_wp2
          go_quiet (fail)
          go_wp2
          go_ret
          exact ⟨ret_int Hfin.out.symm, belowN (belowN hbel _) _⟩
  · have hfin := Dg.cmp_gt (Dg.val_len_lt (B := 65536) (by omega) hy.1 hx hgt)
    have Hfin := hide hfin
    clear hfin
    generalize xs.length = n at hgt hlx hlc ⊢
    generalize ys.length = m at hgt hlc' ⊢
    go_enter Tryz.func23, Tryz.ntmps23
    go_wp2
    go_ret
    exact ⟨ret_int Hfin.out.symm, Below.refl _ _⟩

def AddIn (xs ys : List Nat) (w : World) (v cy i : Value) (wr : World) : Prop :=
  ∃ (k c : Nat) (l : List Nat), i = .int .i64 (k : Int) ∧ cy = .int .i64 (c : Int) ∧ c ≤ 1 ∧ k ≤ 10000000 ∧ Hid (l.length = k) ∧ Hid (∀ d ∈ l, d < 65536) ∧ Hid (Dg.val 65536 l + 65536 ^ k * c = Dg.val 65536 (xs.take k) + Dg.val 65536 (ys.take k)) ∧
    wr.ownsRow w.heap.size 3 1 v k (cI l) ∧ Below w.heap.size w wr

set_option maxHeartbeats 1600000 in
/-- 'Add': the sum. -/
theorem add_any (xs ys : List Nat) (hx : ∀ d ∈ xs, d < 65536) (hy : ∀ d ∈ ys, d < 65536) (hlx : xs.length ≤ 9000000) (hly : ys.length ≤ 9000000) (w : World) (v u : Value) (hv : Rd w v (cI xs)) (hu : Rd w u (cI ys)) :
    Calls Tryz.prog 53 #[v, u] w (GotNat (Dg.val 65536 xs + Dg.val 65536 ys) w) := by
  obtain ⟨A, c, rfl, hlc, hcm, hcx⟩ := hv.any
  obtain ⟨A', c', rfl, hlc', hcm', hcy⟩ := hu.any
  rw [cI_len] at hlc hlc' hcx hcy ⊢
  rw [cI_len]
  obtain ⟨n, hn⟩ : ∃ n, n = xs.length := ⟨_, rfl⟩
  obtain ⟨m, hm⟩ : ∃ m, m = ys.length := ⟨_, rfl⟩
  rw [← hn] at hlc hcx hlx ⊢
  rw [← hm] at hlc' hcy hly ⊢
  have Hn := hide hn
  have Hm := hide hm
  have Hcx := hide hcx
  have Hcy := hide hcy
  have Hx := hide hx
  have Hy := hide hy
  clear hn hm hcx hcy hx hy hv hu
  go_enter Tryz.func53, Tryz.ntmps53
  go_wp2_with fail
  go_loopw [5, 6, 7] (AddIn xs ys w) (fun _ _ i _ => max n m - (intOf i).toNat)
  case atStart => exact ⟨0, 0, [], rfl, rfl, by omega, by omega, rfl, by simp [Hid], by simp [Hid, Dg.val], made0, below1 _ _⟩
  case round =>
    obtain ⟨k, c, l, rfl, rfl, hc1, hk, hl, hd, hval, hown, hbel⟩ := hrel
    have hsz := hbel.size
    have hdx := Dg.getD_lt (xs := xs) (by omega) Hx.out k
    have hdy := Dg.getD_lt (xs := ys) (by omega) Hy.out k
    have cellx : k < n → ∃ b o, A = some ⟨b, o, none⟩ ∧ wr.cell? ⟨b, o + k, none⟩ = some (Value.int .i64 ((xs.getD k 0 : Nat) : Int)) := fun h => by
      obtain ⟨b, o, hA, hb, hcl⟩ := Hcx.out (by omega)
      exact ⟨b, o, hA, (hbel.cell (p := ⟨b, o + k, none⟩) hb).trans (hcl k _ (cI_at (l := xs) (j := k) (by rw [← Hn.out]; omega)))⟩
    have celly : k < m → ∃ b o, A' = some ⟨b, o, none⟩ ∧ wr.cell? ⟨b, o + k, none⟩ = some (Value.int .i64 ((ys.getD k 0 : Nat) : Int)) := fun h => by
      obtain ⟨b, o, hA, hb, hcl⟩ := Hcy.out (by omega)
      exact ⟨b, o, hA, (hbel.cell (p := ⟨b, o + k, none⟩) hb).trans (hcl k _ (cI_at (l := ys) (j := k) (by rw [← Hm.out]; omega)))⟩
    have zx : ¬ k < n → xs.getD k 0 = 0 := fun h => Dg.getD_past (by rw [← Hn.out]; omega)
    have zy : ¬ k < m → ys.getD k 0 = 0 := fun h => Dg.getD_past (by rw [← Hm.out]; omega)
    have step := Dg.add_step (B := 65536) hl.out hval.out (xs.getD k 0) (ys.getD k 0) (Dg.val_take_getD xs k) (Dg.val_take_getD ys k)
    generalize xs.getD k 0 = x at *
    generalize ys.getD k 0 = y at *
    have Step := hide step
    have Zx := hide zx
    have Zy := hide zy
    clear step zx zy
    by_cases h1 : k < n
    · obtain ⟨b, o, rfl, hck⟩ := cellx h1
      by_cases h2 : k < m
      · obtain ⟨b', o', rfl, hck'⟩ := celly h2
        clear cellx celly
        go_wp2_with (at_builtin; refine appI _ rfl _ _ rfl w.heap.size u5 k l _ ((c + x + y) % 65536) rfl rfl ?c1 hown ?c2 hsz ?_)
        try case c1 => omega
        try case c2 => omega
        intro v1 w1 hown1 hb1
        go_wp2
        go_roundw
        case rel => exact ⟨k + 1, (c + x + y) / 65536, l ++ [(c + x + y) % 65536], by go_num, by go_num, by omega, by omega, by have := hl.out; simp [Hid]; omega, snoc_lt hd.out (Nat.mod_lt _ (by omega)), Step.out, hown1, hbel.trans hb1⟩
        case measure => simp [intOf]; omega
      · clear cellx celly
        have hy0 := Zy.out h2
        subst hy0
        go_wp2_with (at_builtin; refine appI _ rfl _ _ rfl w.heap.size u5 k l _ ((c + x + 0) % 65536) rfl rfl ?c3 hown ?c4 hsz ?_)
        try case c3 => omega
        try case c4 => omega
        intro v1 w1 hown1 hb1
        go_wp2
        go_roundw
        case rel => exact ⟨k + 1, (c + x + 0) / 65536, l ++ [(c + x + 0) % 65536], by go_num, by go_num, by omega, by omega, by have := hl.out; simp [Hid]; omega, snoc_lt hd.out (Nat.mod_lt _ (by omega)), Step.out, hown1, hbel.trans hb1⟩
        case measure => simp [intOf]; omega
    · have hx0 := Zx.out h1
      subst hx0
      by_cases h2 : k < m
      · obtain ⟨b', o', rfl, hck'⟩ := celly h2
        clear cellx celly
        go_wp2_with (at_builtin; refine appI _ rfl _ _ rfl w.heap.size u5 k l _ ((c + 0 + y) % 65536) rfl rfl ?c5 hown ?c6 hsz ?_)
        try case c5 => omega
        try case c6 => omega
        intro v1 w1 hown1 hb1
        go_wp2
        go_roundw
        case rel => exact ⟨k + 1, (c + 0 + y) / 65536, l ++ [(c + 0 + y) % 65536], by go_num, by go_num, by omega, by omega, by have := hl.out; simp [Hid]; omega, snoc_lt hd.out (Nat.mod_lt _ (by omega)), Step.out, hown1, hbel.trans hb1⟩
        case measure => simp [intOf]; omega
      · clear cellx celly
        go_wp2_with (at_builtin; refine appI _ rfl _ _ rfl w.heap.size u5 k l _ c rfl rfl ?c7 hown ?c8 hsz ?_)
        try case c7 => omega
        try case c8 => omega
        intro v1 w1 hown1 hb1
        go_wp2_with (go_at_call 34; refine (trim_any (l ++ [c]) (snoc_lt hd.out (by omega)) _ _ (Rd.of_own hown1)).mono ?_; rintro e w' ⟨⟨v', rfl, hrd, _⟩, rfl⟩)
        go_ret
        refine ⟨v', rfl, ?_, hbel.trans hb1⟩
        have e := hval.out
        rw [Dg.val_take_all (by rw [← Hn.out]; omega), Dg.val_take_all (by rw [← Hm.out]; omega)] at e
        rw [← e, ← hl.out, ← Dg.val_snoc]
        exact hrd
end Go.Proofs.YtgooioafmddneabGreatDoor
