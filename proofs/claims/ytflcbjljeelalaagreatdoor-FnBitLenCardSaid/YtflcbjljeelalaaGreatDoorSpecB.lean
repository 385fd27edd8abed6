/- The reference's functions on natural numbers, each by its contract: Cmp, Add, Sub, Shl, Shr. -/
import Derived.Test.YtflcbjljeelalaaGreatDoorSpecA
import Derived.Deep.DeepCutAuto
namespace Go.Proofs.YtflcbjljeelalaaGreatDoor
open Go.RowKit

/-- The call returns the comparison of m and n, and leaves what was there. -/
def GotCmp (m n : Nat) (w : World) (e : Ending) (w' : World) : Prop := e = .returned (.int .i64 (Dg.cmp m n)) ∧ Below w.heap.size w w'
def CmpIn (xs ys : List Nat) (w : World) (i : Value) (wr : World) : Prop := ∃ k : Nat, i = .int .i64 ((k : Int) - 1) ∧ k ≤ xs.length ∧ Hid (xs.drop k = ys.drop k) ∧ Below w.heap.size w wr
def idxOf : Value → Nat | .int _ q => (q + 1).toNat | _ => 0

set_option maxHeartbeats 800000 in
theorem cmp_any (xs ys : List Nat) (hx : Dg.Can 65536 xs) (hy : Dg.Can 65536 ys) (hlx : xs.length ≤ 10000000) (w : World) (v u : Value) (hv : Rd w v (cI xs)) (hu : Rd w u (cI ys)) :
    Calls Tryz.prog 26 #[v, u] w (GotCmp (Dg.val 65536 xs) (Dg.val 65536 ys) w) := by
  obtain ⟨A, c, rfl, hlc, hcm, hcx⟩ := hv.any
  obtain ⟨A', c', rfl, hlc', hcm', hcy⟩ := hu.any
  rw [cI_len] at hlc hlc' hcx hcy ⊢
  rw [cI_len]
  rcases Nat.lt_trichotomy xs.length ys.length with hlt | heq | hgt
  · have hfin := Dg.cmp_lt (Dg.val_len_lt (B := 65536) (by omega) hx.1 hy hlt)
    have Hfin := hide hfin
    clear hfin
    generalize xs.length = n at hlt hlx hlc ⊢
    generalize ys.length = m at hlt hlc' ⊢
    go_enter Tryz.func26, Tryz.ntmps26
    go_wp2
    go_ret
    exact ⟨ret_int Hfin.out.symm, Below.refl _ _⟩
  · obtain ⟨n, hn⟩ : ∃ n, n = xs.length := ⟨_, rfl⟩
    rw [← hn] at hlc hcx hlx
    rw [← heq, ← hn] at hlc' hcy
    rw [← heq, ← hn]
    have Hn := hide hn
    have Hm := hide (hn.trans heq)
    have Hcx := hide hcx
    have Hcy := hide hcy
    have Hx := hide hx
    have Hy := hide hy
    clear hn heq hcx hcy hx hy hv hu
    go_enter Tryz.func26, Tryz.ntmps26
    go_wp2
    go_loopw [5] (CmpIn xs ys w) (fun i _ => idxOf i)
    case atStart => exact ⟨n, rfl, by rw [Hn.out]; omega, by simp only [Hid]; rw [List.drop_of_length_le (by rw [Hn.out]; omega), List.drop_of_length_le (by rw [Hm.out]; omega)], Below.refl _ _⟩
    case round =>
      obtain ⟨k, rfl, hk, he, hbel⟩ := hrel
      rw [← Hn.out] at hk
      rcases Nat.eq_zero_or_pos k with h0 | h0
      · subst h0
        have he' := he.out
        rw [List.drop_zero, List.drop_zero] at he'
        have Hfin : Hid (Dg.cmp (Dg.val 65536 xs) (Dg.val 65536 ys) = 0) := by
          simp only [Hid]
          rw [he']
          exact Dg.cmp_eq _
        clear he'
        go_wp2
        go_ret
        exact ⟨ret_int Hfin.out.symm, hbel⟩
      · obtain ⟨b, o, rfl, hb, hcl⟩ := Hcx.out (by omega)
        obtain ⟨b', o', rfl, hb', hcl'⟩ := Hcy.out (by omega)
        have hck := (hbel.cell (p := ⟨b, o + (k - 1), none⟩) hb).trans (hcl (k - 1) _ (cI_at (l := xs) (j := k - 1) (by rw [← Hn.out]; omega)))
        have hck' := (hbel.cell (p := ⟨b', o' + (k - 1), none⟩) hb').trans (hcl' (k - 1) _ (cI_at (l := ys) (j := k - 1) (by rw [← Hm.out]; omega)))
        obtain ⟨x, hx⟩ : ∃ x, x = xs.getD (k - 1) 0 := ⟨_, rfl⟩
        obtain ⟨y, hy⟩ : ∃ y, y = ys.getD (k - 1) 0 := ⟨_, rfl⟩
        rw [← hx] at hck
        rw [← hy] at hck'
        have Hxd := hide hx
        have Hyd := hide hy
        have e1 : k - 1 + 1 = k := by omega
        have He : Hid (xs.drop (k - 1 + 1) = ys.drop (k - 1 + 1)) := by rw [e1]; exact he
        clear hx hy hcl hcl' e1 Hcx Hcy
        rcases Nat.lt_trichotomy x y with h1 | h1 | h1
        · have Hfin := hide (Dg.cmp_lt (Dg.val_at_lt (B := 65536) (k := k - 1) Hx.out.1 (by rw [← Hn.out]; omega) (by rw [← Hm.out]; omega) He.out (by rw [← Hxd.out, ← Hyd.out]; exact h1)))
          go_wp2
          go_quiet (fail)
          go_wp2
          go_ret
          exact ⟨ret_int Hfin.out.symm, belowN hbel _⟩
        · subst h1
          go_wp2
          go_quiet (fail)
          go_wp2
          go_quiet (fail)
          go_wp2
          go_roundw
          case rel => exact ⟨k - 1, by go_num, by rw [← Hn.out]; omega, Dg.drop_at (by rw [← Hn.out]; omega) (by rw [← Hm.out]; omega) He.out (by rw [← Hxd.out, ← Hyd.out]), belowN hbel _⟩
          case measure => simp [idxOf]; omega
        · have Hfin := hide (Dg.cmp_gt (Dg.val_at_lt (B := 65536) (k := k - 1) Hy.out.1 (by rw [← Hm.out]; omega) (by rw [← Hn.out]; omega) He.out.symm (by rw [← Hxd.out, ← Hyd.out]; exact h1)))
          go_wp2
          go_quiet (fail)
          go_wp2
          go_quiet (fail)
          go_wp2
          go_ret
          exact ⟨ret_int Hfin.out.symm, belowN (belowN hbel _) _⟩
  · have hfin := Dg.cmp_gt (Dg.val_len_lt (B := 65536) (by omega) hy.1 hx hgt)
    have Hfin := hide hfin
    clear hfin
    generalize xs.length = n at hgt hlx hlc ⊢
    generalize ys.length = m at hgt hlc' ⊢
    go_enter Tryz.func26, Tryz.ntmps26
    go_wp2
    go_ret
    exact ⟨ret_int Hfin.out.symm, Below.refl _ _⟩

end Go.Proofs.YtflcbjljeelalaaGreatDoor
