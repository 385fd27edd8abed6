/- The reference's functions on natural numbers, each by its contract: Shl, Shr, Sub. -/
import Derived.Test.YtgooioafmddneabGreatDoorSpecB
namespace Go.Proofs.YtgooioafmddneabGreatDoor
open Go.RowKit

theorem sh_zero (q m : Nat) : cI (Dg.sh q [] 0 m) = List.replicate (q + m + 1) (Value.int .i64 0) := by
  have e : Dg.sh q [] 0 m = List.replicate (q + m + 1) 0 := by
    simp only [Dg.sh, List.nil_append]
    rw [← List.replicate_succ, List.replicate_append_replicate, Nat.add_assoc]
  rw [e]
  simp [cI]
theorem sh_cell {l : List Nat} {q k c z : Nat} (hl : l.length = k) : (cI (Dg.sh q l c z))[q + k]? = some (.int .i64 (c : Int)) := by
  rw [cI_at (by rw [Dg.sh_len]; omega), ← hl, Dg.sh_at]
theorem sh_cell1 {l : List Nat} {q k c z : Nat} (hl : l.length = k) : (cI (Dg.sh q l c (z + 1)))[q + k + 1]? = some (.int .i64 ((0 : Nat) : Int)) := by
  rw [cI_at (by rw [Dg.sh_len]; omega)]
  congr 3
  subst hl
  simp [Dg.sh, List.getD, Nat.add_assoc]
theorem sh_stores {l : List Nat} {q k c z a b : Nat} (hl : l.length = k) : ((cI (Dg.sh q l c (z + 1))).set (q + k) (.int .i64 (a : Int))).set (q + k + 1) (.int .i64 (b : Int)) = cI (Dg.sh q (l ++ [a]) b z) := by
  rw [← Dg.sh_set q l c z a b, hl]
  simp [cI, List.map_set]
theorem shl_wrap {x n : Nat} (hx : x < 65536) : wrap64 ((x : Int) * 2 ^ (n % 16)) = ((x * 2 ^ (n % 16) : Nat) : Int) ∧ x * 2 ^ (n % 16) ≤ 4294967296 := by
  have h1 : 2 ^ (n % 16) ≤ 2 ^ 16 := Nat.pow_le_pow_right (by omega) (by omega)
  have h2 : x * 2 ^ (n % 16) ≤ 65536 * 2 ^ 16 := Nat.mul_le_mul (by omega) h1
  have e : ((x : Int) * 2 ^ (n % 16)) = ((x * 2 ^ (n % 16) : Nat) : Int) := by rw [Int.natCast_mul, Int.natCast_pow]; rfl
  rw [e]
  exact ⟨IntWalk.wrap64_in _ (by omega), by omega⟩
def ShlIn (xs : List Nat) (n g : Nat) (w : World) (i : Value) (wr : World) : Prop :=
  ∃ (k c : Nat) (l : List Nat), i = .int .i64 (k : Int) ∧ k ≤ xs.length ∧ c < 65536 ∧ Hid (c < 2 ^ (n % 16)) ∧ Hid (l.length = k) ∧ Hid (∀ d ∈ l, d < 65536) ∧ Hid (Dg.val 65536 l + 65536 ^ k * c = 2 ^ (n % 16) * Dg.val 65536 (xs.take k)) ∧
    wr.ownsRow w.heap.size 3 1 (.slice (some ⟨g, 0, none⟩) (n / 16 + xs.length + 1) (n / 16 + xs.length + 1)) (n / 16 + xs.length + 1) (cI (Dg.sh (n / 16) l c (xs.length - k))) ∧ Below w.heap.size w wr

set_option maxRecDepth 100000 in
set_option maxHeartbeats 1600000 in
/-- 'Shl': times a power of 2. -/
theorem shl_any (xs : List Nat) (hx : Dg.Can 65536 xs) (hlx : xs.length ≤ 1000000) (n : Nat) (hn : n ≤ 1000000) (w : World) (v : Value) (hv : Rd w v (cI xs)) :
    Calls Tryz.prog 51 #[v, .int .i64 (n : Int)] w (GotNat (Dg.val 65536 xs * 2 ^ n) w) := by
  rcases Nat.eq_zero_or_pos xs.length with h0 | h0
  · have : xs = [] := List.eq_nil_of_length_eq_zero h0
    subst this
    obtain ⟨A, c, rfl, hcm⟩ := hv.zero
    have HV := hide hv
    clear hv hx
    go_enter Tryz.func51, Tryz.ntmps51
    go_wp2
    go_ret
    exact ⟨_, rfl, by simp [Dg.val, Dg.digs_zero]; exact HV.out, Below.refl _ _⟩
  · obtain ⟨b, o, c, rfl, hlc, hcm, hb, hcl⟩ := hv.pos (by rw [cI_len]; exact h0)
    rw [cI_len] at *
    obtain ⟨i0, hi, hz0, hz1, hz2⟩ := info_parts infoI
    obtain ⟨m, hm⟩ : ∃ m, m = xs.length := ⟨_, rfl⟩
    rw [← hm] at hlc hlx h0 ⊢
    have Hm := hide hm
    have Hc := hide hcl
    have Hx := hide hx
    obtain ⟨N, hN⟩ : ∃ N, N = Dg.val 65536 xs * 2 ^ n := ⟨_, rfl⟩
    rw [← hN]
    have HN := hide hN
    clear hm hcl hx hv hN
    go_enter Tryz.func51, Tryz.ntmps51
    go_wp2_with (at_make; go_loud (refine wpList_make_full _ rfl _ _ 29 rfl w.heap.size 3 i0 (.int .i64 0) 1 Tryz.underlying29 hi hz0 hz1 .i64 .i64 _ _ (n / 16 + m + 1) rfl rfl ?b1 ?b2 ?b3 ?b4 (Nat.le_refl _) ?_))
    case b1 => omega
    case b2 => omega
    case b3 => rw [hz2]; omega
    case b4 => simp only [maxLen]; omega
    intro w1 hown1 hg1
    have hbel1 : Below w.heap.size w w1 := below_of_grown hg1 (Nat.le_refl _) (by simp)
    rw [toList_madeCells_one] at hown1
    obtain ⟨g, hg⟩ : ∃ g, g = w.heap.size := ⟨_, rfl⟩
    have hgw := hide hg
    have Hown1 : Hid (w1.ownsRow w.heap.size 3 1 (.slice (some ⟨g, 0, none⟩) (n / 16 + m + 1) (n / 16 + m + 1)) (n / 16 + m + 1) (cI (Dg.sh (n / 16) [] 0 m))) := by
      have e : cI (Dg.sh (n / 16) [] 0 m) = List.replicate (n / 16 + m + 1) (Value.int .i64 0) := sh_zero _ _
      rw [e, hg]
      exact hown1
    clear hown1 hz0 hz1 hz2 hi hg1
    rw [← hg]
    clear hg
    go_wp2_with fail
    go_loopw [21] (ShlIn xs n g w) (fun i _ => m - (intOf i).toNat)
    case atStart => exact ⟨0, 0, [], rfl, by omega, by omega, Nat.pow_pos (by omega), rfl, by simp [Hid], by simp [Hid, Dg.val], by rw [← Hm.out]; exact Hown1.out, hbel1⟩
    case round =>
      obtain ⟨k, c, l, rfl, hk, hc, hcs, hl, hd, hval, hown, hbel⟩ := hrel
      rw [← Hm.out] at hk hown
      by_cases hlt : k < m
      · have hck := (hbel.cell (p := ⟨b, o + k, none⟩) hb).trans (Hc.out k _ (cI_at (l := xs) (j := k) (by rw [← Hm.out]; exact hlt)))
        have hxl := Dg.getD_lt (by omega) Hx.out.1 k
        obtain ⟨x, hx⟩ : ∃ x, x = xs.getD k 0 := ⟨_, rfl⟩
        rw [← hx] at hck hxl
        have Hx1 := hide hx
        have Hown := hide hown
        clear hx hown
        obtain ⟨z, hz⟩ : ∃ z, m - k = z + 1 := ⟨m - k - 1, by omega⟩
        rw [hz] at Hown
        have hc0 := (Hown.out.cellAt (n / 16 + k) (by omega)).trans (sh_cell hl.out)
        have hc1 := (Hown.out.cellAt (n / 16 + k + 1) (by omega)).trans (sh_cell1 hl.out)
        have hf0 := Hown.out.frozenAt (n / 16 + k)
        have hf1 := Hown.out.frozenAt (n / 16 + k + 1)
        obtain ⟨hw, hyl⟩ := shl_wrap (n := n) hxl
        have Hstep := hide (Dg.shl_step hl.out hval.out (Dg.val_take_getD xs k))
        have Hcar := hide (Dg.shl_carry (s := n % 16) hxl)
        have Hdig := hide (Dg.shl_digit (s := n % 16) (x := x) (by omega) hcs.out)
        rw [← Hx1.out] at Hstep
        generalize x * 2 ^ (n % 16) = y at *
        have hcar2 : y / 65536 < 65536 := by
          have h1 := Hcar.out
          have h2 : 2 ^ (n % 16) ≤ 2 ^ 16 := Nat.pow_le_pow_right (by omega) (by omega)
          omega
        have Hz := hide hz
        clear hz
        go_wp2
        go_roundw
        case rel =>
          have S1 := Hown.out.stored (n / 16 + k) (.int .i64 ((c + y % 65536 : Nat) : Int))
          have S2 := S1.1.stored (n / 16 + k + 1) (.int .i64 ((y / 65536 : Nat) : Int))
          rw [sh_stores hl.out] at S2
          refine ⟨k + 1, y / 65536, l ++ [c + y % 65536], by go_num, by rw [← Hm.out]; omega, hcar2, Hcar, by have := hl.out; simp [Hid]; omega, snoc_lt hd.out Hdig.out, Hstep.out, ?_, ?_⟩
          · rw [← Hm.out, show m - (k + 1) = z by have := Hz.out; omega]
            exact S2.1
          · exact hbel.trans ((below_of_grown S1.2 hbel.size (own_le hgw.out)).trans (below_of_grown S2.2 (by have := hbel.size; simp [World.setCell]; omega) (own_le hgw.out)))
        case measure => simp [intOf]; omega
      · have hkm : k = m := by omega
        subst hkm
        rw [Nat.sub_self] at hown
        have hlt2 : ∀ d ∈ Dg.sh (n / 16) l c 0, d < 65536 := Dg.sh_lt hd.out hc
        have hv2 := Rd.of_own hown
        clear hown
        go_wp2_with fail
        refine (trim_any (Dg.sh (n / 16) l c 0) hlt2 _ _ hv2).mono ?_
        rintro e w' ⟨⟨v', rfl, hrd, _⟩, rfl⟩
        go_wp2
        go_ret
        refine ⟨v', rfl, ?_, hbel⟩
        have e1 := hval.out
        rw [Dg.val_take_all (by rw [← Hm.out]; omega)] at e1
        rw [Dg.sh_val, hl.out, e1, Dg.shl_done, ← HN.out] at hrd
        exact hrd
end Go.Proofs.YtgooioafmddneabGreatDoor
