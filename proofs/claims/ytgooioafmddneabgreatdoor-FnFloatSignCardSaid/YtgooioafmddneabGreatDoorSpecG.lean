/- The reference's functions on natural numbers, each by its contract: Sub, Shr. -/
import Derived.Test.YtgooioafmddneabGreatDoorSpecB
namespace Go.Proofs.YtgooioafmddneabGreatDoor
open Go.RowKit
def SubIn (xs ys : List Nat) (w : World) (v bo i : Value) (wr : World) : Prop :=
  ∃ (k c : Nat) (l : List Nat), i = .int .i64 (k : Int) ∧ bo = .int .i64 (c : Int) ∧ c ≤ 1 ∧ k ≤ xs.length ∧ Hid (l.length = k) ∧ Hid (∀ d ∈ l, d < 65536) ∧ Hid (Dg.val 65536 l + Dg.val 65536 (ys.take k) = Dg.val 65536 (xs.take k) + 65536 ^ k * c) ∧
    wr.ownsRow w.heap.size 3 1 v k (cI l) ∧ Below w.heap.size w wr
set_option maxHeartbeats 1600000 in
/-- 'Sub': the difference. -/
theorem sub_any (xs ys : List Nat) (hx : ∀ d ∈ xs, d < 65536) (hy : Dg.Can 65536 ys) (hle : Dg.val 65536 ys ≤ Dg.val 65536 xs) (hlx : xs.length ≤ 9000000) (hlen : ys.length ≤ xs.length) (w : World) (v u : Value) (hv : Rd w v (cI xs)) (hu : Rd w u (cI ys)) :
    Calls Tryz.prog 52 #[v, u] w (GotNat (Dg.val 65536 xs - Dg.val 65536 ys) w) := by
  obtain ⟨A, c, rfl, hlc, hcm, hcx⟩ := hv.any
  obtain ⟨A', c', rfl, hlc', hcm', hcy⟩ := hu.any
  rw [cI_len] at hlc hlc' hcx hcy ⊢
  rw [cI_len]
  obtain ⟨n, hn⟩ : ∃ n, n = xs.length := ⟨_, rfl⟩
  obtain ⟨m, hm⟩ : ∃ m, m = ys.length := ⟨_, rfl⟩
  rw [← hn] at hlc hcx hlx hlen ⊢
  rw [← hm] at hlc' hcy hlen ⊢
  have Hn := hide hn
  have Hm := hide hm
  have Hcx := hide hcx
  have Hcy := hide hcy
  have Hx := hide hx
  have Hy := hide hy
  have Hle := hide hle
  clear hn hm hcx hcy hx hy hv hu hle
  go_enter Tryz.func52, Tryz.ntmps52
  go_wp2_with fail
  go_loopw [5, 6, 12] (SubIn xs ys w) (fun _ _ i _ => n - (intOf i).toNat)
  case atStart => exact ⟨0, 0, [], rfl, rfl, by omega, by omega, rfl, by simp [Hid], by simp [Hid, Dg.val], made0, below1 _ _⟩
  case round =>
    obtain ⟨k, c, l, rfl, rfl, hc1, hk, hl, hd, hval, hown, hbel⟩ := hrel
    rw [← Hn.out] at hk
    have hsz := hbel.size
    have hdx := Dg.getD_lt (xs := xs) (by omega) Hx.out k
    have hdy := Dg.getD_lt (xs := ys) (by omega) Hy.out.1 k
    have cellx : k < n → ∃ b o, A = some ⟨b, o, none⟩ ∧ wr.cell? ⟨b, o + k, none⟩ = some (Value.int .i64 ((xs.getD k 0 : Nat) : Int)) := fun h => by
      obtain ⟨b, o, hA, hb, hcl⟩ := Hcx.out (by omega)
      exact ⟨b, o, hA, (hbel.cell (p := ⟨b, o + k, none⟩) hb).trans (hcl k _ (cI_at (l := xs) (j := k) (by rw [← Hn.out]; omega)))⟩
    have celly : k < m → ∃ b o, A' = some ⟨b, o, none⟩ ∧ wr.cell? ⟨b, o + k, none⟩ = some (Value.int .i64 ((ys.getD k 0 : Nat) : Int)) := fun h => by
      obtain ⟨b, o, hA, hb, hcl⟩ := Hcy.out (by omega)
      exact ⟨b, o, hA, (hbel.cell (p := ⟨b, o + k, none⟩) hb).trans (hcl k _ (cI_at (l := ys) (j := k) (by rw [← Hm.out]; omega)))⟩
    have zy : ¬ k < m → ys.getD k 0 = 0 := fun h => Dg.getD_past (by rw [← Hm.out]; omega)
    have step := hide fun (d c2 : Nat) (h : d + ys.getD k 0 + c = xs.getD k 0 + 65536 * c2) => Dg.sub_step (B := 65536) hl.out hval.out (xs.getD k 0) (ys.getD k 0) (Dg.val_take_getD xs k) (Dg.val_take_getD ys k) h
    generalize xs.getD k 0 = x at *
    generalize ys.getD k 0 = y at *
    have Zy := hide zy
    clear zy
    by_cases h1 : k < n
    · obtain ⟨b, o, rfl, hck⟩ := cellx h1
      by_cases h2 : k < m
      · obtain ⟨b', o', rfl, hck'⟩ := celly h2
        clear cellx celly
        by_cases hs : x < y + c
        · have hneg : (x : Int) - c - y < 0 := by omega
          go_wp2_with (at_builtin; refine appI _ rfl _ _ rfl w.heap.size u5 k l _ (x + 65536 - c - y) rfl rfl ?c1 hown ?c2 hsz ?_)
          try case c1 => omega
          try case c2 => omega
          intro v1 w1 hown1 hb1
          go_wp2
          go_roundw
          case rel => exact ⟨k + 1, 1, l ++ [x + 65536 - c - y], by go_num, by go_num, by omega, by rw [← Hn.out]; omega, by have := hl.out; simp [Hid]; omega, snoc_lt hd.out (by omega), step.out _ _ (by omega), hown1, hbel.trans hb1⟩
          case measure => simp [intOf]; omega
        · have hneg : ¬ (x : Int) - c - y < 0 := by omega
          go_wp2_with (at_builtin; refine appI _ rfl _ _ rfl w.heap.size u5 k l _ (x - c - y) rfl rfl ?c3 hown ?c4 hsz ?_)
          try case c3 => omega
          try case c4 => omega
          intro v1 w1 hown1 hb1
          go_wp2
          go_roundw
          case rel => exact ⟨k + 1, 0, l ++ [x - c - y], by go_num, by go_num, by omega, by rw [← Hn.out]; omega, by have := hl.out; simp [Hid]; omega, snoc_lt hd.out (by omega), step.out _ _ (by omega), hown1, hbel.trans hb1⟩
          case measure => simp [intOf]; omega
      · clear cellx celly
        have hy0 := Zy.out h2
        subst hy0
        by_cases hs : x < c
        · have hneg : (x : Int) - c < 0 := by omega
          go_wp2_with (at_builtin; refine appI _ rfl _ _ rfl w.heap.size u5 k l _ (x + 65536 - c) rfl rfl ?c5 hown ?c6 hsz ?_)
          try case c5 => omega
          try case c6 => omega
          intro v1 w1 hown1 hb1
          go_wp2
          go_roundw
          case rel => exact ⟨k + 1, 1, l ++ [x + 65536 - c], by go_num, by go_num, by omega, by rw [← Hn.out]; omega, by have := hl.out; simp [Hid]; omega, snoc_lt hd.out (by omega), step.out _ _ (by omega), hown1, hbel.trans hb1⟩
          case measure => simp [intOf]; omega
        · have hneg : ¬ (x : Int) - c < 0 := by omega
          go_wp2_with (at_builtin; refine appI _ rfl _ _ rfl w.heap.size u5 k l _ (x - c) rfl rfl ?c7 hown ?c8 hsz ?_)
          try case c7 => omega
          try case c8 => omega
          intro v1 w1 hown1 hb1
          go_wp2
          go_roundw
          case rel => exact ⟨k + 1, 0, l ++ [x - c], by go_num, by go_num, by omega, by rw [← Hn.out]; omega, by have := hl.out; simp [Hid]; omega, snoc_lt hd.out (by omega), step.out _ _ (by omega), hown1, hbel.trans hb1⟩
          case measure => simp [intOf]; omega
    · have hkn : k = n := by omega
      have HE : Hid (Dg.val 65536 l = Dg.val 65536 xs - Dg.val 65536 ys) := by
        have e := hval.out
        rw [Dg.val_take_all (l := ys) (by rw [← Hm.out]; omega), Dg.val_take_all (l := xs) (by rw [← Hn.out]; omega)] at e
        exact Dg.sub_done hd.out (by rw [← Hn.out, hl.out, hkn]) (by rw [← Hn.out, ← hkn]; exact e) Hle.out
      clear cellx celly step
      go_wp2_with (go_at_call 34; refine (trim_any l hd.out _ _ (Rd.of_own hown)).mono ?_; rintro e w' ⟨⟨v', rfl, hrd, _⟩, rfl⟩)
      go_ret
      refine ⟨v', rfl, ?_, hbel⟩
      rw [← HE.out]
      exact hrd
end Go.Proofs.YtgooioafmddneabGreatDoor
