/- The reference's functions on natural numbers, each by its contract: trim, Small, Of, Len. -/
import Derived.Test.YtgooioafmddneabGreatDoorChecked
import Derived.Test.YtgooioafmddneabGreatDoorMem
import Derived.BigQuiet
import Derived.Deep.QuietTactic
import Derived.KernelRfl
namespace Go.Proofs.YtgooioafmddneabGreatDoor
open Go.RowKit

/-- The call returns a slice that reads as the digits of n, and leaves what was there. -/
def GotNat (n : Nat) (w : World) (e : Ending) (w' : World) : Prop :=
  ∃ v, e = .returned v ∧ Rd w' v (cI (Dg.digs 65536 n)) ∧ Below w.heap.size w w'
/-- The call returns the integer z, and leaves what was there. -/
def GotInt (z : Int) (w : World) (e : Ending) (w' : World) : Prop := e = .returned (.int .i64 z) ∧ Below w.heap.size w w'

theorem infoI : (Tryz.prog.info? 3).map (fun i => (i.zero, i.size, i.bytes)) = some (some (.int .i64 0), 1, 8) := by kernel_rfl

theorem trim_end {w : World} {A : Option Addr} {xs : List Nat} {k c : Nat} (h : ∀ d ∈ xs, d < 65536) (hk : k ≤ xs.length) (hkc : k ≤ c) (hcm : c ≤ 9223372036854775807)
    (hs : Dg.val 65536 (xs.take k) = Dg.val 65536 xs) (hlast : 0 < k → xs.getD (k - 1) 0 ≠ 0)
    (hc : 0 < k → ∃ b o, A = some ⟨b, o, none⟩ ∧ b < w.heap.size ∧ ∀ j u, (cI xs)[j]? = some u → w.cell? ⟨b, o + j, none⟩ = some u) :
    Rd w (.slice A k c) (cI (Dg.digs 65536 (Dg.val 65536 xs))) := by
  have hcan : Dg.Can 65536 (xs.take k) := by
    refine ⟨fun d hd => h d (List.mem_of_mem_take hd), fun e => ?_⟩
    rcases Nat.eq_zero_or_pos k with h0 | h0
    · subst h0; simp at e
    · have := hlast h0
      rw [List.getLast?_eq_getElem?] at e
      simp only [List.length_take, Nat.min_eq_left hk, List.getElem?_take, if_pos (show k - 1 < k by omega)] at e
      rw [List.getD_eq_getElem?_getD, e] at this
      exact this rfl
  have hd : Dg.digs 65536 (Dg.val 65536 xs) = xs.take k := by rw [← hs]; exact Dg.digs_val (by omega) hcan
  have hl : (cI (xs.take k)).length = k := by rw [cI_len, List.length_take]; omega
  rw [hd]
  refine ⟨A, c, by rw [hl], by rw [hl]; exact hkc, by simpa [maxLen] using hcm, fun hn => ?_⟩
  obtain ⟨b, o, hA, hb, hcell⟩ := hc (by rw [hl] at hn; exact hn)
  refine ⟨b, o, hA, hb, fun j u hu => hcell j u ?_⟩
  simp only [cI, List.getElem?_map, List.getElem?_take] at hu ⊢
  split at hu
  · exact hu
  · simp at hu

set_option maxHeartbeats 400000 in
theorem trim_any (xs : List Nat) (h : ∀ d ∈ xs, d < 65536) (w : World) (v : Value) (hv : Rd w v (cI xs)) :
    Calls Tryz.prog 34 #[v] w (fun e w' => GotNat (Dg.val 65536 xs) w e w' ∧ w = w') := by
  obtain ⟨A, c, rfl, hlc, hcm, hcell⟩ := hv.any
  rw [cI_len] at *
  obtain ⟨n, hn⟩ : ∃ n, n = xs.length := ⟨_, rfl⟩
  rw [← hn] at hlc hcell ⊢
  have Hn := hide hn
  have Hh := hide h
  have Hc := hide hcell
  clear hn h hcell hv
  go_enter Tryz.func34, Tryz.ntmps34
  go_wp2
  go_loop [0] (fun a => ∃ k : Nat, k ≤ n ∧ a = .slice A k c ∧ Hid (Dg.val 65536 (xs.take k) = Dg.val 65536 xs)) (fun a => lenOf a)
  case atStart => exact ⟨n, Nat.le_refl _, rfl, by rw [Hn.out]; simp [Hid]⟩
  case round =>
    obtain ⟨k, hk, rfl, hs⟩ := hrel
    rcases Nat.eq_zero_or_pos k with h0 | h0
    · subst h0
      go_wp2
      go_ret
      refine ⟨⟨_, rfl, trim_end Hh.out (by rw [← Hn.out]; omega) (by omega) hcm hs.out (fun h => absurd h (by omega)) (fun h => absurd h (by omega)), Below.refl _ _⟩, rfl⟩
    · obtain ⟨b, o, hA, hb, hcl⟩ := Hc.out (by omega)
      have hck := hcl (k - 1) _ (cI_at (l := xs) (j := k - 1) (by rw [← Hn.out]; omega))
      obtain ⟨d, hd⟩ : ∃ d, d = xs.getD (k - 1) 0 := ⟨_, rfl⟩
      rw [← hd] at hck
      have Hd := hide hd
      have Hcl := hide hcl
      have hc0 : 0 < c := by omega
      subst hA
      clear hd hcl
      rcases Nat.eq_zero_or_pos d with h1 | h1
      · subst h1
        go_wp2
        go_round
        case rel => exact ⟨k - 1, by omega, by simp, Dg.trim_step h0 (by rw [← Hn.out]; exact hk) Hd.out hs.out⟩
        case measure => simp [lenOf]; omega
      · have hdb : ((d : Int) == 0) = false := by simp; omega
        go_wp2
        go_ret
        refine ⟨⟨_, rfl, trim_end Hh.out (by rw [← Hn.out]; omega) (by omega) hcm hs.out (fun _ => by rw [← Hd.out]; omega) (fun _ => ⟨b, o, rfl, hb, Hcl.out⟩), Below.refl _ _⟩, rfl⟩

/-- 'out = append(out, x)' on a []int of the call's own. -/
theorem appI (w : World) {ops : Array Oper} {rest : List Oper} {o : Oper} {a : Act} {Q : Exit → Act → World → Prop} (hgd : o.guard = none) (s x : Operand)
    (ho : o.op = .call { callee := .builtin .append, args := #[s, x], argTypes := #[29, 29] })
    (base : Nat) (v : Value) (n : Nat) (l : List Nat) (u : Int) (d : Nat) (hs : a.eval s = v) (hx : a.eval x = .slice (some ⟨w.heap.size, 0, none⟩) 1 1) (hd : u = (d : Int))
    (hown : w.ownsRow base 3 1 v n (cI l)) (hn : n ≤ 1000000000000) (hbase : base ≤ w.heap.size)
    (h : ∀ v' w', w'.ownsRow base 3 1 v' (n + 1) (cI (l ++ [d])) → Below base w w' → wpList Tryz.prog ops Q rest (a.put o.dst v') w') : wpList Tryz.prog ops Q (o :: rest) a (w.alloc (.cells #[.int .i64 u] 3)) := by
  obtain ⟨i0, hi, hz0, hz1, hz2⟩ := info_parts infoI
  subst hd
  refine wpList_app1 _ hgd s x 29 ho base 3 i0 (.int .i64 0) 8 Tryz.underlying29 hi hz0 hz1 hz2 rfl (by omega) v n (cI l) _ hs w.heap.size hx (cell_new1 _ _ _) rfl (hown.alloc _) hn (by simp; omega) ?_
  intro v' w' h1 h2
  rw [cI_snoc] at h1
  exact h v' w' h1 (below_alloc h2 hbase)

def SmallRel (n : Nat) (w : World) (x v : Value) (wr : World) : Prop :=
  ∃ (k m : Nat) (l : List Nat), x = .int .i64 (m : Int) ∧ m ≤ 9223372036854775807 ∧ k ≤ 4 ∧ Hid (l.length = k) ∧ Hid (Dg.digs 65536 n = l ++ Dg.digs 65536 m) ∧ wr.ownsRow w.heap.size 3 1 v k (cI l) ∧ Below w.heap.size w wr

theorem made0 {w : World} {t : TypeId} : (w.alloc (.cells #[] t)).ownsRow w.heap.size t 1 (.slice (some ⟨w.heap.size, 0, none⟩) 0 0) 0 [] :=
  World.ownsRow_made w #[] 0 (Nat.le_refl _) (by simp [maxLen]) rfl
theorem below1 (w : World) (o : Obj) : Below w.heap.size w (w.alloc o) := (Below.refl _ _).alloc (Nat.le_refl _) o

set_option maxHeartbeats 400000 in
/-- 'Small': the digits of an int that is not below 0. -/
theorem small_any (n : Nat) (hn : n ≤ 9223372036854775807) (w : World) : Calls Tryz.prog 25 #[.int .i64 (n : Int)] w (GotNat n w) := by
  go_enter Tryz.func25, Tryz.ntmps25
  go_wp2_with fail
  go_loopw [0, 3] (SmallRel n w) (fun x _ _ => (intOf x).toNat)
  case atStart => exact ⟨0, n, [], rfl, hn, by omega, rfl, rfl, made0, below1 _ _⟩
  case round =>
    obtain ⟨k, m, l, rfl, hm, hk, hl, hd, hown, hbel⟩ := hrel
    have hsz := hbel.size
    rcases Nat.eq_zero_or_pos m with h0 | h0
    · subst h0
      go_wp2
      go_ret
      refine ⟨_, rfl, ?_, hbel⟩
      have := hd.out
      rw [Dg.digs_zero, List.append_nil] at this
      rw [this]
      exact Rd.of_own hown
    · go_wp2_with (at_builtin; refine appI _ rfl _ _ rfl w.heap.size u3 k l _ (m % 65536) rfl rfl ?c1 hown ?c2 hsz ?_)
      case c1 => omega
      case c2 => omega
      intro v1 w1 hown1 hb1
      go_wp2
      go_roundw
      case rel =>
        have e : Dg.digs 65536 n = (l ++ [m % 65536]) ++ Dg.digs 65536 (m / 65536) := by rw [hd.out, Dg.digs_pos (by omega) h0]; simp
        have hlen : (Dg.digs 65536 n).length ≤ 4 := Dg.digs_len_le (by omega) (by omega)
        rw [e] at hlen
        have hl' := hl.out
        simp at hlen
        exact ⟨k + 1, m / 65536, l ++ [m % 65536], by simp, by omega, by omega, by simp [Hid, hl'], e, hown1, hbel.trans hb1⟩
      case measure => simp [intOf]; omega

/-- 'Of': words of 64 bits. -/
def OfOut (ws : List Nat) (w : World) (v i : Value) (wr : World) : Prop :=
  ∃ (k : Nat) (l : List Nat), i = .int .i64 (k : Int) ∧ k ≤ ws.length ∧ Hid (l.length = 4 * k) ∧ Hid (∀ d ∈ l, d < 65536) ∧ Hid (Dg.val 65536 l = Dg.val Dg.W64 (ws.take k)) ∧ wr.ownsRow w.heap.size 3 1 v (4 * k) (cI l) ∧ Below w.heap.size w wr
def OfIn (ws : List Nat) (k x : Nat) (w : World) (v i : Value) (wr : World) : Prop :=
  ∃ (j : Nat) (l : List Nat), i = .int .i64 (j : Int) ∧ j ≤ 4 ∧ Hid (l.length = 4 * k + j) ∧ Hid (∀ d ∈ l, d < 65536) ∧ Hid (Dg.val 65536 l = Dg.val Dg.W64 (ws.take k) + 65536 ^ (4 * k) * (x % 65536 ^ j)) ∧
    wr.ownsRow w.heap.size 3 1 v (4 * k + j) (cI l) ∧ Below w.heap.size w wr

set_option maxHeartbeats 800000 in
theorem of_any (ws : List Nat) (h : ∀ x ∈ ws, x < Dg.W64) (hlen : ws.length ≤ 1000000) (w : World) (v : Value) (hv : Rd w v (cU ws)) :
    Calls Tryz.prog 20 #[v] w (GotNat (Dg.val Dg.W64 ws) w) := by
  obtain ⟨A, c, rfl, hlc, hcm, hcell⟩ := hv.any
  rw [cU_len] at *
  obtain ⟨n, hn⟩ : ∃ n, n = ws.length := ⟨_, rfl⟩
  rw [← hn] at hlc hcell hlen ⊢
  have Hn := hide hn
  have Hh := hide h
  have Hc := hide hcell
  clear hn h hcell hv
  go_enter Tryz.func20, Tryz.ntmps20
  go_wp2_with fail
  go_loopw [3, 10] (OfOut ws w) (fun _ i _ => n - (intOf i).toNat)
  case atStart => exact ⟨0, [], rfl, by omega, rfl, by simp [Hid], rfl, made0, below1 _ _⟩
  case round =>
    obtain ⟨k, l, rfl, hk, hl, hd, hval, hown, hbel⟩ := hrel
    have hsz := hbel.size
    rw [← Hn.out] at hk
    by_cases hlt : k < n
    · obtain ⟨b, o, rfl, hb, hcl⟩ := Hc.out (by omega)
      have hck := (hbel.cell (p := ⟨b, o + k, none⟩) hb).trans (hcl k _ (cU_at (l := ws) (j := k) (by rw [← Hn.out]; omega)))
      obtain ⟨x, hx⟩ : ∃ x, x = ws.getD k 0 := ⟨_, rfl⟩
      rw [← hx] at hck
      have hxl : x < Dg.W64 := by
        rw [hx, List.getD_eq_getElem?_getD, List.getElem?_eq_getElem (by rw [← Hn.out]; exact hlt)]
        exact Hh.out _ (List.getElem_mem _)
      have hxl' : x ≤ 18446744073709551615 := by simp only [Dg.W64] at hxl; omega
      have Hx := hide hx
      have Hxl := hide hxl
      clear hx hcl hxl
      go_wp2_with fail
      go_loopw [3, 6] (OfIn ws k x w) (fun _ i _ => 4 - (intOf i).toNat)
      case atStart => exact ⟨0, l, rfl, by omega, by rw [Nat.add_zero]; exact hl, hd, by simpa [Nat.mod_one] using hval, hown, hbel⟩
      case round =>
        clear hck hown hsz hbel hl hd hval
        obtain ⟨j, l, rfl, hj, hl, hd, hval, hown, hbel⟩ := hrel
        have hsz := hbel.size
        by_cases hj4 : j < 4
        · go_wp2_with (at_builtin; refine appI _ rfl _ _ rfl w.heap.size _ (4 * k + j) l _ (x / 65536 ^ j % 65536) rfl rfl ?c1 hown ?c2 hsz ?_)
          case c2 => omega
          case c1 => exact of_digit hxl' j
          intro v1 w1 hown1 hb1
          go_wp2
          go_roundw
          case rel => exact ⟨j + 1, l ++ [x / 65536 ^ j % 65536], by go_num, by omega, by have := hl.out; simp [Hid]; omega, snoc_lt hd.out (Nat.mod_lt _ (by omega)), Dg.of_step x hl.out hval.out, hown1, hbel.trans hb1⟩
          case measure => simp [intOf]; omega
        · obtain rfl : j = 4 := by omega
          go_wp2
          go_roundw
          case rel =>
            refine ⟨k + 1, l, by go_num, by rw [← Hn.out]; omega, by have := hl.out; simp only [Hid]; omega, hd, ?_, hown, hbel⟩
            refine Dg.of_next (by rw [← Hn.out]; exact hlt) (by rw [← Hx.out]; exact Hxl.out) ?_
            rw [← Hx.out]
            exact hval.out
          case measure => simp [intOf]; omega
    · go_wp2_with (go_at_call 34; refine (trim_any l hd.out _ _ (Rd.of_own hown)).mono ?_; rintro e w' ⟨⟨v', rfl, hrd, _⟩, rfl⟩)
      go_ret
      refine ⟨v', rfl, ?_, hbel⟩
      have e := hval.out
      rw [Dg.val_take_all (by rw [← Hn.out]; omega)] at e
      rw [← e]
      exact hrd

/-- 'Len': how many bits. -/
def LenIn (d q : Nat) (n t : Value) : Prop := ∃ j y : Nat, n = .int .i64 ((16 * q + j : Nat) : Int) ∧ t = .int .i64 (y : Int) ∧ y < 65536 ∧ j ≤ 65536 ∧ Hid (j + Dg.bl y = Dg.bl d)
theorem bl_val_nil : (0 : Int) = ((Dg.bl (Dg.val 65536 []) : Nat) : Int) := by simp [Dg.val, Dg.bl_zero]
set_option maxHeartbeats 400000 in
theorem len_any (l : List Nat) (hcan : Dg.Can 65536 l) (hlen : l.length ≤ 10000000) (w : World) (v : Value) (hv : Rd w v (cI l)) :
    Calls Tryz.prog 50 #[v] w (fun e w' => e = .returned (.int .i64 ((Dg.bl (Dg.val 65536 l) : Nat) : Int)) ∧ w = w') := by
  rcases Nat.eq_zero_or_pos l.length with h0 | h0
  · have : l = [] := List.eq_nil_of_length_eq_zero h0
    subst this
    obtain ⟨A, c, rfl, hcm⟩ := hv.zero
    go_enter Tryz.func50, Tryz.ntmps50
    go_wp2
    go_ret
    exact ⟨ret_int bl_val_nil, rfl⟩
  · obtain ⟨b, o, c, rfl, hlc, hcm, hb, hcl⟩ := hv.pos (by rw [cI_len]; exact h0)
    rw [cI_len] at hlc ⊢
    have hck := hcl (l.length - 1) _ (cI_at (l := l) (j := l.length - 1) (by omega))
    have hbl := Dg.bl_can hcan h0
    have hdl : l.getD (l.length - 1) 0 < 65536 := by
      rw [List.getD_eq_getElem?_getD, List.getElem?_eq_getElem (by omega)]
      exact hcan.1 _ (List.getElem_mem _)
    obtain ⟨d, hd⟩ : ∃ d, d = l.getD (l.length - 1) 0 := ⟨_, rfl⟩
    rw [← hd] at hck hbl hdl
    obtain ⟨q, hn⟩ : ∃ q, l.length = q + 1 := ⟨l.length - 1, by omega⟩
    rw [hn, Nat.add_sub_cancel] at hck hbl
    rw [hn] at hlc hlen ⊢
    have Hbl := hide hbl
    clear hd hcl hv hbl hn hcan h0
    go_enter Tryz.func50, Tryz.ntmps50
    go_wp2_with fail
    go_loop [3, 4] (LenIn d q) (fun _ t => (intOf t).toNat)
    case atStart => exact ⟨0, d, by go_num, rfl, hdl, by omega, by simp [Hid]⟩
    case round =>
      obtain ⟨j, y, rfl, rfl, hy, hj, he⟩ := hrel
      rcases Nat.eq_zero_or_pos y with hy0 | hy0
      · subst hy0
        go_wp2
        go_ret
        refine ⟨ret_int ?_, rfl⟩
        have e := he.out
        rw [Dg.bl_zero] at e
        rw [Hbl.out]
        omega
      · go_wp2
        go_round
        case rel =>
          have e := he.out
          rw [Dg.bl_pos hy0] at e
          have e2 : Dg.bl d ≤ 16 := Dg.bl_le (by omega)
          exact ⟨j + 1, y / 2, by go_num, by go_num, by omega, by omega, by simp only [Hid]; omega⟩
        case measure => simp [intOf]; omega
end Go.Proofs.YtgooioafmddneabGreatDoor
