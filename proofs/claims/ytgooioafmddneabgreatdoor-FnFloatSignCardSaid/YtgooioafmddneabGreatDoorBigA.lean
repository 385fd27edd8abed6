/- The package's integers, each function by its contract: norm, low64, IsInt64, Int64, SetBits, makeInt. -/
import Derived.Test.YtgooioafmddneabGreatDoorSpecA
import Derived.Test.YtgooioafmddneabGreatDoorAsserts
namespace Go.Proofs.YtgooioafmddneabGreatDoor
open Go.RowKit

theorem infoW : (Tryz.prog.info? 110).map (fun i => (i.zero, i.size, i.bytes)) = some (some (.int .u64 0), 1, 8) := by kernel_rfl
abbrev W64 : Nat := Dg.W64
theorem W64_two : 2 ≤ W64 := by simp [W64, Dg.W64]

theorem norm_end {w : World} {A : Option Addr} {xs : List Nat} {k c : Nat} (h : ∀ d ∈ xs, d < W64) (hk : k ≤ xs.length) (hkc : k ≤ c) (hcm : c ≤ 9223372036854775807)
    (hs : Dg.val W64 (xs.take k) = Dg.val W64 xs) (hlast : 0 < k → xs.getD (k - 1) 0 ≠ 0)
    (hc : 0 < k → ∃ b o, A = some ⟨b, o, none⟩ ∧ b < w.heap.size ∧ ∀ j u, (cU xs)[j]? = some u → w.cell? ⟨b, o + j, none⟩ = some u) :
    Rd w (.slice A k c) (cU (Dg.digs W64 (Dg.val W64 xs))) := by
  have hcan : Dg.Can W64 (xs.take k) := by
    refine ⟨fun d hd => h d (List.mem_of_mem_take hd), fun e => ?_⟩
    rcases Nat.eq_zero_or_pos k with h0 | h0
    · subst h0; simp at e
    · have := hlast h0
      rw [List.getLast?_eq_getElem?] at e
      simp only [List.length_take, Nat.min_eq_left hk, List.getElem?_take, if_pos (show k - 1 < k by omega)] at e
      rw [List.getD_eq_getElem?_getD, e] at this
      exact this rfl
  have hd : Dg.digs W64 (Dg.val W64 xs) = xs.take k := by rw [← hs]; exact Dg.digs_val W64_two hcan
  have hl : (cU (xs.take k)).length = k := by rw [cU_len, List.length_take]; omega
  rw [hd]
  refine ⟨A, c, by rw [hl], by rw [hl]; exact hkc, by simpa [maxLen] using hcm, fun hn => ?_⟩
  obtain ⟨b, o, hA, hb, hcell⟩ := hc (by rw [hl] at hn; exact hn)
  refine ⟨b, o, hA, hb, fun j u hu => hcell j u ?_⟩
  simp only [cU, List.getElem?_map, List.getElem?_take] at hu ⊢
  split at hu
  · exact hu
  · simp at hu

set_option maxHeartbeats 400000 in
theorem norm_any (xs : List Nat) (h : ∀ d ∈ xs, d < W64) (w : World) (v : Value) (hv : Rd w v (cU xs)) :
    Calls Tryz.prog 48 #[v] w (fun e w' => (∃ v', e = .returned v' ∧ Rd w v' (cU (Dg.digs W64 (Dg.val W64 xs)))) ∧ w = w') := by
  obtain ⟨A, c, rfl, hlc, hcm, hcell⟩ := hv.any
  rw [cU_len] at *
  obtain ⟨n, hn⟩ : ∃ n, n = xs.length := ⟨_, rfl⟩
  rw [← hn] at hlc hcell ⊢
  have Hn := hide hn
  have Hh := hide h
  have Hc := hide hcell
  clear hn h hcell hv
  go_enter Tryz.func48, Tryz.ntmps48
  go_wp2
  go_loop [3] (fun a => ∃ k : Nat, k ≤ n ∧ a = .int .i64 (k : Int) ∧ Hid (Dg.val W64 (xs.take k) = Dg.val W64 xs)) (fun a => (intOf a).toNat)
  case atStart => exact ⟨n, Nat.le_refl _, rfl, by rw [Hn.out]; simp [Hid]⟩
  case round =>
    obtain ⟨k, hk, rfl, hs⟩ := hrel
    rcases Nat.eq_zero_or_pos k with h0 | h0
    · subst h0
      go_wp2
      go_ret
      refine ⟨⟨_, rfl, norm_end Hh.out (by rw [← Hn.out]; omega) (by omega) hcm hs.out (fun h => absurd h (by omega)) (fun h => absurd h (by omega))⟩, rfl⟩
    · obtain ⟨b, o, hA, hb, hcl⟩ := Hc.out (by omega)
      have hck := hcl (k - 1) _ (cU_at (l := xs) (j := k - 1) (by rw [← Hn.out]; omega))
      obtain ⟨d, hd⟩ : ∃ d, d = xs.getD (k - 1) 0 := ⟨_, rfl⟩
      rw [← hd] at hck
      have Hd := hide hd
      have Hcl := hide hcl
      have hc0 : 0 < c := by omega
      subst hA
      clear hd hcl
      rcases Nat.eq_zero_or_pos d with h1 | h1
      · subst h1
        go_wp2
        go_round
        case rel => exact ⟨k - 1, by omega, by go_num, Dg.trim_step h0 (by rw [← Hn.out]; exact hk) Hd.out hs.out⟩
        case measure => simp [intOf]; omega
      · have hdb : ((d : Int) == 0) = false := by simp; omega
        go_wp2
        go_ret
        refine ⟨⟨_, rfl, norm_end Hh.out (by rw [← Hn.out]; omega) (by omega) hcm hs.out (fun _ => by rw [← Hd.out]; omega) (fun _ => ⟨b, o, rfl, hb, Hcl.out⟩)⟩, rfl⟩

/-- At the address a word and a slice: an integer of the package's: its sign, and the words of its magnitude. -/
def BigAt (w : World) (g o : Nat) (neg : Bool) (n : Nat) : Prop :=
  w.cell? ⟨g, o, none⟩ = some (.bool neg) ∧ ∃ s, w.cell? ⟨g, o + 1, none⟩ = some s ∧ Rd w s (cU (Dg.digs W64 n))

theorem BigAt.below {w w' : World} {g o : Nat} {neg : Bool} {n : Nat} (h : BigAt w g o neg n) (hb : Below w.heap.size w w') : BigAt w' g o neg n := by
  obtain ⟨h1, s, h2, h3⟩ := h
  have hg := World.block_lt_of_cell? w _ h1
  exact ⟨(hb.cell hg).trans h1, s, (hb.cell (p := ⟨g, o + 1, none⟩) hg).trans h2, h3.below hb⟩

set_option maxHeartbeats 400000 in
theorem low64_any (xs : List Nat) (h : ∀ d ∈ xs, d < W64) (w : World) (v : Value) (hv : Rd w v (cU xs)) :
    Calls Tryz.prog 55 #[v] w (fun e w' => e = .returned (.int .u64 ((xs.getD 0 0 : Nat) : Int)) ∧ w = w') := by
  rcases Nat.eq_zero_or_pos xs.length with h0 | h0
  · have : xs = [] := List.eq_nil_of_length_eq_zero h0
    subst this
    obtain ⟨A, c, rfl, hcm⟩ := hv.zero
    go_enter Tryz.func55, Tryz.ntmps55
    go_wp2
    go_ret
    exact ⟨rfl, rfl⟩
  · obtain ⟨b, o, c, rfl, hlc, hcm, hb, hcl⟩ := hv.pos (by rw [cU_len]; exact h0)
    rw [cU_len] at hlc ⊢
    have hck := hcl 0 _ (cU_at (l := xs) (j := 0) h0)
    rw [Nat.add_zero] at hck
    have hx := Dg.getD_lt (B := W64) (by simp [W64, Dg.W64]) h 0
    generalize xs.getD 0 0 = x at *
    have hx' : x ≤ 18446744073709551615 := by simp only [W64, Dg.W64] at hx; omega
    obtain ⟨n, hn⟩ : ∃ n, n = xs.length := ⟨_, rfl⟩
    rw [← hn] at h0 hlc ⊢
    clear hx h hcl hv hn
    go_enter Tryz.func55, Tryz.ntmps55
    go_wp2
    go_ret
    exact ⟨rfl, rfl⟩
theorem low_word (n : Nat) : (Dg.digs W64 n).getD 0 0 = n % W64 := by rw [Dg.digs_getD W64_two]; simp

/-- The number of a sign and a magnitude fits an int64. -/
def fits64 (neg : Bool) (n : Nat) : Bool := decide (n < 9223372036854775808) || (neg && decide (n = 9223372036854775808))
def sgn (neg : Bool) (n : Nat) : Int := if neg then -(n : Int) else (n : Int)

theorem len_le_one {n : Nat} : (Dg.digs W64 n).length ≤ 1 ↔ n < W64 := by
  constructor
  · intro h
    have h1 := Dg.lt_pow_digs W64_two n
    have h2 : W64 ^ (Dg.digs W64 n).length ≤ W64 ^ 1 := Nat.pow_le_pow_right (by simp [W64, Dg.W64]) h
    rw [Nat.pow_one] at h2
    omega
  · intro h
    exact Dg.digs_len_le W64_two (by rw [Nat.pow_one]; exact h)
set_option maxHeartbeats 800000 in
theorem isInt64_any (w : World) (g o : Nat) (neg : Bool) (n : Nat) (h : BigAt w g o neg n) (hlen : (Dg.digs W64 n).length ≤ 1000000) :
    Calls Tryz.prog 37 #[.pointer (some ⟨g, o, none⟩)] w (fun e w' => e = .returned (.bool (fits64 neg n)) ∧ w = w') := by
  obtain ⟨h1, s, h2, h3⟩ := h
  obtain ⟨A, c, rfl, hlc, hcm, _⟩ := h3.any
  rw [cU_len] at *
  have hl1 := @len_le_one n
  have C := hide (low64_any (Dg.digs W64 n) (Dg.digs_lt W64_two n) w _ h3)
  rw [low_word] at C
  generalize (Dg.digs W64 n).length = k at *
  have W := show W64 = 18446744073709551616 from rfl
  by_cases hn : n < W64
  · have hk1 : k ≤ 1 := hl1.2 hn
    rw [Nat.mod_eq_of_lt hn] at C
    have hk2 := hide h3
    clear h3 hl1
    by_cases hs : n < 9223372036854775808
    · have hf : fits64 neg n = true := by simp [fits64, hs]
      rw [hf]
      have hn' : n ≤ 9223372036854775807 := by omega
      clear hf hs hn W
      go_enter Tryz.func37, Tryz.ntmps37
      go_wp2_with (go_at_call 55; refine C.out.mono ?_; rintro e w' ⟨rfl, rfl⟩)
      go_ret
      exact ⟨rfl, rfl⟩
    · obtain ⟨x, hx⟩ : ∃ x : Int, x = (n : Int) - 18446744073709551616 := ⟨_, rfl⟩
      have hw : wrap64 (n : Int) = x := by unfold wrap64; omega
      have hx0 : x < 0 := by omega
      have hxl : -9223372036854775808 ≤ x := by omega
      by_cases he : n = 9223372036854775808
      · have hf : fits64 neg n = neg := by simp [fits64, he]
        rw [hf]
        have hx1 : (x == wrap64 (-x)) = true := by
          have : x = wrap64 (-x) := by unfold wrap64; omega
          simpa using this
        clear hf hs hn W he hx hxl
        cases neg
        · go_enter Tryz.func37, Tryz.ntmps37
          go_wp2_with (go_at_call 55; refine C.out.mono ?_; rintro e w' ⟨rfl, rfl⟩)
          go_ret
          exact ⟨ret_bool (by simpa using hx0), rfl⟩
        · go_enter Tryz.func37, Tryz.ntmps37
          go_wp2_with (go_at_call 55; refine C.out.mono ?_; rintro e w' ⟨rfl, rfl⟩)
          go_ret
          exact ⟨rfl, rfl⟩
      · have hf : fits64 neg n = false := by simp [fits64, he]; omega
        rw [hf]
        have hxl' : -9223372036854775807 ≤ x := by omega
        have hx1 : (x == -x) = false := by simp; omega
        clear hf hs hn W he hx hxl
        cases neg
        · go_enter Tryz.func37, Tryz.ntmps37
          go_wp2_with (go_at_call 55; refine C.out.mono ?_; rintro e w' ⟨rfl, rfl⟩)
          go_ret
          exact ⟨ret_bool (by simpa using hx0), rfl⟩
        · go_enter Tryz.func37, Tryz.ntmps37
          go_wp2_with (go_at_call 55; refine C.out.mono ?_; rintro e w' ⟨rfl, rfl⟩)
          go_ret
          exact ⟨ret_bool (by simpa using hx0), rfl⟩
  · have hk1 : 1 < k := by
      rcases Nat.lt_or_ge 1 k with h | h
      · exact h
      · exact absurd (hl1.1 h) hn
    have hf : fits64 neg n = false := by simp [fits64]; omega
    rw [hf]
    have hk2 := hide h3
    clear h3 hl1 hf W hn C
    go_enter Tryz.func37, Tryz.ntmps37
    go_wp2
    go_ret
    exact ⟨rfl, rfl⟩

set_option maxHeartbeats 800000 in
/-- 'Int64', of a number that fits. -/
theorem int64_any (w : World) (g o : Nat) (neg : Bool) (n : Nat) (h : BigAt w g o neg n) (hf : fits64 neg n = true) :
    Calls Tryz.prog 38 #[.pointer (some ⟨g, o, none⟩)] w (fun e w' => e = .returned (.int .i64 (sgn neg n)) ∧ w = w') := by
  obtain ⟨h1, s, h2, h3⟩ := h
  have C := hide (low64_any (Dg.digs W64 n) (Dg.digs_lt W64_two n) w _ h3)
  obtain ⟨A, c, rfl, hlc, hcm, _⟩ := h3.any
  rw [low_word] at C
  have W := show W64 = 18446744073709551616 from rfl
  have hn : n ≤ 9223372036854775808 ∧ (n = 9223372036854775808 → neg = true) := by
    simp only [fits64, Bool.or_eq_true, decide_eq_true_eq, Bool.and_eq_true] at hf
    exact ⟨by omega, fun e => by rcases hf with hf | hf; omega; exact hf.1⟩
  rw [Nat.mod_eq_of_lt (by omega)] at C
  have hk := hide h3
  clear h3
  generalize (cU (Dg.digs W64 n)).length = k at *
  by_cases he : n = 9223372036854775808
  · have hng := hn.2 he
    subst hng
    have hs : sgn true n = -9223372036854775808 := by simp only [sgn, if_pos]; omega
    rw [hs]
    obtain ⟨x, hx⟩ : ∃ x : Int, x = -9223372036854775808 := ⟨_, rfl⟩
    rw [← hx]
    have hw : wrap64 (n : Int) = x := by unfold wrap64; omega
    have hx1 : wrap64 (-x) = x := by unfold wrap64; omega
    clear hf hn W he hx hs
    go_enter Tryz.func38, Tryz.ntmps38
    go_wp2_with (go_at_call 55; refine C.out.mono ?_; rintro e w' ⟨rfl, rfl⟩)
    go_ret
    exact ⟨ret_int hx1, rfl⟩
  · have hn' : n ≤ 9223372036854775807 := by omega
    clear hf hn W he
    cases neg
    · have hs : sgn false n = (n : Int) := by simp [sgn]
      rw [hs]
      clear hs
      go_enter Tryz.func38, Tryz.ntmps38
      go_wp2_with (go_at_call 55; refine C.out.mono ?_; rintro e w' ⟨rfl, rfl⟩)
      go_ret
      exact ⟨rfl, rfl⟩
    · have hs : sgn true n = -(n : Int) := by simp [sgn]
      rw [hs]
      clear hs
      go_enter Tryz.func38, Tryz.ntmps38
      go_wp2_with (go_at_call 55; refine C.out.mono ?_; rintro e w' ⟨rfl, rfl⟩)
      go_ret
      exact ⟨rfl, rfl⟩

/-- A constant of Kind Int: an int64, or (where it does not fit) an integer of the package's behind a pointer. -/
def ConstInt (w : World) (v : Value) (z : Int) : Prop :=
  (v = .iface 43 (.int .i64 z) ∧ -9223372036854775808 ≤ z ∧ z ≤ 9223372036854775807) ∨
  ∃ g o neg n, v = .iface 46 (.agg #[.pointer (some ⟨g, o, none⟩)]) ∧ BigAt w g o neg n ∧ fits64 neg n = false ∧ z = sgn neg n
theorem ConstInt.below {w w' : World} {v : Value} {z : Int} (h : ConstInt w v z) (hb : Below w.heap.size w w') : ConstInt w' v z := by
  rcases h with h | ⟨g, o, neg, n, h1, h2, h3⟩
  · exact .inl h
  · exact .inr ⟨g, o, neg, n, h1, h2.below hb, h3⟩
theorem sgn_bounds {neg : Bool} {n : Nat} (hf : fits64 neg n = true) : -9223372036854775808 ≤ sgn neg n ∧ sgn neg n ≤ 9223372036854775807 := by
  simp only [fits64, Bool.or_eq_true, decide_eq_true_eq, Bool.and_eq_true] at hf
  cases neg <;> simp [sgn] at hf ⊢ <;> omega
set_option maxHeartbeats 800000 in
theorem makeInt_any (w : World) (g o : Nat) (neg : Bool) (n : Nat) (h : BigAt w g o neg n) (hlen : (Dg.digs W64 n).length ≤ 1000000) :
    Calls Tryz.prog 26 #[.pointer (some ⟨g, o, none⟩)] w (fun e w' => (∃ v, e = .returned v ∧ ConstInt w v (sgn neg n)) ∧ w = w') := by
  have C1 := hide (isInt64_any w g o neg n h hlen)
  have C2 := hide (int64_any w g o neg n h)
  have H := hide h
  cases hf : fits64 neg n with
  | true =>
    rw [hf] at C1
    have C3 := hide (C2.out hf)
    have Hf := hide (sgn_bounds hf)
    generalize sgn neg n = z at *
    clear h hf C2 hlen
    go_enter Tryz.func26, Tryz.ntmps26
    go_wp2_with (first | (go_at_call 37; refine C1.out.mono ?_; rintro e w' ⟨rfl, rfl⟩) | (go_at_call 38; refine C3.out.mono ?_; rintro e w' ⟨rfl, rfl⟩))
    go_ret
    exact ⟨⟨_, rfl, .inl ⟨rfl, Hf.out⟩⟩, rfl⟩
  | false =>
    rw [hf] at C1
    have Hf := hide hf
    clear h hf C2 hlen
    go_enter Tryz.func26, Tryz.ntmps26
    go_wp2_with (go_at_call 37; refine C1.out.mono ?_; rintro e w' ⟨rfl, rfl⟩)
    go_ret
    exact ⟨⟨_, rfl, .inr ⟨g, o, neg, n, rfl, H.out, Hf.out, rfl⟩⟩, rfl⟩

set_option maxHeartbeats 800000 in
/-- 'SetBits', of an integer whose block is known. -/
theorem setBits_any (xs : List Nat) (h : ∀ d ∈ xs, d < W64) (w : World) (v : Value) (hv : Rd w v (cU xs)) (g o : Nat) (b0 : Bool) (s0 : Value) (c0 : w.cell? ⟨g, o, none⟩ = some (.bool b0)) (c1 : w.cell? ⟨g, o + 1, none⟩ = some s0)
    (f0 : w.frozen? ⟨g, o, none⟩ = false) (f1 : w.frozen? ⟨g, o + 1, none⟩ = false) :
    Calls Tryz.prog 32 #[.pointer (some ⟨g, o, none⟩), v] w (fun e w' => e = .returned (.pointer (some ⟨g, o, none⟩)) ∧ ∃ s, Rd w s (cU (Dg.digs W64 (Dg.val W64 xs))) ∧ w' = (w.setCell ⟨g, o + 1, none⟩ s).setCell ⟨g, o, none⟩ (.bool false)) := by
  go_enter Tryz.func32, Tryz.ntmps32
  go_wp2_with (go_at_call 48; refine (norm_any xs h w v hv).mono ?_; rintro e w' ⟨⟨s, rfl, hs⟩, rfl⟩; obtain ⟨A, n, c, rfl⟩ := hs.shape)
  go_ret
  exact ⟨rfl, _, hs, rfl⟩

/-- A new integer: a block of its own, 0. -/
def newIntObj : Obj := .cells #[.bool false, .slice none 0 0] 70
/-- 'SetBits', of a new integer: its block, and what it is behind the call. -/
theorem setNew_any (xs : List Nat) (h : ∀ d ∈ xs, d < W64) (w : World) (v : Value) (hv : Rd w v (cU xs)) (g : Nat) (hb : Blk w g 70 #[.bool false, .slice none 0 0]) :
    Calls Tryz.prog 32 #[.pointer (some ⟨g, 0, none⟩), v] w (fun e w' => e = .returned (.pointer (some ⟨g, 0, none⟩)) ∧ BigAt w' g 0 false (Dg.val W64 xs) ∧ w.grownBy w' (some g)) := by
  refine (setBits_any xs h w v hv g 0 false (.slice none 0 0) (hb.cell 0) (hb.cell 1) (hb.frozen 0) (hb.frozen 1)).mono ?_
  rintro e w' ⟨he, s, hs, rfl⟩
  have hg : w.grownBy ((w.setCell ⟨g, 1, none⟩ s).setCell ⟨g, 0, none⟩ (.bool false)) (some g) :=
    only_setCell (p := ⟨g, 0, none⟩) (only_setCell (p := ⟨g, 1, none⟩) (World.grownBy.refl w _) (.inl rfl) _) (.inl rfl) _
  have hni : ∀ (i : Nat) (y : Value), (#[Value.bool false, Value.slice none 0 0] : Array Value)[i]? = some y → noInt y = true := by
    intro i y hy
    match i, hy with
    | 0, hy => simp at hy; subst hy; rfl
    | 1, hy => simp at hy; subst hy; rfl
  have hb2 := (hb.set_ 1 s).set_ 0 (.bool false)
  exact ⟨he, ⟨hb2.cell 0, s, hb2.cell 1, hs.keepInts (cU_int _) hb hni hg⟩, hg⟩
end Go.Proofs.YtgooioafmddneabGreatDoor
