/- What the package tells of a constant of Kind Int: its sign, how many bits it has, and it as an int64 or a uint64, by contract. -/
import Derived.Test.YtgooioafmddneabGreatDoorBigA
import Derived.Test.YtgooioafmddneabGreatDoorBits
namespace Go.Proofs.YtgooioafmddneabGreatDoor
open Go.RowKit

theorem quiet_left {P : Program} {f : FuncId} {args : Array Value} {w : World} {n : Nat} {v : Value}
    (h : Calls P f args (w.drewN n) fun e w' => e = .returned v ∧ w.drewN n = w') : Calls P f args (w.drewN n) fun e w'' => e = .returned v ∧ ∃ m, w'' = w.drewN m :=
  h.mono fun _ _ ⟨he, hm⟩ => ⟨he, n, hm.symm⟩
def sgnI (z : Int) : Int := if z < 0 then -1 else if z = 0 then 0 else 1
theorem big_pos {neg : Bool} {n : Nat} (h : fits64 neg n = false) : 9223372036854775808 ≤ n := by
  simp only [fits64, Bool.or_eq_false_iff, decide_eq_false_iff_not] at h
  omega
theorem big_len {n : Nat} (h : 0 < n) : 0 < (Dg.digs W64 n).length := Dg.digs_len_pos W64_two h
set_option maxHeartbeats 800000 in
theorem bigSign_any (w : World) (g o : Nat) (neg : Bool) (n : Nat) (h : BigAt w g o neg n) (hn : neg = true → 0 < n) :
    Calls Tryz.prog 14 #[.pointer (some ⟨g, o, none⟩)] w (fun e w' => e = .returned (.int .i64 (sgnI (sgn neg n))) ∧ w = w') := by
  obtain ⟨h1, s, h2, h3⟩ := h
  obtain ⟨A, c, rfl, hlc, hcm, _⟩ := h3.any
  rw [cU_len] at h2 hlc
  clear h3
  rcases Nat.eq_zero_or_pos n with h0 | h0
  · have hng : neg = false := by
      cases neg
      · rfl
      · exact absurd (hn rfl) (by omega)
    subst hng h0
    rw [Dg.digs_zero] at h2 hlc
    clear hn
    go_enter Tryz.func14, Tryz.ntmps14
    go_wp2
    go_ret
    exact ⟨rfl, rfl⟩
  · have hl := big_len h0
    generalize (Dg.digs W64 n).length = k at *
    cases neg
    · have hs : sgnI (sgn false n) = 1 := by simp [sgnI, sgn]; omega
      rw [hs]
      clear hs hn h0
      go_enter Tryz.func14, Tryz.ntmps14
      go_wp2
      go_ret
      exact ⟨rfl, rfl⟩
    · have hs : sgnI (sgn true n) = -1 := by simp [sgnI, sgn]; omega
      rw [hs]
      clear hs hn h0
      go_enter Tryz.func14, Tryz.ntmps14
      go_wp2
      go_ret
      exact ⟨rfl, rfl⟩
set_option maxHeartbeats 1600000 in
theorem sign_any (w : World) (v : Value) (z : Int) (h : ConstInt w v z) :
    Calls Tryz.prog 10 #[v] w (fun e w' => e = .returned (.int .i64 (sgnI z)) ∧ Below w.heap.size w w') := by
  rcases h with ⟨rfl, h1, h2⟩ | ⟨g, o, neg, m, rfl, hbig, hf, rfl⟩
  · rcases Int.lt_trichotomy z 0 with h0 | h0 | h0
    · have hs : sgnI z = -1 := by simp [sgnI, h0]
      rw [hs]
      clear hs
      go_enter Tryz.func10, Tryz.ntmps10
      go_wp2
      go_ret
      exact ⟨rfl, Below.refl _ _⟩
    · subst h0
      go_enter Tryz.func10, Tryz.ntmps10
      go_wp2
      go_ret
      exact ⟨rfl, Below.refl _ _⟩
    · have hs : sgnI z = 1 := by simp [sgnI]; omega
      rw [hs]
      clear hs
      go_enter Tryz.func10, Tryz.ntmps10
      go_wp2
      go_ret
      exact ⟨rfl, Below.refl _ _⟩
  · have C := hide (bigSign_any (w.alloc (.cells #[.pointer (some ⟨g, o, none⟩)] 46)) g o neg m (hbig.below (below1 _ _)) (fun _ => by have := big_pos hf; omega))
    generalize sgnI (sgn neg m) = z at *
    clear hbig hf
    go_enter Tryz.func10, Tryz.ntmps10
    go_wp2_with (go_at_call 14; refine C.out.mono ?_; rintro e w' ⟨rfl, rfl⟩)
    go_ret
    exact ⟨rfl, below1 _ _⟩
set_option maxHeartbeats 400000 in
theorem lenW_any (n : Nat) (w : World) (h : n ≤ 18446744073709551615) :
    Calls Tryz.prog 71 #[.int .u64 (n : Int)] w fun e w' => e = .returned (.int .i64 ((Dg.bl n : Nat) : Int)) ∧ w = w' := by
  have hb := bl_le64 h
  have C := hide (len64_any n (n : Int) rfl w h)
  go_enter Tryz.func71, Tryz.ntmps71
  go_wp2_with (go_at_call 82; refine C.out.mono ?_; rintro e w' ⟨rfl, rfl⟩)
  go_ret
  exact ⟨rfl, rfl⟩
theorem or_shift (x c : Nat) (C : Int) (hC : C = (c : Int)) (hx : x ≤ 18446744073709551615) : ∃ y : Nat, bits .or .u64 (x : Int) ((x : Int) / C) = (y : Int) ∧ y ≤ 18446744073709551615 ∧ Hid (Dg.bl y = Dg.bl x) := by
  subst hC
  have h1 : x / c ≤ x := Nat.div_le_self _ _
  have e : ((x : Int) / (c : Int)) = ((x / c : Nat) : Int) := by rw [Int.natCast_ediv]
  refine ⟨x ||| x / c, ?_, ?_, Dg.bl_or h1⟩
  · rw [e, u64_or_nat _ _ (by omega) (by omega)]
  · have : x ||| x / c < 2 ^ 64 := Nat.or_lt_two_pow (by omega) (by omega)
    omega
set_option maxHeartbeats 1600000 in
theorem natBitLen_any (l : List Nat) (h : Dg.Can W64 l) (hlen : l.length ≤ 1000000) (w : World) (v : Value) (hv : Rd w v (cU l)) :
    Calls Tryz.prog 63 #[v] w (fun e w' => e = .returned (.int .i64 ((Dg.bl (Dg.val W64 l) : Nat) : Int)) ∧ w = w') := by
  rcases Nat.eq_zero_or_pos l.length with h0 | h0
  · have : l = [] := List.eq_nil_of_length_eq_zero h0
    subst this
    obtain ⟨A, c, rfl, hcm⟩ := hv.zero
    go_enter Tryz.func63, Tryz.ntmps63
    go_wp2
    go_ret
    exact ⟨ret_int (by simp [Dg.val, Dg.bl_zero]), rfl⟩
  · obtain ⟨b, o, c, rfl, hlc, hcm, hb, hcl⟩ := hv.pos (by rw [cU_len]; exact h0)
    rw [cU_len] at hlc ⊢
    have hck := hcl (l.length - 1) _ (cU_at (l := l) (j := l.length - 1) (by omega))
    have hbl := Dg.bl_canW h h0
    have hdl := Dg.getD_lt (by simp [W64, Dg.W64]) h.1 (l.length - 1)
    obtain ⟨d, hd⟩ : ∃ d, d = l.getD (l.length - 1) 0 := ⟨_, rfl⟩
    rw [← hd] at hck hbl hdl
    have hdl' : d ≤ 18446744073709551615 := by have W := show W64 = 18446744073709551616 from rfl; omega
    obtain ⟨q, hn⟩ : ∃ q, l.length = q + 1 := ⟨l.length - 1, by omega⟩
    rw [hn, Nat.add_sub_cancel] at hck hbl
    rw [hn] at hlc hlen ⊢
    obtain ⟨y1, e1, l1, b1⟩ := or_shift d 2 2 rfl hdl'
    obtain ⟨y2, e2, l2, b2⟩ := or_shift y1 4 4 rfl l1
    obtain ⟨y3, e3, l3, b3⟩ := or_shift y2 16 16 rfl l2
    obtain ⟨y4, e4, l4, b4⟩ := or_shift y3 256 256 rfl l3
    obtain ⟨y5, e5, l5, b5⟩ := or_shift y4 65536 65536 rfl l4
    obtain ⟨y6, e6, l6, b6⟩ := or_shift y5 4294967296 4294967296 rfl l5
    have Hbl : Hid (Dg.bl (Dg.val W64 l) = 64 * q + Dg.bl y6) := by simp only [Hid]; rw [b6.out, b5.out, b4.out, b3.out, b2.out, b1.out]; exact hbl
    have e6' : bits .or .u64 (y5 : Int) ((y5 : Int) / 65536 / 65536) = (y6 : Int) := by rw [← e6]; congr 1; omega
    have C := hide (lenW_any y6 w l6)
    have hb64 := bl_le64 l6
    clear hd hcl hv hbl hn h h0 hdl e6 b1 b2 b3 b4 b5 b6
    go_enter Tryz.func63, Tryz.ntmps63
    go_wp2_with (go_at_call 71; refine C.out.mono ?_; rintro e w' ⟨rfl, rfl⟩)
    go_ret
    exact ⟨ret_int (by rw [Hbl.out]; omega), rfl⟩
set_option maxHeartbeats 800000 in
theorem bigBitLen_any (w : World) (g o : Nat) (neg : Bool) (n : Nat) (h : BigAt w g o neg n) (hlen : (Dg.digs W64 n).length ≤ 1000000) :
    Calls Tryz.prog 56 #[.pointer (some ⟨g, o, none⟩)] w (fun e w' => e = .returned (.int .i64 ((Dg.bl n : Nat) : Int)) ∧ w = w') := by
  obtain ⟨h1, s, h2, h3⟩ := h
  have C := hide (natBitLen_any (Dg.digs W64 n) (Dg.can_digs W64_two n) hlen w s h3)
  rw [Dg.val_digs W64_two] at C
  obtain ⟨A, k, c, rfl⟩ := h3.shape
  clear h3 hlen
  go_enter Tryz.func56, Tryz.ntmps56
  go_wp2_with (go_at_call 63; refine C.out.mono ?_; rintro e w' ⟨rfl, rfl⟩)
  go_ret
  exact ⟨rfl, rfl⟩
end Go.Proofs.YtgooioafmddneabGreatDoor
