/- The package's Shift of an int64; the reference's Shifted. -/
import Derived.Test.YtgooioafmddneaaLshN
import Derived.Test.YtgooioafmddneaaSpecD
import Derived.Test.YtgooioafmddneaaSpecE
import Derived.Test.YtgooioafmddneaaSpecF
import Derived.Test.YtgooioafmddneaaSpecG
import Derived.Test.YtgooioafmddneaaMathD
import Derived.Test.YtgooioafmddneaaConstB
import Derived.Deep.RegionWith
import Derived.Deep.RegionHeld3
namespace Go.Proofs.Ytgooioafmddneaa
open Go.RowKit
theorem natLsh_any (u s : Nat) (hu : u < W64) (h1 : 1 ≤ s) (h2 : s ≤ 300) (w : World) (b o : Nat) (hb : b < w.heap.size) (hx : w.cell? ⟨b, o, none⟩ = some (.int .u64 (u : Int))) :
    Calls Try.prog 31 #[.slice (some ⟨b, o, none⟩) 1 1, .slice (some ⟨b, o, none⟩) 1 1, .int .u64 (s : Int)] w (fun e w' => ∃ v, e = .returned v ∧ Rd w' v (cU (Dg.digs W64 (u * 2 ^ s))) ∧ Below w.heap.size w w') := by
  have hr : s % 64 < 64 := Nat.mod_lt _ (by omega)
  rcases (by omega : s / 64 = 0 ∨ s / 64 = 1 ∨ s / 64 = 2 ∨ s / 64 = 3 ∨ s / 64 = 4) with h | h | h | h | h
  · exact natLsh_0 u (s % 64) hu hr s (by omega) h1 w b o hb hx
  · exact natLsh_1 u (s % 64) hu hr s (by omega) h1 w b o hb hx
  · exact natLsh_2 u (s % 64) hu hr s (by omega) h1 w b o hb hx
  · exact natLsh_3 u (s % 64) hu hr s (by omega) h1 w b o hb hx
  · exact natLsh_4 u (s % 64) hu hr s (by omega) h1 w b o hb hx
theorem natLsh_nil (s : Nat) (h1 : 1 ≤ s) (w : World) : Calls Try.prog 31 #[.slice none 0 0, .slice none 0 0, .int .u64 (s : Int)] w (fun e w' => e = .returned (.slice none 0 0) ∧ w' = w) := by
  have hs0 : ¬ (s : Int) = 0 := by omega
  go_enter Try.func31, Try.ntmps31
  go_wp2
  go_ret
  exact ⟨rfl, rfl⟩
theorem bigOf_sets {w1 : World} {g : Nat} {neg b0 : Bool} {A A0 : Option Addr} {k c k0 c0 n : Nat} (hb : Blk w1 g 66 #[.bool b0, .slice A0 k0 c0]) (hr : Rd w1 (.slice A k c) (cU (Dg.digs W64 n))) :
    BigAt ((w1.setCell ⟨g, 1, none⟩ (.slice A k c)).setCell ⟨g, 0, none⟩ (.bool neg)) g 0 neg n := by
  have hg : w1.grownBy ((w1.setCell ⟨g, 1, none⟩ (.slice A k c)).setCell ⟨g, 0, none⟩ (.bool neg)) (some g) :=
    only_setCell (p := ⟨g, 0, none⟩) (only_setCell (p := ⟨g, 1, none⟩) (World.grownBy.refl w1 _) (.inl rfl) _) (.inl rfl) _
  have hb2 := (hb.set_ 1 (.slice A k c)).set_ 0 (.bool neg)
  refine ⟨by simpa using hb2.cell 0, _, by simpa using hb2.cell 1, hr.keepInts (cU_int _) hb (fun i y hy => ?_) hg⟩
  match i, hy with
  | 0, hy => simp at hy; subst hy; rfl
  | 1, hy => simp at hy; subst hy; rfl
  | (_ + 2), hy => simp at hy
set_option maxHeartbeats 1600000 in
theorem bigLsh_one (u s : Nat) (hu : u < W64) (h1 : 1 ≤ s) (h2 : s ≤ 300) (neg : Bool) (w : World) (g b : Nat) (hb : Blk w g 66 #[.bool neg, .slice (some ⟨b, 0, none⟩) 1 1]) (hx : w.cell? ⟨b, 0, none⟩ = some (.int .u64 (u : Int))) :
    Calls Try.prog 23 #[.pointer (some ⟨g, 0, none⟩), .pointer (some ⟨g, 0, none⟩), .int .u64 (s : Int)] w (fun e w' => e = .returned (.pointer (some ⟨g, 0, none⟩)) ∧ BigAt w' g 0 neg (u * 2 ^ s) ∧ Below g w w') := by
  have C := hide (natLsh_any u s hu h1 h2 w.drew b 0 (World.block_lt_of_cell? _ _ hx) hx)
  have c1 := hb.cell 1
  have f1 := hb.frozen 1
  simp only [List.getElem?_toArray, List.getElem?_cons_zero, List.getElem?_cons_succ] at c1
  have Hb := hide hb.drew
  have Hlt := hide hb.lt
  generalize u * 2 ^ s = N at *
  clear hb hx hu h1 h2
  go_enter Try.func23, Try.ntmps23
  go_upto_region 1 with fail
  go_region_with ((go_at_call 31; refine C.out.mono ?_; rintro e w1 ⟨v, rfl, hr, hb1⟩; obtain ⟨A, k, c, rfl⟩ := hr.shape; have hk1 := Hb.out.below hb1 Hlt.out; have y0 := hk1.cell 0; have y1 := hk1.cell 1; have q0 := hk1.frozen 0; have q1 := hk1.frozen 1; simp only [List.getElem?_toArray, List.getElem?_cons_zero, List.getElem?_cons_succ] at y0 y1; have Hk1 := hide hk1; have Hr := hide hr; have HB1 := hide hb1; clear hk1 hr hb1))
  all_goals
    go_wp2
    go_ret
    exact ⟨rfl, bigOf_sets Hk1.out Hr.out, ((((Below.refl g w).drew.trans (HB1.out.mono (Nat.le_of_lt Hlt.out))).setCell (Nat.le_refl _) _).setCell (Nat.le_refl _) _)⟩
set_option maxHeartbeats 1600000 in
theorem bigLsh_zero (s : Nat) (h1 : 1 ≤ s) (w : World) (g : Nat) (hb : Blk w g 66 #[.bool false, .slice none 0 0]) :
    Calls Try.prog 23 #[.pointer (some ⟨g, 0, none⟩), .pointer (some ⟨g, 0, none⟩), .int .u64 (s : Int)] w (fun e w' => e = .returned (.pointer (some ⟨g, 0, none⟩)) ∧ BigAt w' g 0 false 0 ∧ Below g w w') := by
  have C := hide (natLsh_nil s h1)
  have c0 := hb.cell 0
  have c1 := hb.cell 1
  have f0 := hb.frozen 0
  have f1 := hb.frozen 1
  simp only [List.getElem?_toArray, List.getElem?_cons_zero, List.getElem?_cons_succ] at c0 c1
  have Hb := hide hb.drew
  have Hlt := hide hb.lt
  clear hb h1
  go_enter Try.func23, Try.ntmps23
  go_upto_region 1 with fail
  go_region_with ((go_at_call 31; refine (C.out _).mono ?_; rintro e w1 ⟨rfl, rfl⟩))
  all_goals
    go_wp2
    go_ret
    refine ⟨rfl, bigOf_sets Hb.out ?_, ((Below.refl g w).drew.setCell (Nat.le_refl _) _).setCell (Nat.le_refl _) _⟩
    rw [show Dg.digs W64 0 = [] by simp [Dg.digs]]
    exact Rd.nil_ _ _ _ (Nat.zero_le _)
theorem shl_sgn (a : Int) (k : Nat) : sgn (decide (a < 0)) (a.natAbs * 2 ^ k) = a * 2 ^ k := by
  have e : ((2 : Int) ^ k) = ((2 ^ k : Nat) : Int) := by rw [Int.natCast_pow]; rfl
  rw [e]
  generalize 2 ^ k = P
  by_cases h : a < 0
  · simp only [sgn, h, decide_true, if_true, Int.natCast_mul]
    rw [← Int.neg_mul]; congr 1; omega
  · simp only [sgn, h, decide_false, Bool.false_eq_true, if_false, Int.natCast_mul]
    congr 1; omega
theorem pow_le_W {k n : Nat} (h : k ≤ 64 * n) : 2 ^ k ≤ W64 ^ n := by
  rw [show W64 = 2 ^ 64 from rfl, ← Nat.pow_mul]
  exact Nat.pow_le_pow_right (by omega) h
theorem shl_len {u k : Nat} (hu : u < W64) (hk : k ≤ 300) : (Dg.digs W64 (u * 2 ^ k)).length ≤ 1000000 := by
  have h1 : u * 2 ^ k < W64 ^ 6 := by
    have h2 : 2 ^ k ≤ W64 ^ 5 := pow_le_W (by omega)
    rw [Nat.pow_succ, Nat.mul_comm]
    exact Nat.lt_of_le_of_lt (Nat.mul_le_mul_right _ h2) (Nat.mul_lt_mul_of_pos_left hu (Nat.pow_pos (by have := W64_two; omega)))
  have := Dg.digs_len_le W64_two h1
  omega
set_option maxHeartbeats 800000 in
theorem i64toi_any (a : Int) (hlo : -9223372036854775808 ≤ a) (hhi : a ≤ 9223372036854775807) (w : World) :
    Calls Try.prog 21 #[.int .i64 a] w (fun e w' => ∃ g, e = .returned (.agg #[.pointer (some ⟨g, 0, none⟩)]) ∧ w.heap.size ≤ g ∧ Below w.heap.size w w' ∧
      ((a = 0 ∧ Blk w' g 66 #[.bool false, .slice none 0 0]) ∨ ∃ b, Blk w' g 66 #[.bool (decide (a < 0)), .slice (some ⟨b, 0, none⟩) 1 1] ∧ w'.cell? ⟨b, 0, none⟩ = some (.int .u64 (a.natAbs : Int)))) := by
  have C := hide (setInt64_new a hlo hhi)
  have hr := Blk.new w 51 #[.pointer none]
  have Hr := hide hr
  clear hlo hhi hr
  go_enter Try.func21, Try.ntmps21
  go_wp2_with fail
  refine (newInt_any _).mono ?_
  rintro e w1 ⟨rfl, rfl⟩
  have hk := Blk.new (w.alloc (Obj.cells #[.pointer none] 51)) 66 #[.bool false, .slice none 0 0]
  rw [World.size_alloc] at hk
  go_wp2_with fail
  refine (C.out _ (w.heap.size + 1) hk).mono ?_
  rintro e w2 ⟨rfl, hb2, hor⟩
  have hk2 := ((Hr.out.alloc (Obj.cells #[.bool false, .slice none 0 0] 66))).below hb2 (by omega)
  have y0 := hk2.cell 0
  have q0 := hk2.frozen 0
  simp only [List.getElem?_toArray, List.getElem?_cons_zero] at y0
  have Hor := hide hor
  have Hb2 := hide hb2
  have Hk2 := hide hk2
  clear hor hb2 hk2 hk
  go_wp2
  have c0 := (Hk2.out.set_ 0 (.pointer (some ⟨w.heap.size + 1, 0, none⟩))).cell 0
  simp only [List.setIfInBounds_toArray, List.set_cons_zero, List.getElem?_toArray, List.getElem?_cons_zero] at c0
  refine bodyPost_ret (v := .agg #[.pointer (some ⟨w.heap.size + 1, 0, none⟩)]) (by simp [results, Try.results21, go_sem, c0]) rfl ?_
  have hB : Below w.heap.size w w2 := ((below1 w _).alloc (by simp) _).trans (Hb2.out.mono (by omega))
  refine ⟨_, rfl, by omega, hB.setCell (Nat.le_refl _) _, ?_⟩
  rcases Hor.out with ⟨h1, h2⟩ | ⟨h1, h2, h3, h4⟩
  · exact .inl ⟨h1, h2.far (by simp) _⟩
  · refine .inr ⟨_, h2.far (by simp) _, ?_⟩
    rw [World.cell?_setCell_far _ _ _ _ (by simp; omega)]
    exact h3
theorem direction_left (w : World) : Calls Try.prog 11 #[.bool true] w (fun e w' => e = .returned (.int .i64 20) ∧ w' = w) := by
  go_enter Try.func11, Try.ntmps11
  go_wp2
  go_ret
  exact ⟨rfl, rfl⟩
theorem direction_right (w : World) : Calls Try.prog 11 #[.bool false] w (fun e w' => e = .returned (.int .i64 21) ∧ w' = w) := by
  go_enter Try.func11, Try.ntmps11
  go_wp2
  go_ret
  exact ⟨rfl, rfl⟩
theorem makeInt64_any' (a : Int) (w : World) : Calls Try.prog 10 #[.int .i64 a] w (fun e w' => e = .returned (.iface 48 (.int .i64 a)) ∧ w' = w) := by
  go_enter Try.func10, Try.ntmps10
  go_wp2
  go_ret
  exact ⟨rfl, rfl⟩
theorem shift0 (a : Int) (t : Int) (w : World) : Calls Try.prog 9 #[.iface 48 (.int .i64 a), .int .i64 t, .int .u64 0] w (fun e w' => e = .returned (.iface 48 (.int .i64 a)) ∧ w' = w) := by
  go_enter Try.func9, Try.ntmps9
  go_wp2
  go_ret
  exact ⟨rfl, rfl⟩
theorem shr_bounds {a : Int} (hlo : -9223372036854775808 ≤ a) (hhi : a ≤ 9223372036854775807) (k : Nat) : -9223372036854775808 ≤ a / 2 ^ k ∧ a / 2 ^ k ≤ 9223372036854775807 := by
  have e : ((2 : Int) ^ k) = ((2 ^ k : Nat) : Int) := by rw [Int.natCast_pow]; rfl
  have hp : 0 < 2 ^ k := Nat.pow_pos (by omega)
  rw [e]
  generalize 2 ^ k = P at *
  have hP : (0 : Int) < (P : Int) := by omega
  constructor
  · rw [Int.le_ediv_iff_mul_le hP]
    have : (9223372036854775808 : Int) * 1 ≤ 9223372036854775808 * P := Int.mul_le_mul_of_nonneg_left (by omega) (by omega)
    rw [Int.neg_mul]; omega
  · rcases Int.lt_or_le a 0 with h | h
    · have := Int.ediv_neg_of_neg_of_pos h hP; omega
    · have := Int.ediv_le_self (P : Int) h; omega
theorem ediv_big {a : Int} (hlo : -9223372036854775808 ≤ a) (hhi : a ≤ 9223372036854775807) {P : Nat} (hP : 9223372036854775808 ≤ P) : a / (P : Int) = if a < 0 then -1 else 0 := by
  by_cases h : a < 0
  · rw [if_pos h]
    exact ((Int.ediv_emod_unique (a := a) (b := (P : Int)) (r := a + P) (q := -1) (by omega)).2 ⟨by omega, by omega, by omega⟩).1
  · rw [if_neg h]
    exact Int.ediv_eq_zero_of_lt (by omega) (by omega)
theorem shr_min {a : Int} (hlo : -9223372036854775808 ≤ a) (hhi : a ≤ 9223372036854775807) (k : Nat) : a / 2 ^ min k 64 = a / 2 ^ k := by
  rcases Nat.le_total k 64 with h | h
  · rw [Nat.min_eq_left h]
  · have e : ∀ n : Nat, ((2 : Int) ^ n) = ((2 ^ n : Nat) : Int) := fun n => by rw [Int.natCast_pow]; rfl
    have hb : ∀ n, 64 ≤ n → 9223372036854775808 ≤ 2 ^ n := fun n hn => Nat.le_trans (by decide : 9223372036854775808 ≤ 2 ^ 64) (Nat.pow_le_pow_right (by omega) hn)
    rw [Nat.min_eq_right h, e, e, ediv_big hlo hhi (hb 64 (by omega)), ediv_big hlo hhi (hb k h)]
set_option maxHeartbeats 800000 in
theorem shiftR (a : Int) (hlo : -9223372036854775808 ≤ a) (hhi : a ≤ 9223372036854775807) (k : Nat) (h1 : 1 ≤ k) (h2 : k ≤ 300) (w : World) : Calls Try.prog 9 #[.iface 48 (.int .i64 a), .int .i64 21, .int .u64 (k : Int)] w (fun e w' => (∃ v, e = .returned v ∧ ConstInt w' v (a / 2 ^ k)) ∧ w' = w) := by
  have hk0 : ¬ (k : Int) = 0 := by omega
  have HB := hide (shr_bounds hlo hhi k)
  have HM := hide (shr_min hlo hhi k)
  go_enter Try.func9, Try.ntmps9
  go_wp2
  go_ret
  exact ⟨⟨_, rfl, .inl ⟨by rw [← HM.out]; rfl, HB.out⟩⟩, rfl⟩
set_option maxHeartbeats 1600000 in
theorem shiftL (a : Int) (hlo : -9223372036854775808 ≤ a) (hhi : a ≤ 9223372036854775807) (k : Nat) (h1 : 1 ≤ k) (h2 : k ≤ 300) (w : World) :
    Calls Try.prog 9 #[.iface 48 (.int .i64 a), .int .i64 20, .int .u64 (k : Int)] w (fun e w' => ∃ v, e = .returned v ∧ ConstInt w' v (a * 2 ^ k) ∧ Below w.heap.size w w') := by
  have hk0 : ¬ (k : Int) = 0 := by omega
  have C := hide (i64toi_any a hlo hhi)
  have HS := hide (shl_sgn a k)
  have hW : a.natAbs < W64 := by have hW : W64 = 18446744073709551616 := rfl; omega
  have HL := hide (shl_len hW h2)
  have C1 := hide fun (neg : Bool) => bigLsh_one a.natAbs k hW h1 h2 neg
  have C2 := hide (bigLsh_zero k h1)
  clear hlo hhi hW
  go_enter Try.func9, Try.ntmps9
  go_wp2_with fail
  refine (C.out w).mono ?_
  rintro e w1 ⟨g, rfl, hg, hb1, hor⟩
  have Hg := hide hg
  have Hb1 := hide hb1
  rcases hor with ⟨rfl, hk⟩ | ⟨b, hk, hx⟩
  · have Hk := hide hk
    clear hk hg hb1
    go_wp2_with fail
    refine (C2.out w1 g Hk.out).mono ?_
    rintro e w2 ⟨rfl, hbig, hb2⟩
    have Hbig := hide hbig
    have Hb2 := hide hb2
    clear hbig hb2
    go_wp2_with fail
    refine (makeInt_any w2 g 0 false 0 Hbig.out (by simp [Dg.digs])).mono ?_
    rintro e w3 ⟨⟨v, rfl, hci⟩, rfl⟩
    have Hci := hide hci
    go_wp2
    go_ret
    refine ⟨v, rfl, ?_, Hb1.out.trans (Hb2.out.mono Hg.out)⟩
    have := Hci.out
    simpa [sgn] using this
  · have Hk := hide hk
    have Hx := hide hx
    clear hk hx hg hb1
    go_wp2_with fail
    refine (C1.out _ w1 g b Hk.out Hx.out).mono ?_
    rintro e w2 ⟨rfl, hbig, hb2⟩
    have Hbig := hide hbig
    have Hb2 := hide hb2
    clear hbig hb2
    go_wp2_with fail
    refine (makeInt_any w2 g 0 _ _ Hbig.out HL.out).mono ?_
    rintro e w3 ⟨⟨v, rfl, hci⟩, rfl⟩
    have Hci := hide hci
    go_wp2
    go_ret
    refine ⟨v, rfl, ?_, Hb1.out.trans (Hb2.out.mono Hg.out)⟩
    rw [← HS.out]
    exact Hci.out
def RInv (w : World) (box : Array Value) (W : World) : Prop := Blk W w.heap.size 30 box ∧ Blk W (w.heap.size + 1) 30 #[.bool false, .slice none 0 0, .slice none 0 0] ∧ Below w.heap.size w W
theorem RInv.start (w : World) (box : Array Value) : RInv w box ((w.alloc (.cells box 30)).alloc (.cells #[.bool false, .slice none 0 0, .slice none 0 0] 30)) := by
  refine ⟨(Blk.new w _ _).alloc _, ?_, (below1 _ _).alloc (by simp) _⟩
  have := Blk.new (w.alloc (.cells box 30)) 30 #[.bool false, .slice none 0 0, .slice none 0 0]
  simpa using this
theorem RInv.below {w W W' : World} {box : Array Value} (h : RInv w box W) (hb : Below W.heap.size W W') : RInv w box W' :=
  ⟨h.1.below hb h.1.lt, h.2.1.below hb h.2.1.lt, h.2.2.trans (hb.mono h.2.2.size)⟩
theorem RInv.drew {w W : World} {box : Array Value} (h : RInv w box W) : RInv w box W.drew := ⟨h.1, h.2.1, h.2.2.drew⟩
/-- The end of a function that answers with a fraction that lies in the block made second. -/
theorem rinv_end {w W : World} {box : Array Value} {ng : Bool} {V D : Nat} {A B : Option Addr} {n c m d : Nat} (h : RInv w box W) (hv : Rd W (.slice A n c) (cI (Dg.digs 65536 V))) (hu : Rd W (.slice B m d) (cI (Dg.digs 65536 D))) :
    Rd (put3 W (w.heap.size + 1) (.bool ng) (.slice A n c) (.slice B m d)) (.slice A n c) (cI (Dg.digs 65536 V)) ∧ Rd (put3 W (w.heap.size + 1) (.bool ng) (.slice A n c) (.slice B m d)) (.slice B m d) (cI (Dg.digs 65536 D)) ∧ Below w.heap.size w (put3 W (w.heap.size + 1) (.bool ng) (.slice A n c) (.slice B m d)) ∧
      (put3 W (w.heap.size + 1) (.bool ng) (.slice A n c) (.slice B m d)).cell? ⟨w.heap.size + 1, 0, none⟩ = some (.bool ng) ∧ (put3 W (w.heap.size + 1) (.bool ng) (.slice A n c) (.slice B m d)).cell? ⟨w.heap.size + 1, 1, none⟩ = some (.slice A n c) ∧ (put3 W (w.heap.size + 1) (.bool ng) (.slice A n c) (.slice B m d)).cell? ⟨w.heap.size + 1, 2, none⟩ = some (.slice B m d) := by
  have H3 : Blk3 W (w.heap.size + 1) 30 false (.slice none 0 0) (.slice none 0 0) := ⟨h.2.1, rfl, rfl⟩
  have hk := ((h.2.1.set_ 0 (.bool ng)).set_ 1 (.slice A n c)).set_ 2 (.slice B m d)
  exact ⟨put3_rd H3 hv _ _ _, put3_rd H3 hu _ _ _, put3_below h.2.2 (Nat.le_succ _) _ _ _, by simpa [put3] using hk.cell 0, by simpa [put3] using hk.cell 1, by simpa [put3] using hk.cell 2⟩
theorem rinv_keep {w : World} {neg : Bool} {u v : Value} : ∀ W : World, RInv w #[.bool neg, u, v] W → W.cell? ⟨w.heap.size, 0, none⟩ = some (.bool neg) ∧ W.cell? ⟨w.heap.size, 1, none⟩ = some u :=
  fun _ h => ⟨h.1.cell 0, h.1.cell 1⟩
theorem rinv_keep3 {w : World} {neg : Bool} {u v : Value} : ∀ (W : World) (x y z : Value), RInv w #[.bool neg, u, v] W → (((W.setCell ⟨w.heap.size + 1, 0, none⟩ x).setCell ⟨w.heap.size + 1, 1, none⟩ y).setCell ⟨w.heap.size + 1, 2, none⟩ z).cell? ⟨w.heap.size, 0, none⟩ = some (.bool neg) ∧
    (((W.setCell ⟨w.heap.size + 1, 0, none⟩ x).setCell ⟨w.heap.size + 1, 1, none⟩ y).setCell ⟨w.heap.size + 1, 2, none⟩ z).cell? ⟨w.heap.size, 1, none⟩ = some u :=
  fun _ _ _ _ h => ⟨(((h.1.far (by simp) _).far (by simp) _).far (by simp) _).cell 0, (((h.1.far (by simp) _).far (by simp) _).far (by simp) _).cell 1⟩
theorem dlen16 {m k : Nat} (h : m < 65536 ^ k) : (Dg.digs 65536 m).length ≤ k := Dg.digs_len_le (by omega) h
set_option maxRecDepth 100000 in
set_option maxHeartbeats 3200000 in
theorem shifted_left (neg : Bool) (m k : Nat) (hm : m < 65536 ^ 4) (hk : k ≤ 300) (w : World) (A A2 : Option Addr) (n c n2 c2 : Nat) (hv : Rd w (.slice A n c) (cI (Dg.digs 65536 m))) :
    Calls Try.prog 6 #[.agg #[.bool neg, .slice A n c, .slice A2 n2 c2], .bool true, .int .i64 (k : Int)] w (GotRatio (neg && decide (0 < m * 2 ^ k)) (m * 2 ^ k) 1 w) := by
  have C1 : Hid (∀ W, Rd W (.slice A n c) (cI (Dg.digs 65536 m)) → Calls Try.prog 14 #[.slice A n c, .int .i64 (k : Int)] W (GotNat (m * 2 ^ k) W)) := by
    intro W hR
    have := shl_any (Dg.digs 65536 m) (Dg.can_digs (by omega) _) (by have := dlen16 hm; omega) k (by omega) W _ hR
    rw [Dg.val_digs (by omega)] at this
    exact this
  have C2 := hide (whole_any neg (m * 2 ^ k))
  have HJ0 := hide (RInv.start w #[.bool neg, .slice A n c, .slice A2 n2 c2])
  have RN := hide (hv.below HJ0.out.2.2).drew
  have HJ := hide HJ0.out.drew
  generalize m * 2 ^ k = N at *
  clear hv hm hk
  go_enter Try.func6, Try.ntmps6
  go_upto_region 2 with fail
  go_region_held3 (fun w' => w'.cell? ⟨w.heap.size, 0, none⟩ = some (.bool neg) ∧ w'.cell? ⟨w.heap.size, 1, none⟩ = some (.slice A n c)) (first | exact rinv_keep _ HJ.out | exact rinv_keep3 _ _ _ _ HJ.out | go_keep) (first
    | (go_at_call 14; refine (C1.out _ RN.out).mono ?_; rintro e w1 ⟨v1, rfl, hr1, hbx⟩; obtain ⟨A1, n1, c1, rfl⟩ := hr1.shape; have RA := hide hr1; replace HJ := hide (HJ.out.below hbx); clear hr1 hbx RN)
    | (go_at_call 13; refine (C2.out _ A1 n1 c1 RA.out).mono ?_; rintro e w2 ⟨v2, u2, rfl, hr2, hr3, hbx⟩; obtain ⟨A4, n4, c4, rfl⟩ := hr2.shape; obtain ⟨A5, n5, c5, rfl⟩ := hr3.shape; have RB := hide hr2; have RC := hide hr3; replace HJ := hide (HJ.out.below hbx); have z0 := HJ.out.2.1.cell 0; have z1 := HJ.out.2.1.cell 1; have z2 := HJ.out.2.1.cell 2; have q0 := HJ.out.2.1.frozen 0; have q1 := HJ.out.2.1.frozen 1; have q2 := HJ.out.2.1.frozen 2; simp only [List.getElem?_toArray, List.getElem?_cons_zero, List.getElem?_cons_succ] at z0 z1 z2; clear hr2 hr3 hbx))
  all_goals
    go_wp2_with fail
    obtain ⟨e1, e2, e3, e4, e5, e6⟩ := rinv_end (ng := neg && decide (0 < N)) HJ.out RB.out RC.out
    unfold put3 at e4 e5 e6
    refine bodyPost_ret (v := .agg #[.bool (neg && decide (0 < N)), .slice A4 n4 c4, .slice A5 n5 c5]) (by simp [results, Try.results6, go_sem, e4, e5, e6]) rfl ?_
    exact ⟨_, _, rfl, e1, e2, e3⟩
end Go.Proofs.Ytgooioafmddneaa
