/- The reference's functions on fractions, each by its contract: Int64, and the laws' fits. -/
import Derived.Test.YtgooioafmddneaaSpecB
import Derived.Test.YtgooioafmddneaaSpecC
import Derived.Test.YtgooioafmddneaaBigA
namespace Go.Proofs.Ytgooioafmddneaa
open Go.RowKit

def I64In (xs : List Nat) (n i : Value) : Prop := ∃ (k : Nat) (x : Int), n = .int .i64 x ∧ i = .int .i64 ((k : Int) - 1) ∧ k ≤ xs.length ∧ Hid (x = wrap64 ((Dg.val 65536 (xs.drop k) : Nat) : Int))
theorem i64_step {x : Int} {d V : Nat} (h : x = wrap64 (V : Int)) : wrap64 (wrap64 (x * 65536) + (d : Int)) = wrap64 ((d + 65536 * V : Nat) : Int) := by
  subst h; unfold wrap64; omega
theorem sgn_wrap {neg : Bool} {V : Nat} {x : Int} (h : x = wrap64 (V : Int)) : (if neg then wrap64 (-x) else x) = wrap64 (sgn neg V) := by
  subst h; cases neg <;> simp [sgn] <;> (unfold wrap64; omega)
theorem wrap64_lo (z : Int) : -9223372036854775808 ≤ wrap64 z := by unfold wrap64; omega
theorem wrap64_hi (z : Int) : wrap64 z ≤ 9223372036854775807 := by unfold wrap64; omega
theorem fits_iff {neg : Bool} {V : Nat} (hneg : neg = true → 0 < V) : fits64 neg V = true ↔ (decide (wrap64 (sgn neg V) < 0) = neg ∧ (wrap64 (sgn neg V)).natAbs = V) := by
  cases neg
  · simp [fits64, sgn, wrap64]; omega
  · have := hneg rfl
    simp [fits64, sgn, wrap64]; omega
theorem ret_tup {x y : Int} {a b : Bool} (h : x = y) (h2 : a = b) : Ending.returned (.tuple #[.int .i64 x, .bool a]) = .returned (.tuple #[.int .i64 y, .bool b]) := by rw [h, h2]
theorem no_eq {b : Bool} (h : b = true → False) : b = false := by cases b with | false => rfl | true => exact (h rfl).elim
set_option maxHeartbeats 1600000 in
theorem specInt64_any (neg : Bool) (xs : List Nat) (hx : Dg.Can 65536 xs) (hlx : xs.length ≤ 1000000) (hneg : neg = true → 0 < Dg.val 65536 xs) (w : World) (A : Option Addr) (n c : Nat) (A2 : Option Addr) (n2 c2 : Nat) (hv : Rd w (.slice A n c) (cI xs)) :
    Calls Try.prog 12 #[.agg #[.bool neg, .slice A n c, .slice A2 n2 c2]] w
      (fun e w' => e = .returned (.tuple #[.int .i64 (wrap64 (sgn neg (Dg.val 65536 xs))), .bool (fits64 neg (Dg.val 65536 xs))]) ∧ Below w.heap.size w w') := by
  obtain ⟨A', c', hA, hlc, hcm, hcx⟩ := hv.any
  simp only [Value.slice.injEq] at hA
  obtain ⟨rfl, rfl, rfl⟩ := hA
  rw [cI_len] at hlc hcx hv ⊢
  obtain ⟨m, hm⟩ : ∃ m, m = xs.length := ⟨_, rfl⟩
  rw [← hm] at hlc hcx hlx hv ⊢
  have Hm := hide hm
  have Hcx := hide hcx
  have Hx := hide hx
  have Hneg := hide hneg
  have Hv := hide hv
  obtain ⟨B, hB⟩ : ∃ B, B = w.heap.size := ⟨_, rfl⟩
  clear hm hcx hx hneg hv
  go_enter Try.func12, Try.ntmps12
  go_wp2_with fail
  have hk := Blk.new w 30 #[Value.bool neg, Value.slice A m c, Value.slice A2 n2 c2]
  go_loop [4, 5] (I64In xs) (fun _ i => idxOf i)
  case atStart => exact ⟨m, 0, rfl, rfl, by rw [Hm.out]; omega, by simp only [Hid]; rw [List.drop_of_length_le (by rw [Hm.out]; omega)]; simp [Dg.val, wrap64]⟩
  case round =>
    obtain ⟨k, x, rfl, rfl, hkm, he⟩ := hrel
    rw [← Hm.out] at hkm
    rcases Nat.eq_zero_or_pos k with h0 | h0
    · subst h0
      have hs := sgn_wrap (neg := neg) he.out
      rw [List.drop_zero] at hs
      have Hs := hide hs
      clear hs he hkm
      obtain ⟨X, hX⟩ : ∃ X, X = wrap64 (sgn neg (Dg.val 65536 xs)) := ⟨_, rfl⟩
      have HF := fits_iff Hneg.out
      have Hlo := hide (wrap64_lo (sgn neg (Dg.val 65536 xs)))
      have Hhi := hide (wrap64_hi (sgn neg (Dg.val 65536 xs)))
      have HX := hide hX
      have Hlen : Hid ((Dg.digs 65536 X.natAbs).length ≤ 10000000) := Nat.le_trans (Dg.digs_len_le (B := 65536) (k := 4) (by omega) (by have := wrap64_lo (sgn neg (Dg.val 65536 xs)); have := wrap64_hi (sgn neg (Dg.val 65536 xs)); omega)) (by omega)
      rw [← hX] at Hs HF Hlo Hhi
      have HF := hide HF
      clear hX Hneg
      cases neg
      all_goals
        simp only [if_true, Bool.false_eq_true, if_false] at Hs
        go_wp2_with fail
        rw [Hs.out]
        refine (of64_any X Hlo.out Hhi.out _).mono ?_
        rintro e w1 ⟨v1, u1, rfl, hv1, hu1, hb1⟩
        obtain ⟨A5, n5, c5, rfl⟩ := hv1.shape
        obtain ⟨A6, n6, c6, rfl⟩ := hu1.shape
        have hk1 := hk.below hb1 (by simp)
        have hsz := hb1.size
        rw [World.size_alloc] at hsz
        have hb1' : Below w.heap.size w w1 := below_alloc (hb1.mono (by simp)) (Nat.le_refl _)
        have C := hide (cmp_any (Dg.digs 65536 X.natAbs) xs (Dg.can_digs (by omega) _) Hx.out (Hlen.out) (w1.alloc (Obj.cells #[Value.bool (decide (X < 0)), Value.slice A5 n5 c5, Value.slice A6 n6 c6] 30)) (.slice A5 n5 c5) (.slice A m c) (hv1.alloc _) (((Hv.out.alloc _).below hb1).alloc _))
        have c0 := (hk1.alloc (Obj.cells #[Value.bool (decide (X < 0)), Value.slice A5 n5 c5, Value.slice A6 n6 c6] 30)).cell 0
        have c1 := (hk1.alloc (Obj.cells #[Value.bool (decide (X < 0)), Value.slice A5 n5 c5, Value.slice A6 n6 c6] 30)).cell 1
        simp only [List.getElem?_toArray, List.getElem?_cons_zero, List.getElem?_cons_succ] at c0 c1
        by_cases hd : X < 0
        · have hd' : decide (X < 0) = true := by simpa using hd
          rw [hd'] at C c0 c1 ⊢
          clear hd
          go_wp2_with fail
          first
          | (go_ret2
             exact ⟨ret_tup HX.out (no_eq (fun h => by have := (HF.out.1 h).1; simp [hd'] at this)).symm, (hb1'.alloc (by omega) _)⟩)
          | (refine C.out.mono ?_
             rintro e w2 ⟨rfl, hb2⟩
             have HD := Dg.val_digs (B := 65536) (by omega) X.natAbs
             rw [HD]
             by_cases hq : X.natAbs = Dg.val 65536 xs
             · have hz : Dg.cmp X.natAbs (Dg.val 65536 xs) = 0 := Dg.cmp_zero.2 hq
               rw [hz]
               clear hz
               go_wp2
               go_ret2
               exact ⟨ret_tup HX.out (HF.out.2 ⟨hd', hq⟩).symm, (hb1'.alloc (by omega) _).trans (hb2.mono (by simp; omega))⟩
             · have hz : ¬ Dg.cmp X.natAbs (Dg.val 65536 xs) = 0 := fun h => hq (Dg.cmp_zero.1 h)
               generalize Dg.cmp X.natAbs (Dg.val 65536 xs) = z at hz ⊢
               go_wp2
               go_ret2
               exact ⟨ret_tup HX.out ((beq_false_of_ne hz).trans (no_eq (fun h => hq (HF.out.1 h).2)).symm), (hb1'.alloc (by omega) _).trans (hb2.mono (by simp; omega))⟩)
        · have hd' : decide (X < 0) = false := by simpa using hd
          rw [hd'] at C c0 c1 ⊢
          clear hd
          go_wp2_with fail
          first
          | (go_ret2
             exact ⟨ret_tup HX.out (no_eq (fun h => by have := (HF.out.1 h).1; simp [hd'] at this)).symm, (hb1'.alloc (by omega) _)⟩)
          | (refine C.out.mono ?_
             rintro e w2 ⟨rfl, hb2⟩
             have HD := Dg.val_digs (B := 65536) (by omega) X.natAbs
             rw [HD]
             by_cases hq : X.natAbs = Dg.val 65536 xs
             · have hz : Dg.cmp X.natAbs (Dg.val 65536 xs) = 0 := Dg.cmp_zero.2 hq
               rw [hz]
               clear hz
               go_wp2
               go_ret2
               exact ⟨ret_tup HX.out (HF.out.2 ⟨hd', hq⟩).symm, (hb1'.alloc (by omega) _).trans (hb2.mono (by simp; omega))⟩
             · have hz : ¬ Dg.cmp X.natAbs (Dg.val 65536 xs) = 0 := fun h => hq (Dg.cmp_zero.1 h)
               generalize Dg.cmp X.natAbs (Dg.val 65536 xs) = z at hz ⊢
               go_wp2
               go_ret2
               exact ⟨ret_tup HX.out ((beq_false_of_ne hz).trans (no_eq (fun h => hq (HF.out.1 h).2)).symm), (hb1'.alloc (by omega) _).trans (hb2.mono (by simp; omega))⟩)
    · obtain ⟨b, o, rfl, hb, hcl⟩ := Hcx.out (by omega)
      have hck := ((below1 w (Obj.cells #[Value.bool neg, Value.slice (some ⟨b, o, none⟩) m c, Value.slice A2 n2 c2] 30)).cell (p := ⟨b, o + (k - 1), none⟩) hb).trans (hcl (k - 1) _ (cI_at (l := xs) (j := k - 1) (by rw [← Hm.out]; omega)))
      have hst := i64_step (d := xs.getD (k - 1) 0) he.out
      have hvd := Dg.val_drop_head (B := 65536) (xs := xs) (i := k - 1) (by rw [← Hm.out]; omega)
      rw [show k - 1 + 1 = k by omega] at hvd
      rw [← hvd] at hst
      have Hst := hide hst
      obtain ⟨y, hy⟩ : ∃ y, y = xs.getD (k - 1) 0 := ⟨_, rfl⟩
      rw [← hy] at hck Hst
      clear hcl hy hst hvd he
      go_wp2
      go_round
      case rel => exact ⟨k - 1, _, rfl, by go_num, by rw [← Hm.out]; omega, Hst⟩
      case measure => simp [idxOf]; omega
/-- What an int64 and a truth tell of a number: it fits exactly if so, and then it is it. -/
theorem fits_math {n : Int} {ok : Bool} {neg : Bool} {V : Nat} (hok : ok = fits64 neg V) (hn : ok = true → n = sgn neg V) : (!(ok == fits64 neg V)) = false ∧ (ok = true → n = wrap64 (sgn neg V)) := by
  subst hok
  refine ⟨by simp, fun h => ?_⟩
  rw [hn h]
  have := sgn_bounds h
  unfold wrap64; omega
set_option maxHeartbeats 800000 in
theorem fits_any (n : Int) (ok : Bool) (neg : Bool) (xs : List Nat) (hx : Dg.Can 65536 xs) (hlx : xs.length ≤ 1000000) (hneg : neg = true → 0 < Dg.val 65536 xs)
    (hok : ok = fits64 neg (Dg.val 65536 xs)) (hn : ok = true → n = sgn neg (Dg.val 65536 xs)) (w : World) (A : Option Addr) (n1 c : Nat) (A2 : Option Addr) (n2 c2 : Nat) (hv : Rd w (.slice A n1 c) (cI xs)) :
    Calls Try.prog 5 #[.int .i64 n, .bool ok, .agg #[.bool neg, .slice A n1 c, .slice A2 n2 c2]] w (fun e w' => e = .returned (.bool true) ∧ Below w.heap.size w w') := by
  have C := hide (specInt64_any neg xs hx hlx hneg (w.alloc (Obj.cells #[Value.bool neg, Value.slice A n1 c, Value.slice A2 n2 c2] 30)) A n1 c A2 n2 c2 (hv.alloc _))
  have HM := hide (fits_math hok hn)
  generalize Dg.val 65536 xs = V at *
  cases ok with
  | true =>
    have h2 := HM.out.2 rfl
    rw [← hok] at C
    subst h2
    clear hx hlx hneg hok hn hv HM
    go_enter Try.func5, Try.ntmps5
    go_wp2_with fail
    refine C.out.mono ?_
    rintro e w1 ⟨rfl, hb⟩
    go_wp2
    go_ret
    exact ⟨rfl, below_alloc (hb.mono (by simp)) (Nat.le_refl _)⟩
  | false =>
    rw [← hok] at C
    clear hx hlx hneg hok hn hv HM
    generalize wrap64 (sgn neg V) = z at *
    go_enter Try.func5, Try.ntmps5
    go_wp2_with fail
    refine C.out.mono ?_
    rintro e w1 ⟨rfl, hb⟩
    go_wp2
    go_ret
    exact ⟨rfl, below_alloc (hb.mono (by simp)) (Nat.le_refl _)⟩
end Go.Proofs.Ytgooioafmddneaa
