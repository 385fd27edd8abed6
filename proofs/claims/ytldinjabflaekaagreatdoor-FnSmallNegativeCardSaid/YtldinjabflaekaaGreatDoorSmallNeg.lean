/- The walk of the law FnSmallNegative. -/
import Derived.Test.YtldinjabflaekaaGreatDoorSpecE
import Derived.Test.YtldinjabflaekaaGreatDoorBigB
import Derived.Test.YtldinjabflaekaaGreatDoorConstB
import Derived.WalkLawsBesides
import Derived.WalkMore
import Derived.Below
namespace Go.Proofs.YtldinjabflaekaaGreatDoor
open Go.RowKit
@[go_sem] theorem as_i64_int (v : Value) (w : World) : (Instr.typeAssert (.iface 85 v) 60 88 true).run Tryz.prog w = .ok (.tuple #[.agg #[.pointer none], .bool false]) w := by kernel_rfl
@[go_sem] theorem as_i64_rat (v : Value) (w : World) : (Instr.typeAssert (.iface 85 v) 60 101 true).run Tryz.prog w = .ok (.tuple #[.agg #[.pointer none], .bool false]) w := by kernel_rfl
@[go_sem] theorem as_i64_float (v : Value) (w : World) : (Instr.typeAssert (.iface 85 v) 60 104 true).run Tryz.prog w = .ok (.tuple #[.agg #[.pointer none], .bool false]) w := by kernel_rfl
@[go_sem] theorem as_i64_cplx (v : Value) (w : World) : (Instr.typeAssert (.iface 85 v) 60 106 true).run Tryz.prog w = .ok (.tuple #[.agg #[.nilIface, .nilIface], .bool false]) w := by kernel_rfl
theorem makeInt64_any (a : Int) (w : World) : Calls Tryz.prog 39 #[.int .i64 a] w (fun e w' => e = .returned (.iface 85 (.int .i64 a)) ∧ w' = w) := by
  go_enter Tryz.func39, Tryz.ntmps39
  go_wp2
  go_ret
  exact ⟨rfl, rfl⟩
theorem sign_one (w : World) : Calls Tryz.prog 47 #[.int .i64 1] w (fun e w' => e = .returned (.tuple #[.int .i64 13, .bool true]) ∧ Below w.heap.size w w') := by
  go_enter Tryz.func47, Tryz.ntmps47
  go_wp2
  go_ret2
  exact ⟨rfl, below1 _ _⟩
theorem sign_zero (w : World) : Calls Tryz.prog 47 #[.int .i64 0] w (fun e w' => e = .returned (.tuple #[.int .i64 12, .bool true]) ∧ Below w.heap.size w w') := by
  go_enter Tryz.func47, Tryz.ntmps47
  go_wp2
  go_ret2
  exact ⟨rfl, below1 _ _⟩
set_option maxRecDepth 100000 in
set_option maxHeartbeats 1600000 in
theorem unaryAdd (a : Int) (w : World) : Calls Tryz.prog 45 #[.int .i64 12, .iface 85 (.int .i64 a), .int .u64 0] w (fun e w' => e = .returned (.iface 85 (.int .i64 a)) ∧ Below w.heap.size w w') := by
  go_enter Tryz.func45, Tryz.ntmps45
  go_wp2; go_step3; go_wp2
  rw [Exit.noGoto_ret]
  go_ret
  exact ⟨rfl, Below.refl _ _⟩
set_option maxRecDepth 100000 in
set_option maxHeartbeats 1600000 in
theorem unarySub (a : Int) (hlo : -9223372036854775808 ≤ a) (hhi : a ≤ 9223372036854775807) (w : World) :
    Calls Tryz.prog 45 #[.int .i64 13, .iface 85 (.int .i64 a), .int .u64 0] w (fun e w' => ∃ v, e = .returned v ∧ ConstInt w' v (-a) ∧ Below w.heap.size w w') := by
  by_cases h : a = 0 ∨ a = -9223372036854775808
  · have hbig : ∃ (neg : Bool) (n : Nat), n < W64 ∧ sgn (decide (0 < n) && !neg) n = -a ∧ (Dg.digs W64 n).length ≤ 1000000 ∧ ∀ w0 : World, Calls Tryz.prog 77 #[.int .i64 a] w0 (fun e w' => ∃ g cs, e = .returned (.pointer (some ⟨g, 0, none⟩)) ∧ w0.heap.size ≤ g ∧ Hid (Blk w' g 146 cs) ∧ Hid (BigAt w' g 0 neg n) ∧ Hid (Below w0.heap.size w0 w')) := by
      have hW : W64 = 18446744073709551616 := rfl
      rcases h with rfl | rfl
      · refine ⟨false, 0, by omega, by simp [sgn], by simp [Dg.digs], fun w0 => (newInt_zero w0).mono ?_⟩
        rintro e w' ⟨rfl, rfl⟩
        exact ⟨_, _, rfl, Nat.le_refl _, Blk.new w0 _ _, ⟨(Blk.new w0 _ _).cell 0, _, (Blk.new w0 _ _).cell 1, by rw [show Dg.digs W64 0 = [] by simp [Dg.digs]]; exact Rd.nil_ _ _ _ (Nat.zero_le _)⟩, below1 _ _⟩
      · have hd : Dg.digs W64 9223372036854775808 = [9223372036854775808] := by
          rcases digs_le1 (n := 9223372036854775808) (by omega) with h | h
          · omega
          · exact h.1
        refine ⟨true, 9223372036854775808, by omega, by simp [sgn], by rw [hd]; simp, fun w0 => (newInt_least w0).mono ?_⟩
        rintro e w' ⟨rfl, rfl⟩
        have hk := Blk.new (w0.alloc (.cells #[.int .u64 9223372036854775808] 140)) 146 #[.bool true, .slice (some ⟨w0.heap.size, 0, none⟩) 1 1]
        rw [World.size_alloc] at hk
        refine ⟨_, _, rfl, by omega, hk, ⟨hk.cell 0, _, hk.cell 1, ?_⟩, (below1 _ _).alloc (by simp) _⟩
        rw [hd]
        exact (rd_one w0 _ _).alloc _
    obtain ⟨neg, n, hn, hs, hlen, C1⟩ := hbig
    have hz : wrap64 (-a) = a := by unfold wrap64; omega
    rw [← hs]
    have C1 := hide C1
    have Hn := hide hn
    have Hlen := hide hlen
    clear hn hs hlen h hlo hhi
    go_enter Tryz.func45, Tryz.ntmps45
    go_wp2; go_step3
    go_wp2_with fail
    have hk := Blk.new w 146 #[.bool false, .slice none 0 0]
    refine (newInt_any w).mono ?_
    rintro e w1 ⟨rfl, rfl⟩
    go_wp2_with fail
    refine (C1.out _).mono ?_
    rintro e w2 ⟨g, cs, rfl, hg, hb, hbig, hB⟩
    rw [World.size_alloc] at hg
    have hk2 := hide (hk.below hB.out (by simp))
    have hg' := hide hg
    go_wp2_with fail
    refine (neg_new w2 w.heap.size g 0 (by have := hg'.out; omega) neg n Hn.out hk2.out hbig.out _ _ hb.out).mono ?_
    rintro e w3 ⟨rfl, hbig3, hB3⟩
    have hbig3 := hide hbig3
    go_wp2_with fail
    refine (makeInt_any w3 w.heap.size 0 _ n hbig3.out Hlen.out).mono ?_
    rintro e w4 ⟨⟨v, rfl, hci⟩, rfl⟩
    have hci := hide hci
    go_wp2
    rw [Exit.noGoto_ret]
    go_ret
    exact ⟨v, rfl, hci.out, (below_alloc (hB.out.mono (by simp)) (Nat.le_refl _)).trans hB3⟩
  · have hz : wrap64 (-a) = -a := by unfold wrap64; omega
    have hne : ¬ -a = a := by omega
    have Hb : Hid (-9223372036854775808 ≤ -a ∧ -a ≤ 9223372036854775807) := by simp only [Hid]; omega
    clear h hlo hhi
    go_enter Tryz.func45, Tryz.ntmps45
    go_wp2; go_step3; go_wp2
    rw [Exit.noGoto_ret]
    go_ret
    exact ⟨_, rfl, .inl ⟨rfl, Hb.out⟩, Below.refl _ _⟩
theorem smallUnary1 (a : Int) (hlo : -9223372036854775808 ≤ a) (hhi : a ≤ 9223372036854775807) (w : World) :
    Calls Tryz.prog 23 #[.int .i64 1, .int .i64 a, .int .u64 0] w (fun e w' => (∃ n : Int, e = .returned (.tuple #[.int .i64 n, .bool (fitsI (-a))]) ∧ (fitsI (-a) = true → n = -a)) ∧ Below w.heap.size w w') := by
  have C2 := hide fun w0 => unarySub a hlo hhi w0
  clear hlo hhi
  go_enter Tryz.func23, Tryz.ntmps23
  go_wp2_with fail
  refine (sign_one w).mono ?_
  rintro e w1 ⟨rfl, hb1⟩
  go_wp2_with fail
  refine (makeInt64_any a w1).mono ?_
  rintro e w2 ⟨rfl, rfl⟩
  go_wp2_with fail
  refine (C2.out w2).mono ?_
  rintro e w3 ⟨v, rfl, hci, hb3⟩
  have hci := hide hci
  go_wp2_with fail
  refine (int64Val_const w3 v _ hci.out).mono ?_
  rintro e w4 ⟨⟨n, rfl, hn⟩, hb4⟩
  go_wp2
  go_ret2
  exact ⟨⟨n, rfl, hn⟩, hb1.trans ((hb3.mono hb1.size).trans (hb4.mono (Nat.le_trans hb1.size hb3.size)))⟩
theorem smallUnary0 (a : Int) (hlo : -9223372036854775808 ≤ a) (hhi : a ≤ 9223372036854775807) (w : World) :
    Calls Tryz.prog 23 #[.int .i64 0, .int .i64 a, .int .u64 0] w (fun e w' => e = .returned (.tuple #[.int .i64 a, .bool true]) ∧ Below w.heap.size w w') := by
  have Hb := hide (And.intro hlo hhi)
  clear hlo hhi
  go_enter Tryz.func23, Tryz.ntmps23
  go_wp2_with fail
  refine (sign_zero w).mono ?_
  rintro e w1 ⟨rfl, hb1⟩
  go_wp2_with fail
  refine (makeInt64_any a w1).mono ?_
  rintro e w2 ⟨rfl, rfl⟩
  go_wp2_with fail
  refine (unaryAdd a w2).mono ?_
  rintro e w3 ⟨rfl, hb3⟩
  go_wp2_with fail
  refine (int64Val_const w3 _ a (.inl ⟨rfl, Hb.out⟩)).mono ?_
  rintro e w4 ⟨⟨n, rfl, hn⟩, hb4⟩
  have hf : fitsI a = true := by have := Hb.out; simp [fitsI]; omega
  rw [hf] at hn ⊢
  obtain rfl := hn rfl
  go_wp2
  go_ret2
  exact ⟨rfl, hb1.trans ((hb3.mono hb1.size).trans (hb4.mono (Nat.le_trans hb1.size hb3.size)))⟩
theorem negated_any (neg : Bool) (m : Nat) (b : Bool) (hbb : b = (!neg && decide (0 < m))) (w : World) (A : Option Addr) (n c : Nat) (A2 : Option Addr) (n2 c2 : Nat) (hv : Rd w (.slice A n c) (cI (Dg.digs 65536 m))) :
    Calls Tryz.prog 24 #[.agg #[.bool neg, .slice A n c, .slice A2 n2 c2]] w (fun e w' => e = .returned (.agg #[.bool b, .slice A n c, .slice A2 n2 c2]) ∧ Below w.heap.size w w') := by
  have hn : decide (0 < n) = decide (0 < m) := by
    obtain ⟨_, _, e, _⟩ := hv.any
    injection e with _ e2 _
    rw [e2, cI_len]
    rcases Nat.eq_zero_or_pos m with h | h
    · subst h; simp [Dg.digs]
    · have := Dg.digs_len_pos (B := 65536) (by omega) h
      simp [h, this]
  have Hb : Hid (b = (!neg && decide (0 < n))) := by simp only [Hid]; rw [hn]; exact hbb
  clear hn hv hbb
  go_enter Tryz.func24, Tryz.ntmps24
  cases neg with
  | true =>
    go_wp2_with fail
    have hk := Blk.new (w.alloc (Obj.cells #[Value.bool true, Value.slice A n c, Value.slice A2 n2 c2] 31)) 31 #[Value.bool false, Value.slice A n c, Value.slice A2 n2 c2]
    rw [World.size_alloc] at hk
    have c0 := hk.cell 0
    have c1 := hk.cell 1
    have c2' := hk.cell 2
    refine bodyPost_ret (v := .agg #[.bool false, .slice A n c, .slice A2 n2 c2]) (by simp [results, Tryz.results24, go_sem, c0, c1, c2']) rfl ?_
    exact ⟨by rw [Hb.out]; rfl, (below1 _ _).alloc (by simp) _⟩
  | false =>
    go_wp2_with fail
    have hk := Blk.new (w.alloc (Obj.cells #[Value.bool false, Value.slice A n c, Value.slice A2 n2 c2] 31)) 31 #[Value.bool (decide (0 < n)), Value.slice A n c, Value.slice A2 n2 c2]
    rw [World.size_alloc] at hk
    have c0 := hk.cell 0
    have c1 := hk.cell 1
    have c2' := hk.cell 2
    refine bodyPost_ret (v := .agg #[.bool (decide (0 < n)), .slice A n c, .slice A2 n2 c2]) (by simp [results, Tryz.results24, go_sem, c0, c1, c2']) rfl ?_
    exact ⟨by rw [Hb.out]; rfl, (below1 _ _).alloc (by simp) _⟩
theorem neg_facts {a : Int} (hlo : -9223372036854775808 ≤ a) (hhi : a ≤ 9223372036854775807) :
    sgn (!decide (a < 0) && decide (0 < a.natAbs)) a.natAbs = -a ∧ fitsI (-a) = fits64 (!decide (a < 0) && decide (0 < a.natAbs)) a.natAbs ∧ ((!decide (a < 0) && decide (0 < a.natAbs)) = true → 0 < a.natAbs) ∧ a.natAbs ≤ 9223372036854775808 := by
  have h : sgn (!decide (a < 0) && decide (0 < a.natAbs)) a.natAbs = -a := by
    by_cases h1 : a < 0
    · simp [sgn, h1]; omega
    · by_cases h2 : a = 0
      · subst h2; simp [sgn]
      · have : 0 < a.natAbs := by omega
        simp [sgn, h1, this]; omega
  refine ⟨h, by rw [← fitsI_sgn, h], fun h => ?_, by omega⟩
  simp at h; omega
theorem pow_65536_4 : 65536 ^ 4 = 18446744073709551616 := by rfl
theorem fits_neg {a n : Int} {ng : Bool} (NF : sgn ng a.natAbs = -a ∧ fitsI (-a) = fits64 ng a.natAbs ∧ (ng = true → 0 < a.natAbs) ∧ a.natAbs ≤ 9223372036854775808) (hn : fitsI (-a) = true → n = -a) (w : World) (A1 : Option Addr) (n1 k1 : Nat) (A2 : Option Addr) (n2 k2 : Nat)
    (hv : Rd w (.slice A1 n1 k1) (cI (Dg.digs 65536 a.natAbs))) :
    Calls Tryz.prog 13 #[.int .i64 n, .bool (fitsI (-a)), .agg #[.bool ng, .slice A1 n1 k1, .slice A2 n2 k2]] w (fun e w' => e = .returned (.bool true) ∧ Below w.heap.size w w') := by
  obtain ⟨f1, f2, f3, f4⟩ := NF
  have hval := Dg.val_digs (B := 65536) (by omega) a.natAbs
  have hl : (Dg.digs 65536 a.natAbs).length ≤ 1000000 := by
    have := Dg.digs_len_le (B := 65536) (by omega) (n := a.natAbs) (k := 4) (by rw [pow_65536_4]; omega)
    omega
  have hc := Dg.can_digs (B := 65536) (by omega) a.natAbs
  generalize Dg.digs 65536 a.natAbs = l at *
  refine fits_any n (fitsI (-a)) ng l hc hl ?_ ?_ ?_ w A1 n1 k1 A2 n2 k2 hv
  · rw [hval]; exact f3
  · rw [hval]; exact f2
  · rw [hval, f1]; exact hn
set_option maxHeartbeats 1600000 in
theorem smallNegative_walk (a : Int) (w0 : (Lit.int .i64 a).wf = true) (w : World) : Calls Tryz.prog 8 #[.int .i64 a] w fun e w' => e = .returned (.bool true) ∧ Below w.heap.size w w' := by
  have w1 : -9223372036854775808 ≤ a ∧ a ≤ 9223372036854775807 := by
    have e1 : IntKind.i64.min = -9223372036854775808 := by rfl
    have e2 : IntKind.i64.max = 9223372036854775807 := by rfl
    simpa [Lit.wf, e1, e2] using w0
  clear w0
  obtain ⟨hlo, hhi⟩ := w1
  have C1 := hide fun w0 => smallUnary1 a hlo hhi w0
  have C2 := hide fun w0 => smallUnary0 a hlo hhi w0
  have C3 := hide fun w0 => of64_any a hlo hhi w0
  obtain ⟨ng, hng⟩ : ∃ ng, ng = (!decide (a < 0) && decide (0 < a.natAbs)) := ⟨_, rfl⟩
  have NF0 := neg_facts hlo hhi
  rw [← hng] at NF0
  have NF := hide NF0
  have Hng := hide hng
  clear hng NF0
  clear hlo hhi
  go_enter Tryz.func8, Tryz.ntmps8
  go_wp2_with fail
  refine (C1.out w).mono ?_
  rintro e w1 ⟨⟨n, rfl, hn0⟩, hb1⟩
  have hn := hide hn0
  clear hn0
  go_wp2_with fail
  refine (C2.out w1).mono ?_
  rintro e w2 ⟨rfl, hb2⟩
  go_wp2_with fail
  refine (C3.out w2).mono ?_
  rintro e w3 ⟨v, u, rfl, hv0, hu, hb3⟩
  obtain ⟨A1, n1, k1, rfl⟩ := hv0.shape
  obtain ⟨A2, n2, k2, rfl⟩ := hu.shape
  have hv := hide hv0
  clear hu hv0
  go_wp2_with fail
  refine (negated_any _ a.natAbs ng Hng.out w3 A1 n1 k1 A2 n2 k2 hv.out).mono ?_
  rintro e w4 ⟨rfl, hb4⟩
  go_wp2_with fail
  refine (fits_neg NF.out hn.out w4 A1 n1 k1 A2 n2 k2 (hv.out.below hb4)).mono ?_
  rintro e w5 ⟨rfl, hb5⟩
  have HB : Hid (Below w.heap.size w w5) := by
    have s1 := hb1.size; have s2 := hb2.size; have s3 := hb3.size; have s4 := hb4.size
    exact hb1.trans ((hb2.mono (by omega)).trans ((hb3.mono (by omega)).trans ((hb4.mono (by omega)).trans (hb5.mono (by omega)))))
  clear hb1 hb2 hb3 hb4 hb5
  go_wp2
  go_ret
  exact ⟨rfl, HB.out⟩
end Go.Proofs.YtldinjabflaekaaGreatDoor
