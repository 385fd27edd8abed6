/- The package's nat of one word, shifted to the left by 1 to 300 bits. Written by gen_lsh.py. -/
import Derived.Test.YtgooioafmddneaaLsh
import Derived.BigFrame
namespace Go.Proofs.Ytgooioafmddneaa
open Go.RowKit
theorem lsh_val (Q r u : Nat) (hr : r < 64) : Dg.val W64 (List.replicate Q 0 ++ [u * 2 ^ r % W64, u / 2 ^ (64 - r)]) = u * 2 ^ (64 * Q + r) := by
  have h0 : W64 = 2 ^ 64 := rfl
  have h1 : u * 2 ^ r / W64 = u / 2 ^ (64 - r) := by
    rw [h0, show (2 : Nat) ^ 64 = 2 ^ r * 2 ^ (64 - r) by rw [← Nat.pow_add]; congr 1; omega, ← Nat.div_div_eq_div_mul, Nat.mul_div_cancel _ (Nat.pow_pos (by omega))]
  have h2 := Nat.mod_add_div (u * 2 ^ r) W64
  rw [h1] at h2
  rw [Dg.val_append, Dg.val_zeros, List.length_replicate, Nat.zero_add]
  simp only [Dg.val, Nat.mul_zero, Nat.add_zero]
  show W64 ^ Q * (u * 2 ^ r % W64 + W64 * (u / 2 ^ (64 - r))) = _
  rw [h2, h0, ← Nat.pow_mul, Nat.pow_add]
  generalize 2 ^ (64 * Q) = a
  generalize 2 ^ r = b
  rw [Nat.mul_left_comm]
theorem lo_lt (u r : Nat) : u * 2 ^ r % W64 < W64 := Nat.mod_lt _ (by unfold W64 Dg.W64; omega)
theorem hi_lt (u r : Nat) (hu : u < W64) : u / 2 ^ (64 - r) < W64 := Nat.lt_of_le_of_lt (Nat.div_le_self _ _) hu
theorem clear0 (w : World) (a : Option Addr) (c : Nat) : (Builtin.clear_ #[64] 0 #[.slice a 0 c]).run Try.prog w = .ok (.tuple #[]) w := by
  cases a <;> simp [Builtin.clear_, run_underlying Try.underlying64]
theorem wpList_clear {P : Program} {w : World} {ops : Array Oper} {rest : List Oper} {o : Oper} {a : Act} {Q : Exit → Act → World → Prop} (hgd : o.guard = none) (s : Operand) (t : TypeId)
    (ho : o.op = .call { callee := .builtin .clear, args := #[s], argTypes := #[t] }) (v : Value) (hs : a.eval s = v) (w' : World) (hrun : (Builtin.clear_ #[t] o.type #[v]).run P w = .ok (.tuple #[]) w')
    (h : wpList P ops Q rest (a.put o.dst (.tuple #[])) w') : wpList P ops Q (o :: rest) a w := by
  refine wpList_plain hgd fun K hK => ?_
  unfold Oper.wp
  simp [execOp, ho, resolve, invoke, builtin, hs, hrun, Result.andThen]
  exact hK _ _ h
theorem zeroW (w : World) : (zeroValue 72).run Try.prog w = .ok (.int .u64 0) w := by kernel_rfl
set_option maxRecDepth 100000 in
set_option maxHeartbeats 3200000 in
theorem natLsh_0 (u r : Nat) (hu : u < W64) (hr : r < 64) (s : Nat) (hs : s = 64 * 0 + r) (h1s : 1 ≤ s) (w : World) (b o : Nat) (hb : b < w.heap.size) (hx : w.cell? ⟨b, o, none⟩ = some (.int .u64 (u : Int))) :
    Calls Try.prog 31 #[.slice (some ⟨b, o, none⟩) 1 1, .slice (some ⟨b, o, none⟩) 1 1, .int .u64 (s : Int)] w (fun e w' => ∃ v, e = .returned v ∧ Rd w' v (cU (Dg.digs W64 (u * 2 ^ s))) ∧ Below w.heap.size w w') := by
  have C : Hid (Calls Try.prog 40 #[.slice (some ⟨b, o, none⟩) 1 1, .int .i64 2] w (fun e w' => e = .returned (.slice (some ⟨w.heap.size, 0, none⟩) 2 6) ∧ Blk w' w.heap.size 72 #[.int .u64 0, .int .u64 0, .int .u64 0, .int .u64 0, .int .u64 0, .int .u64 0] ∧ Below w.heap.size w w' ∧ w'.cell? ⟨b, o, none⟩ = some (.int .u64 (u : Int)))) := by
    have h := natMakeK 2 (by omega) (by omega) (some ⟨b, o, none⟩) 1 1 (by omega) w
    rw [show madeCells #[Value.int .u64 0] (2 + 4) = #[.int .u64 0, .int .u64 0, .int .u64 0, .int .u64 0, .int .u64 0, .int .u64 0] by rw [made_list]; rfl] at h
    exact h.mono fun e w' ⟨he, hw⟩ => ⟨he, by rw [hw]; exact Blk.new _ _ _, by rw [hw]; exact below1 _ _, by rw [hw]; exact ((below1 w _).cell (p := ⟨b, o, none⟩) hb).trans hx⟩
  have CL := hide (lshVU_one u r hu)
  have HV := hide (lsh_val 0 r u hr)
  have HL := hide (And.intro (lo_lt u r) (hi_lt u r hu))
  have HN := hide norm_any
  have hNN : u * 2 ^ s = u * 2 ^ (64 * 0 + r) := by rw [hs]
  rw [hNN]
  have hq : (s : Int) / 64 = 0 := by omega
  have hm : (s : Int) % 64 = (r : Int) := by omega
  have hs0 : ¬ (s : Int) = 0 := by omega
  have Hb := hide hb
  have Hu := hide hu
  have Hneb : Hid (b ≠ w.heap.size) := by simp only [Hid]; omega
  have H1s := hide (And.intro h1s hs)
  clear hu hs hb hx hNN h1s
  generalize hN : u * 2 ^ (64 * 0 + r) = N at *
  have HNN := hide hN
  clear hN
  rcases Nat.eq_zero_or_pos r with hr0 | hr0
  · exact absurd H1s.out.2 (by have := H1s.out.1; omega)
  · have CL2 := hide (CL.out hr0 hr)
    clear CL
    have hr00 : ¬ (r : Int) = 0 := by omega
    go_enter Try.func31, Try.ntmps31
    go_wp2_with fail
    refine C.out.mono ?_
    rintro e w1 ⟨rfl, hk1, hB1, hx1⟩
    have HLV := hide (CL2.out w1 b o 1 w.heap.size 0 6 hx1 (by rw [hk1.cell]; rfl) (hk1.frozen _))
    have Hk1 := hide hk1
    clear hk1 hx1
    go_wp2_with fail
    refine HLV.out.mono ?_
    rintro e w2 ⟨rfl, hw2⟩
    have hk2 : Blk w2 w.heap.size 72 #[.int .u64 ((u * 2 ^ r % W64 : Nat) : Int), .int .u64 0, .int .u64 0, .int .u64 0, .int .u64 0, .int .u64 0] := by rw [hw2]; simpa using Hk1.out.set_ 0 (.int .u64 ((u * 2 ^ r % W64 : Nat) : Int))
    have hB2 : Below w.heap.size w w2 := by rw [hw2]; exact hB1.setCell (Nat.le_refl _) _
    have y1 := hk2.cell 1
    have y2 := hk2.frozen 1
    simp only [List.getElem?_toArray, List.getElem?_cons_zero, List.getElem?_cons_succ] at y1
    clear hw2 HLV
    have hk3 : Blk (w2.setCell ⟨w.heap.size, 1, none⟩ (.int .u64 ((u / 2 ^ (64 - r) : Nat) : Int))) w.heap.size 72 #[.int .u64 ((u * 2 ^ r % W64 : Nat) : Int), .int .u64 ((u / 2 ^ (64 - r) : Nat) : Int), .int .u64 0, .int .u64 0, .int .u64 0, .int .u64 0] := by simpa using hk2.set_ 1 (.int .u64 ((u / 2 ^ (64 - r) : Nat) : Int))
    have hB3 : Below w.heap.size w (w2.setCell ⟨w.heap.size, 1, none⟩ (.int .u64 ((u / 2 ^ (64 - r) : Nat) : Int))) := hB2.setCell (Nat.le_refl _) _
    have hclr := clear0 (w2.setCell ⟨w.heap.size, 1, none⟩ (.int .u64 ((u / 2 ^ (64 - r) : Nat) : Int))) (some ⟨w.heap.size, 0, none⟩) 6
    have hk4 := hide hk3
    have hB4 := hide hB3
    have Hclr := hide hclr
    clear hk3 hB3 hclr hk2 hB2
    go_wp2_with (refine wpList_clear rfl _ _ rfl _ rfl _ Hclr.out ?_)
    have RD := rd_block (n := 2) (c := 6) (xs := cU [u * 2 ^ r % W64, u / 2 ^ (64 - r)]) hk4.out (by simp [cU]) (by omega) (by simp only [maxLen]; omega) (fun j v hj => by match j, hj with | 0, hj => exact hj | 1, hj => exact hj | (_ + 2), hj => simp [cU] at hj)
    have HLT : ∀ d ∈ [u * 2 ^ r % W64, u / 2 ^ (64 - r)], d < W64 := by
      have hW : 0 < W64 := by unfold W64 Dg.W64; omega
      have h1 := HL.out.1
      have h2 := HL.out.2
      have h3 := Hu.out
      intro d hd
      simp only [List.mem_cons, List.not_mem_nil, or_false] at hd
      rcases hd with rfl | rfl <;> assumption
    refine (HN.out [u * 2 ^ r % W64, u / 2 ^ (64 - r)] HLT _ _ RD).mono ?_
    rintro e w5 ⟨⟨v, rfl, hr5⟩, rfl⟩
    have Hr5 := hide hr5
    clear hr5 RD
    go_wp2
    go_ret
    have e5 := Hr5.out
    rw [show Dg.val W64 [u * 2 ^ r % W64, u / 2 ^ (64 - r)] = N from HV.out] at e5
    exact ⟨v, rfl, e5, hB4.out⟩
set_option maxRecDepth 100000 in
set_option maxHeartbeats 3200000 in
theorem natLsh_1 (u r : Nat) (hu : u < W64) (hr : r < 64) (s : Nat) (hs : s = 64 * 1 + r) (h1s : 1 ≤ s) (w : World) (b o : Nat) (hb : b < w.heap.size) (hx : w.cell? ⟨b, o, none⟩ = some (.int .u64 (u : Int))) :
    Calls Try.prog 31 #[.slice (some ⟨b, o, none⟩) 1 1, .slice (some ⟨b, o, none⟩) 1 1, .int .u64 (s : Int)] w (fun e w' => ∃ v, e = .returned v ∧ Rd w' v (cU (Dg.digs W64 (u * 2 ^ s))) ∧ Below w.heap.size w w') := by
  have C : Hid (Calls Try.prog 40 #[.slice (some ⟨b, o, none⟩) 1 1, .int .i64 3] w (fun e w' => e = .returned (.slice (some ⟨w.heap.size, 0, none⟩) 3 7) ∧ Blk w' w.heap.size 72 #[.int .u64 0, .int .u64 0, .int .u64 0, .int .u64 0, .int .u64 0, .int .u64 0, .int .u64 0] ∧ Below w.heap.size w w' ∧ w'.cell? ⟨b, o, none⟩ = some (.int .u64 (u : Int)))) := by
    have h := natMakeK 3 (by omega) (by omega) (some ⟨b, o, none⟩) 1 1 (by omega) w
    rw [show madeCells #[Value.int .u64 0] (3 + 4) = #[.int .u64 0, .int .u64 0, .int .u64 0, .int .u64 0, .int .u64 0, .int .u64 0, .int .u64 0] by rw [made_list]; rfl] at h
    exact h.mono fun e w' ⟨he, hw⟩ => ⟨he, by rw [hw]; exact Blk.new _ _ _, by rw [hw]; exact below1 _ _, by rw [hw]; exact ((below1 w _).cell (p := ⟨b, o, none⟩) hb).trans hx⟩
  have CL := hide (lshVU_one u r hu)
  have HV := hide (lsh_val 1 r u hr)
  have HL := hide (And.intro (lo_lt u r) (hi_lt u r hu))
  have HN := hide norm_any
  have hNN : u * 2 ^ s = u * 2 ^ (64 * 1 + r) := by rw [hs]
  rw [hNN]
  have hq : (s : Int) / 64 = 1 := by omega
  have hm : (s : Int) % 64 = (r : Int) := by omega
  have hs0 : ¬ (s : Int) = 0 := by omega
  have Hb := hide hb
  have Hu := hide hu
  have Hneb : Hid (b ≠ w.heap.size) := by simp only [Hid]; omega
  have H1s := hide (And.intro h1s hs)
  clear hu hs hb hx hNN h1s
  generalize hN : u * 2 ^ (64 * 1 + r) = N at *
  have HNN := hide hN
  clear hN
  rcases Nat.eq_zero_or_pos r with hr0 | hr0
  · subst hr0
    clear CL
    have HV : Hid (Dg.val W64 [0, u, 0] = N) := by
      have e := HV.out
      rw [Nat.pow_zero, Nat.mul_one, Nat.mod_eq_of_lt Hu.out, show u / 2 ^ (64 - 0) = 0 from Nat.div_eq_of_lt Hu.out] at e
      exact e
    have hm : (s : Int) % 64 = 0 := hm
    go_enter Try.func31, Try.ntmps31
    go_wp2_with fail
    refine C.out.mono ?_
    rintro e w1 ⟨rfl, hk1, hB1, hx1⟩
    have Hk1 := hide hk1
    have Hx1 := hide hx1
    clear hk1 hx1
    go_wp2_with (first | (refine wpList_copy_own rfl _ _ _ _ rfl 72 Try.underlying64 sizeW' w.heap.size 1 1 _ ⟨b, o, none⟩ 1 1 rfl rfl #[.int .u64 0, .int .u64 0, .int .u64 0, .int .u64 0, .int .u64 0, .int .u64 0, .int .u64 0] 72 Hk1.out [.int .u64 (u : Int)] (by simp) (fun j v hj => by match j, hj with | 0, hj => simp at hj; subst hj; exact Hx1.out) (by simp) (fun v hv => by simp at hv; subst hv; rfl) ?_; obtain ⟨w2, hw2⟩ : ∃ w2, w2 = World.setRow w1 w.heap.size #[.int .u64 0, .int .u64 (u : Int), .int .u64 0, .int .u64 0, .int .u64 0, .int .u64 0, .int .u64 0] := ⟨_, rfl⟩; (have hk2 : Blk w2 w.heap.size 72 #[.int .u64 0, .int .u64 (u : Int), .int .u64 0, .int .u64 0, .int .u64 0, .int .u64 0, .int .u64 0] := by rw [hw2]; exact setRow_heap _ _ _ _ _ _ Hk1.out); (have hB2 : Below w.heap.size w w2 := by rw [hw2]; exact below_setRow hB1 (Nat.le_refl _) _); refine (show wpList _ _ _ _ _ (World.setRow w1 w.heap.size #[.int .u64 0, .int .u64 (u : Int), .int .u64 0, .int .u64 0, .int .u64 0, .int .u64 0, .int .u64 0]) from ?_); rw [← hw2]; clear hw2; (have y1 := hk2.cell 2); (have y2 := hk2.frozen 2); simp only [List.getElem?_toArray, List.getElem?_cons_zero, List.getElem?_cons_succ] at y1; (have hk3 : Blk (w2.setCell ⟨w.heap.size, 2, none⟩ (.int .u64 0)) w.heap.size 72 #[.int .u64 0, .int .u64 (u : Int), .int .u64 0, .int .u64 0, .int .u64 0, .int .u64 0, .int .u64 0] := by simpa using hk2.set_ 2 (.int .u64 0)); (have hB3 : Below w.heap.size w (w2.setCell ⟨w.heap.size, 2, none⟩ (.int .u64 0)) := hB2.setCell (Nat.le_refl _) _); (have hclr := Go.Lib.run_clear_slice (P := Try.prog) (w2.setCell ⟨w.heap.size, 2, none⟩ (.int .u64 0)) 64 72 0 (.int .u64 0) Try.underlying64 zeroW rfl rfl w.heap.size 0 1 7 (by omega) (fun j hj => by rw [hk3.cell]; match j, hj with | 0, _ => rfl) (fun j hj => hk3.frozen _)); (have hk4 : Hid (Blk (World.setCells (w2.setCell ⟨w.heap.size, 2, none⟩ (.int .u64 0)) w.heap.size 0 (List.replicate 1 (.int .u64 0))) w.heap.size 72 #[.int .u64 0, .int .u64 (u : Int), .int .u64 0, .int .u64 0, .int .u64 0, .int .u64 0, .int .u64 0]) := by have h := (hk3.set_ 0 (.int .u64 0)); simp only [List.setIfInBounds_toArray, List.set_cons_zero] at h; exact h); (have hB4 : Hid (Below w.heap.size w (World.setCells (w2.setCell ⟨w.heap.size, 2, none⟩ (.int .u64 0)) w.heap.size 0 (List.replicate 1 (.int .u64 0)))) := (hB3.setCell (Nat.le_refl _) _)); (have Hclr := hide hclr); clear hk3 hB3 hclr hk2 hB2) | (refine wpList_clear rfl _ _ rfl _ rfl _ Hclr.out ?_))
    have RD := rd_block (n := 3) (c := 7) (xs := cU [0, u, 0]) hk4.out (by simp [cU]) (by omega) (by simp only [maxLen]; omega) (fun j v hj => by match j, hj with | 0, hj => exact hj | 1, hj => exact hj | 2, hj => exact hj | (_ + 3), hj => simp [cU] at hj)
    have HLT : ∀ d ∈ [0, u, 0], d < W64 := by
      have hW : 0 < W64 := by unfold W64 Dg.W64; omega
      have h1 := HL.out.1
      have h2 := HL.out.2
      have h3 := Hu.out
      intro d hd
      simp only [List.mem_cons, List.not_mem_nil, or_false] at hd
      rcases hd with rfl | rfl | rfl <;> assumption
    refine (HN.out [0, u, 0] HLT _ _ RD).mono ?_
    rintro e w5 ⟨⟨v, rfl, hr5⟩, rfl⟩
    have Hr5 := hide hr5
    clear hr5 RD
    go_wp2
    go_ret
    have e5 := Hr5.out
    rw [show Dg.val W64 [0, u, 0] = N from HV.out] at e5
    exact ⟨v, rfl, e5, hB4.out⟩
  · have CL2 := hide (CL.out hr0 hr)
    clear CL
    have hr00 : ¬ (r : Int) = 0 := by omega
    go_enter Try.func31, Try.ntmps31
    go_wp2_with fail
    refine C.out.mono ?_
    rintro e w1 ⟨rfl, hk1, hB1, hx1⟩
    have HLV := hide (CL2.out w1 b o 1 w.heap.size 1 6 hx1 (by rw [hk1.cell]; rfl) (hk1.frozen _))
    have Hk1 := hide hk1
    clear hk1 hx1
    go_wp2_with fail
    refine HLV.out.mono ?_
    rintro e w2 ⟨rfl, hw2⟩
    have hk2 : Blk w2 w.heap.size 72 #[.int .u64 0, .int .u64 ((u * 2 ^ r % W64 : Nat) : Int), .int .u64 0, .int .u64 0, .int .u64 0, .int .u64 0, .int .u64 0] := by rw [hw2]; simpa using Hk1.out.set_ 1 (.int .u64 ((u * 2 ^ r % W64 : Nat) : Int))
    have hB2 : Below w.heap.size w w2 := by rw [hw2]; exact hB1.setCell (Nat.le_refl _) _
    have y1 := hk2.cell 2
    have y2 := hk2.frozen 2
    simp only [List.getElem?_toArray, List.getElem?_cons_zero, List.getElem?_cons_succ] at y1
    clear hw2 HLV
    have hk3 : Blk (w2.setCell ⟨w.heap.size, 2, none⟩ (.int .u64 ((u / 2 ^ (64 - r) : Nat) : Int))) w.heap.size 72 #[.int .u64 0, .int .u64 ((u * 2 ^ r % W64 : Nat) : Int), .int .u64 ((u / 2 ^ (64 - r) : Nat) : Int), .int .u64 0, .int .u64 0, .int .u64 0, .int .u64 0] := by simpa using hk2.set_ 2 (.int .u64 ((u / 2 ^ (64 - r) : Nat) : Int))
    have hB3 : Below w.heap.size w (w2.setCell ⟨w.heap.size, 2, none⟩ (.int .u64 ((u / 2 ^ (64 - r) : Nat) : Int))) := hB2.setCell (Nat.le_refl _) _
    have hclr := Go.Lib.run_clear_slice (P := Try.prog) (w2.setCell ⟨w.heap.size, 2, none⟩ (.int .u64 ((u / 2 ^ (64 - r) : Nat) : Int))) 64 72 0 (.int .u64 0) Try.underlying64 zeroW rfl rfl w.heap.size 0 1 7 (by omega) (fun j hj => by rw [hk3.cell]; match j, hj with | 0, _ => rfl) (fun j hj => hk3.frozen _)
    have hk4 : Hid (Blk (World.setCells (w2.setCell ⟨w.heap.size, 2, none⟩ (.int .u64 ((u / 2 ^ (64 - r) : Nat) : Int))) w.heap.size 0 (List.replicate 1 (.int .u64 0))) w.heap.size 72 #[.int .u64 0, .int .u64 ((u * 2 ^ r % W64 : Nat) : Int), .int .u64 ((u / 2 ^ (64 - r) : Nat) : Int), .int .u64 0, .int .u64 0, .int .u64 0, .int .u64 0]) := by have h := (hk3.set_ 0 (.int .u64 0)); simp only [List.setIfInBounds_toArray, List.set_cons_zero] at h; exact h
    have hB4 : Hid (Below w.heap.size w (World.setCells (w2.setCell ⟨w.heap.size, 2, none⟩ (.int .u64 ((u / 2 ^ (64 - r) : Nat) : Int))) w.heap.size 0 (List.replicate 1 (.int .u64 0)))) := (hB3.setCell (Nat.le_refl _) _)
    have Hclr := hide hclr
    clear hk3 hB3 hclr hk2 hB2
    go_wp2_with (refine wpList_clear rfl _ _ rfl _ rfl _ Hclr.out ?_)
    have RD := rd_block (n := 3) (c := 7) (xs := cU [0, u * 2 ^ r % W64, u / 2 ^ (64 - r)]) hk4.out (by simp [cU]) (by omega) (by simp only [maxLen]; omega) (fun j v hj => by match j, hj with | 0, hj => exact hj | 1, hj => exact hj | 2, hj => exact hj | (_ + 3), hj => simp [cU] at hj)
    have HLT : ∀ d ∈ [0, u * 2 ^ r % W64, u / 2 ^ (64 - r)], d < W64 := by
      have hW : 0 < W64 := by unfold W64 Dg.W64; omega
      have h1 := HL.out.1
      have h2 := HL.out.2
      have h3 := Hu.out
      intro d hd
      simp only [List.mem_cons, List.not_mem_nil, or_false] at hd
      rcases hd with rfl | rfl | rfl <;> assumption
    refine (HN.out [0, u * 2 ^ r % W64, u / 2 ^ (64 - r)] HLT _ _ RD).mono ?_
    rintro e w5 ⟨⟨v, rfl, hr5⟩, rfl⟩
    have Hr5 := hide hr5
    clear hr5 RD
    go_wp2
    go_ret
    have e5 := Hr5.out
    rw [show Dg.val W64 [0, u * 2 ^ r % W64, u / 2 ^ (64 - r)] = N from HV.out] at e5
    exact ⟨v, rfl, e5, hB4.out⟩
set_option maxRecDepth 100000 in
set_option maxHeartbeats 3200000 in
theorem natLsh_2 (u r : Nat) (hu : u < W64) (hr : r < 64) (s : Nat) (hs : s = 64 * 2 + r) (h1s : 1 ≤ s) (w : World) (b o : Nat) (hb : b < w.heap.size) (hx : w.cell? ⟨b, o, none⟩ = some (.int .u64 (u : Int))) :
    Calls Try.prog 31 #[.slice (some ⟨b, o, none⟩) 1 1, .slice (some ⟨b, o, none⟩) 1 1, .int .u64 (s : Int)] w (fun e w' => ∃ v, e = .returned v ∧ Rd w' v (cU (Dg.digs W64 (u * 2 ^ s))) ∧ Below w.heap.size w w') := by
  have C : Hid (Calls Try.prog 40 #[.slice (some ⟨b, o, none⟩) 1 1, .int .i64 4] w (fun e w' => e = .returned (.slice (some ⟨w.heap.size, 0, none⟩) 4 8) ∧ Blk w' w.heap.size 72 #[.int .u64 0, .int .u64 0, .int .u64 0, .int .u64 0, .int .u64 0, .int .u64 0, .int .u64 0, .int .u64 0] ∧ Below w.heap.size w w' ∧ w'.cell? ⟨b, o, none⟩ = some (.int .u64 (u : Int)))) := by
    have h := natMakeK 4 (by omega) (by omega) (some ⟨b, o, none⟩) 1 1 (by omega) w
    rw [show madeCells #[Value.int .u64 0] (4 + 4) = #[.int .u64 0, .int .u64 0, .int .u64 0, .int .u64 0, .int .u64 0, .int .u64 0, .int .u64 0, .int .u64 0] by rw [made_list]; rfl] at h
    exact h.mono fun e w' ⟨he, hw⟩ => ⟨he, by rw [hw]; exact Blk.new _ _ _, by rw [hw]; exact below1 _ _, by rw [hw]; exact ((below1 w _).cell (p := ⟨b, o, none⟩) hb).trans hx⟩
  have CL := hide (lshVU_one u r hu)
  have HV := hide (lsh_val 2 r u hr)
  have HL := hide (And.intro (lo_lt u r) (hi_lt u r hu))
  have HN := hide norm_any
  have hNN : u * 2 ^ s = u * 2 ^ (64 * 2 + r) := by rw [hs]
  rw [hNN]
  have hq : (s : Int) / 64 = 2 := by omega
  have hm : (s : Int) % 64 = (r : Int) := by omega
  have hs0 : ¬ (s : Int) = 0 := by omega
  have Hb := hide hb
  have Hu := hide hu
  have Hneb : Hid (b ≠ w.heap.size) := by simp only [Hid]; omega
  have H1s := hide (And.intro h1s hs)
  clear hu hs hb hx hNN h1s
  generalize hN : u * 2 ^ (64 * 2 + r) = N at *
  have HNN := hide hN
  clear hN
  rcases Nat.eq_zero_or_pos r with hr0 | hr0
  · subst hr0
    clear CL
    have HV : Hid (Dg.val W64 [0, 0, u, 0] = N) := by
      have e := HV.out
      rw [Nat.pow_zero, Nat.mul_one, Nat.mod_eq_of_lt Hu.out, show u / 2 ^ (64 - 0) = 0 from Nat.div_eq_of_lt Hu.out] at e
      exact e
    have hm : (s : Int) % 64 = 0 := hm
    go_enter Try.func31, Try.ntmps31
    go_wp2_with fail
    refine C.out.mono ?_
    rintro e w1 ⟨rfl, hk1, hB1, hx1⟩
    have Hk1 := hide hk1
    have Hx1 := hide hx1
    clear hk1 hx1
    go_wp2_with (first | (refine wpList_copy_own rfl _ _ _ _ rfl 72 Try.underlying64 sizeW' w.heap.size 2 1 _ ⟨b, o, none⟩ 1 1 rfl rfl #[.int .u64 0, .int .u64 0, .int .u64 0, .int .u64 0, .int .u64 0, .int .u64 0, .int .u64 0, .int .u64 0] 72 Hk1.out [.int .u64 (u : Int)] (by simp) (fun j v hj => by match j, hj with | 0, hj => simp at hj; subst hj; exact Hx1.out) (by simp) (fun v hv => by simp at hv; subst hv; rfl) ?_; obtain ⟨w2, hw2⟩ : ∃ w2, w2 = World.setRow w1 w.heap.size #[.int .u64 0, .int .u64 0, .int .u64 (u : Int), .int .u64 0, .int .u64 0, .int .u64 0, .int .u64 0, .int .u64 0] := ⟨_, rfl⟩; (have hk2 : Blk w2 w.heap.size 72 #[.int .u64 0, .int .u64 0, .int .u64 (u : Int), .int .u64 0, .int .u64 0, .int .u64 0, .int .u64 0, .int .u64 0] := by rw [hw2]; exact setRow_heap _ _ _ _ _ _ Hk1.out); (have hB2 : Below w.heap.size w w2 := by rw [hw2]; exact below_setRow hB1 (Nat.le_refl _) _); refine (show wpList _ _ _ _ _ (World.setRow w1 w.heap.size #[.int .u64 0, .int .u64 0, .int .u64 (u : Int), .int .u64 0, .int .u64 0, .int .u64 0, .int .u64 0, .int .u64 0]) from ?_); rw [← hw2]; clear hw2; (have y1 := hk2.cell 3); (have y2 := hk2.frozen 3); simp only [List.getElem?_toArray, List.getElem?_cons_zero, List.getElem?_cons_succ] at y1; (have hk3 : Blk (w2.setCell ⟨w.heap.size, 3, none⟩ (.int .u64 0)) w.heap.size 72 #[.int .u64 0, .int .u64 0, .int .u64 (u : Int), .int .u64 0, .int .u64 0, .int .u64 0, .int .u64 0, .int .u64 0] := by simpa using hk2.set_ 3 (.int .u64 0)); (have hB3 : Below w.heap.size w (w2.setCell ⟨w.heap.size, 3, none⟩ (.int .u64 0)) := hB2.setCell (Nat.le_refl _) _); (have hclr := Go.Lib.run_clear_slice (P := Try.prog) (w2.setCell ⟨w.heap.size, 3, none⟩ (.int .u64 0)) 64 72 0 (.int .u64 0) Try.underlying64 zeroW rfl rfl w.heap.size 0 2 8 (by omega) (fun j hj => by rw [hk3.cell]; match j, hj with | 0, _ => rfl | 1, _ => rfl) (fun j hj => hk3.frozen _)); (have hk4 : Hid (Blk (World.setCells (w2.setCell ⟨w.heap.size, 3, none⟩ (.int .u64 0)) w.heap.size 0 (List.replicate 2 (.int .u64 0))) w.heap.size 72 #[.int .u64 0, .int .u64 0, .int .u64 (u : Int), .int .u64 0, .int .u64 0, .int .u64 0, .int .u64 0, .int .u64 0]) := by have h := ((hk3.set_ 0 (.int .u64 0)).set_ 1 (.int .u64 0)); simp only [List.setIfInBounds_toArray, List.set_cons_zero, List.set_cons_succ] at h; exact h); (have hB4 : Hid (Below w.heap.size w (World.setCells (w2.setCell ⟨w.heap.size, 3, none⟩ (.int .u64 0)) w.heap.size 0 (List.replicate 2 (.int .u64 0)))) := ((hB3.setCell (Nat.le_refl _) _).setCell (Nat.le_refl _) _)); (have Hclr := hide hclr); clear hk3 hB3 hclr hk2 hB2) | (refine wpList_clear rfl _ _ rfl _ rfl _ Hclr.out ?_))
    have RD := rd_block (n := 4) (c := 8) (xs := cU [0, 0, u, 0]) hk4.out (by simp [cU]) (by omega) (by simp only [maxLen]; omega) (fun j v hj => by match j, hj with | 0, hj => exact hj | 1, hj => exact hj | 2, hj => exact hj | 3, hj => exact hj | (_ + 4), hj => simp [cU] at hj)
    have HLT : ∀ d ∈ [0, 0, u, 0], d < W64 := by
      have hW : 0 < W64 := by unfold W64 Dg.W64; omega
      have h1 := HL.out.1
      have h2 := HL.out.2
      have h3 := Hu.out
      intro d hd
      simp only [List.mem_cons, List.not_mem_nil, or_false] at hd
      rcases hd with rfl | rfl | rfl | rfl <;> assumption
    refine (HN.out [0, 0, u, 0] HLT _ _ RD).mono ?_
    rintro e w5 ⟨⟨v, rfl, hr5⟩, rfl⟩
    have Hr5 := hide hr5
    clear hr5 RD
    go_wp2
    go_ret
    have e5 := Hr5.out
    rw [show Dg.val W64 [0, 0, u, 0] = N from HV.out] at e5
    exact ⟨v, rfl, e5, hB4.out⟩
  · have CL2 := hide (CL.out hr0 hr)
    clear CL
    have hr00 : ¬ (r : Int) = 0 := by omega
    go_enter Try.func31, Try.ntmps31
    go_wp2_with fail
    refine C.out.mono ?_
    rintro e w1 ⟨rfl, hk1, hB1, hx1⟩
    have HLV := hide (CL2.out w1 b o 1 w.heap.size 2 6 hx1 (by rw [hk1.cell]; rfl) (hk1.frozen _))
    have Hk1 := hide hk1
    clear hk1 hx1
    go_wp2_with fail
    refine HLV.out.mono ?_
    rintro e w2 ⟨rfl, hw2⟩
    have hk2 : Blk w2 w.heap.size 72 #[.int .u64 0, .int .u64 0, .int .u64 ((u * 2 ^ r % W64 : Nat) : Int), .int .u64 0, .int .u64 0, .int .u64 0, .int .u64 0, .int .u64 0] := by rw [hw2]; simpa using Hk1.out.set_ 2 (.int .u64 ((u * 2 ^ r % W64 : Nat) : Int))
    have hB2 : Below w.heap.size w w2 := by rw [hw2]; exact hB1.setCell (Nat.le_refl _) _
    have y1 := hk2.cell 3
    have y2 := hk2.frozen 3
    simp only [List.getElem?_toArray, List.getElem?_cons_zero, List.getElem?_cons_succ] at y1
    clear hw2 HLV
    have hk3 : Blk (w2.setCell ⟨w.heap.size, 3, none⟩ (.int .u64 ((u / 2 ^ (64 - r) : Nat) : Int))) w.heap.size 72 #[.int .u64 0, .int .u64 0, .int .u64 ((u * 2 ^ r % W64 : Nat) : Int), .int .u64 ((u / 2 ^ (64 - r) : Nat) : Int), .int .u64 0, .int .u64 0, .int .u64 0, .int .u64 0] := by simpa using hk2.set_ 3 (.int .u64 ((u / 2 ^ (64 - r) : Nat) : Int))
    have hB3 : Below w.heap.size w (w2.setCell ⟨w.heap.size, 3, none⟩ (.int .u64 ((u / 2 ^ (64 - r) : Nat) : Int))) := hB2.setCell (Nat.le_refl _) _
    have hclr := Go.Lib.run_clear_slice (P := Try.prog) (w2.setCell ⟨w.heap.size, 3, none⟩ (.int .u64 ((u / 2 ^ (64 - r) : Nat) : Int))) 64 72 0 (.int .u64 0) Try.underlying64 zeroW rfl rfl w.heap.size 0 2 8 (by omega) (fun j hj => by rw [hk3.cell]; match j, hj with | 0, _ => rfl | 1, _ => rfl) (fun j hj => hk3.frozen _)
    have hk4 : Hid (Blk (World.setCells (w2.setCell ⟨w.heap.size, 3, none⟩ (.int .u64 ((u / 2 ^ (64 - r) : Nat) : Int))) w.heap.size 0 (List.replicate 2 (.int .u64 0))) w.heap.size 72 #[.int .u64 0, .int .u64 0, .int .u64 ((u * 2 ^ r % W64 : Nat) : Int), .int .u64 ((u / 2 ^ (64 - r) : Nat) : Int), .int .u64 0, .int .u64 0, .int .u64 0, .int .u64 0]) := by have h := ((hk3.set_ 0 (.int .u64 0)).set_ 1 (.int .u64 0)); simp only [List.setIfInBounds_toArray, List.set_cons_zero, List.set_cons_succ] at h; exact h
    have hB4 : Hid (Below w.heap.size w (World.setCells (w2.setCell ⟨w.heap.size, 3, none⟩ (.int .u64 ((u / 2 ^ (64 - r) : Nat) : Int))) w.heap.size 0 (List.replicate 2 (.int .u64 0)))) := ((hB3.setCell (Nat.le_refl _) _).setCell (Nat.le_refl _) _)
    have Hclr := hide hclr
    clear hk3 hB3 hclr hk2 hB2
    go_wp2_with (refine wpList_clear rfl _ _ rfl _ rfl _ Hclr.out ?_)
    have RD := rd_block (n := 4) (c := 8) (xs := cU [0, 0, u * 2 ^ r % W64, u / 2 ^ (64 - r)]) hk4.out (by simp [cU]) (by omega) (by simp only [maxLen]; omega) (fun j v hj => by match j, hj with | 0, hj => exact hj | 1, hj => exact hj | 2, hj => exact hj | 3, hj => exact hj | (_ + 4), hj => simp [cU] at hj)
    have HLT : ∀ d ∈ [0, 0, u * 2 ^ r % W64, u / 2 ^ (64 - r)], d < W64 := by
      have hW : 0 < W64 := by unfold W64 Dg.W64; omega
      have h1 := HL.out.1
      have h2 := HL.out.2
      have h3 := Hu.out
      intro d hd
      simp only [List.mem_cons, List.not_mem_nil, or_false] at hd
      rcases hd with rfl | rfl | rfl | rfl <;> assumption
    refine (HN.out [0, 0, u * 2 ^ r % W64, u / 2 ^ (64 - r)] HLT _ _ RD).mono ?_
    rintro e w5 ⟨⟨v, rfl, hr5⟩, rfl⟩
    have Hr5 := hide hr5
    clear hr5 RD
    go_wp2
    go_ret
    have e5 := Hr5.out
    rw [show Dg.val W64 [0, 0, u * 2 ^ r % W64, u / 2 ^ (64 - r)] = N from HV.out] at e5
    exact ⟨v, rfl, e5, hB4.out⟩
set_option maxRecDepth 100000 in
set_option maxHeartbeats 3200000 in
theorem natLsh_3 (u r : Nat) (hu : u < W64) (hr : r < 64) (s : Nat) (hs : s = 64 * 3 + r) (h1s : 1 ≤ s) (w : World) (b o : Nat) (hb : b < w.heap.size) (hx : w.cell? ⟨b, o, none⟩ = some (.int .u64 (u : Int))) :
    Calls Try.prog 31 #[.slice (some ⟨b, o, none⟩) 1 1, .slice (some ⟨b, o, none⟩) 1 1, .int .u64 (s : Int)] w (fun e w' => ∃ v, e = .returned v ∧ Rd w' v (cU (Dg.digs W64 (u * 2 ^ s))) ∧ Below w.heap.size w w') := by
  have C : Hid (Calls Try.prog 40 #[.slice (some ⟨b, o, none⟩) 1 1, .int .i64 5] w (fun e w' => e = .returned (.slice (some ⟨w.heap.size, 0, none⟩) 5 9) ∧ Blk w' w.heap.size 72 #[.int .u64 0, .int .u64 0, .int .u64 0, .int .u64 0, .int .u64 0, .int .u64 0, .int .u64 0, .int .u64 0, .int .u64 0] ∧ Below w.heap.size w w' ∧ w'.cell? ⟨b, o, none⟩ = some (.int .u64 (u : Int)))) := by
    have h := natMakeK 5 (by omega) (by omega) (some ⟨b, o, none⟩) 1 1 (by omega) w
    rw [show madeCells #[Value.int .u64 0] (5 + 4) = #[.int .u64 0, .int .u64 0, .int .u64 0, .int .u64 0, .int .u64 0, .int .u64 0, .int .u64 0, .int .u64 0, .int .u64 0] by rw [made_list]; rfl] at h
    exact h.mono fun e w' ⟨he, hw⟩ => ⟨he, by rw [hw]; exact Blk.new _ _ _, by rw [hw]; exact below1 _ _, by rw [hw]; exact ((below1 w _).cell (p := ⟨b, o, none⟩) hb).trans hx⟩
  have CL := hide (lshVU_one u r hu)
  have HV := hide (lsh_val 3 r u hr)
  have HL := hide (And.intro (lo_lt u r) (hi_lt u r hu))
  have HN := hide norm_any
  have hNN : u * 2 ^ s = u * 2 ^ (64 * 3 + r) := by rw [hs]
  rw [hNN]
  have hq : (s : Int) / 64 = 3 := by omega
  have hm : (s : Int) % 64 = (r : Int) := by omega
  have hs0 : ¬ (s : Int) = 0 := by omega
  have Hb := hide hb
  have Hu := hide hu
  have Hneb : Hid (b ≠ w.heap.size) := by simp only [Hid]; omega
  have H1s := hide (And.intro h1s hs)
  clear hu hs hb hx hNN h1s
  generalize hN : u * 2 ^ (64 * 3 + r) = N at *
  have HNN := hide hN
  clear hN
  rcases Nat.eq_zero_or_pos r with hr0 | hr0
  · subst hr0
    clear CL
    have HV : Hid (Dg.val W64 [0, 0, 0, u, 0] = N) := by
      have e := HV.out
      rw [Nat.pow_zero, Nat.mul_one, Nat.mod_eq_of_lt Hu.out, show u / 2 ^ (64 - 0) = 0 from Nat.div_eq_of_lt Hu.out] at e
      exact e
    have hm : (s : Int) % 64 = 0 := hm
    go_enter Try.func31, Try.ntmps31
    go_wp2_with fail
    refine C.out.mono ?_
    rintro e w1 ⟨rfl, hk1, hB1, hx1⟩
    have Hk1 := hide hk1
    have Hx1 := hide hx1
    clear hk1 hx1
    go_wp2_with (first | (refine wpList_copy_own rfl _ _ _ _ rfl 72 Try.underlying64 sizeW' w.heap.size 3 1 _ ⟨b, o, none⟩ 1 1 rfl rfl #[.int .u64 0, .int .u64 0, .int .u64 0, .int .u64 0, .int .u64 0, .int .u64 0, .int .u64 0, .int .u64 0, .int .u64 0] 72 Hk1.out [.int .u64 (u : Int)] (by simp) (fun j v hj => by match j, hj with | 0, hj => simp at hj; subst hj; exact Hx1.out) (by simp) (fun v hv => by simp at hv; subst hv; rfl) ?_; obtain ⟨w2, hw2⟩ : ∃ w2, w2 = World.setRow w1 w.heap.size #[.int .u64 0, .int .u64 0, .int .u64 0, .int .u64 (u : Int), .int .u64 0, .int .u64 0, .int .u64 0, .int .u64 0, .int .u64 0] := ⟨_, rfl⟩; (have hk2 : Blk w2 w.heap.size 72 #[.int .u64 0, .int .u64 0, .int .u64 0, .int .u64 (u : Int), .int .u64 0, .int .u64 0, .int .u64 0, .int .u64 0, .int .u64 0] := by rw [hw2]; exact setRow_heap _ _ _ _ _ _ Hk1.out); (have hB2 : Below w.heap.size w w2 := by rw [hw2]; exact below_setRow hB1 (Nat.le_refl _) _); refine (show wpList _ _ _ _ _ (World.setRow w1 w.heap.size #[.int .u64 0, .int .u64 0, .int .u64 0, .int .u64 (u : Int), .int .u64 0, .int .u64 0, .int .u64 0, .int .u64 0, .int .u64 0]) from ?_); rw [← hw2]; clear hw2; (have y1 := hk2.cell 4); (have y2 := hk2.frozen 4); simp only [List.getElem?_toArray, List.getElem?_cons_zero, List.getElem?_cons_succ] at y1; (have hk3 : Blk (w2.setCell ⟨w.heap.size, 4, none⟩ (.int .u64 0)) w.heap.size 72 #[.int .u64 0, .int .u64 0, .int .u64 0, .int .u64 (u : Int), .int .u64 0, .int .u64 0, .int .u64 0, .int .u64 0, .int .u64 0] := by simpa using hk2.set_ 4 (.int .u64 0)); (have hB3 : Below w.heap.size w (w2.setCell ⟨w.heap.size, 4, none⟩ (.int .u64 0)) := hB2.setCell (Nat.le_refl _) _); (have hclr := Go.Lib.run_clear_slice (P := Try.prog) (w2.setCell ⟨w.heap.size, 4, none⟩ (.int .u64 0)) 64 72 0 (.int .u64 0) Try.underlying64 zeroW rfl rfl w.heap.size 0 3 9 (by omega) (fun j hj => by rw [hk3.cell]; match j, hj with | 0, _ => rfl | 1, _ => rfl | 2, _ => rfl) (fun j hj => hk3.frozen _)); (have hk4 : Hid (Blk (World.setCells (w2.setCell ⟨w.heap.size, 4, none⟩ (.int .u64 0)) w.heap.size 0 (List.replicate 3 (.int .u64 0))) w.heap.size 72 #[.int .u64 0, .int .u64 0, .int .u64 0, .int .u64 (u : Int), .int .u64 0, .int .u64 0, .int .u64 0, .int .u64 0, .int .u64 0]) := by have h := (((hk3.set_ 0 (.int .u64 0)).set_ 1 (.int .u64 0)).set_ 2 (.int .u64 0)); simp only [List.setIfInBounds_toArray, List.set_cons_zero, List.set_cons_succ] at h; exact h); (have hB4 : Hid (Below w.heap.size w (World.setCells (w2.setCell ⟨w.heap.size, 4, none⟩ (.int .u64 0)) w.heap.size 0 (List.replicate 3 (.int .u64 0)))) := (((hB3.setCell (Nat.le_refl _) _).setCell (Nat.le_refl _) _).setCell (Nat.le_refl _) _)); (have Hclr := hide hclr); clear hk3 hB3 hclr hk2 hB2) | (refine wpList_clear rfl _ _ rfl _ rfl _ Hclr.out ?_))
    have RD := rd_block (n := 5) (c := 9) (xs := cU [0, 0, 0, u, 0]) hk4.out (by simp [cU]) (by omega) (by simp only [maxLen]; omega) (fun j v hj => by match j, hj with | 0, hj => exact hj | 1, hj => exact hj | 2, hj => exact hj | 3, hj => exact hj | 4, hj => exact hj | (_ + 5), hj => simp [cU] at hj)
    have HLT : ∀ d ∈ [0, 0, 0, u, 0], d < W64 := by
      have hW : 0 < W64 := by unfold W64 Dg.W64; omega
      have h1 := HL.out.1
      have h2 := HL.out.2
      have h3 := Hu.out
      intro d hd
      simp only [List.mem_cons, List.not_mem_nil, or_false] at hd
      rcases hd with rfl | rfl | rfl | rfl | rfl <;> assumption
    refine (HN.out [0, 0, 0, u, 0] HLT _ _ RD).mono ?_
    rintro e w5 ⟨⟨v, rfl, hr5⟩, rfl⟩
    have Hr5 := hide hr5
    clear hr5 RD
    go_wp2
    go_ret
    have e5 := Hr5.out
    rw [show Dg.val W64 [0, 0, 0, u, 0] = N from HV.out] at e5
    exact ⟨v, rfl, e5, hB4.out⟩
  · have CL2 := hide (CL.out hr0 hr)
    clear CL
    have hr00 : ¬ (r : Int) = 0 := by omega
    go_enter Try.func31, Try.ntmps31
    go_wp2_with fail
    refine C.out.mono ?_
    rintro e w1 ⟨rfl, hk1, hB1, hx1⟩
    have HLV := hide (CL2.out w1 b o 1 w.heap.size 3 6 hx1 (by rw [hk1.cell]; rfl) (hk1.frozen _))
    have Hk1 := hide hk1
    clear hk1 hx1
    go_wp2_with fail
    refine HLV.out.mono ?_
    rintro e w2 ⟨rfl, hw2⟩
    have hk2 : Blk w2 w.heap.size 72 #[.int .u64 0, .int .u64 0, .int .u64 0, .int .u64 ((u * 2 ^ r % W64 : Nat) : Int), .int .u64 0, .int .u64 0, .int .u64 0, .int .u64 0, .int .u64 0] := by rw [hw2]; simpa using Hk1.out.set_ 3 (.int .u64 ((u * 2 ^ r % W64 : Nat) : Int))
    have hB2 : Below w.heap.size w w2 := by rw [hw2]; exact hB1.setCell (Nat.le_refl _) _
    have y1 := hk2.cell 4
    have y2 := hk2.frozen 4
    simp only [List.getElem?_toArray, List.getElem?_cons_zero, List.getElem?_cons_succ] at y1
    clear hw2 HLV
    have hk3 : Blk (w2.setCell ⟨w.heap.size, 4, none⟩ (.int .u64 ((u / 2 ^ (64 - r) : Nat) : Int))) w.heap.size 72 #[.int .u64 0, .int .u64 0, .int .u64 0, .int .u64 ((u * 2 ^ r % W64 : Nat) : Int), .int .u64 ((u / 2 ^ (64 - r) : Nat) : Int), .int .u64 0, .int .u64 0, .int .u64 0, .int .u64 0] := by simpa using hk2.set_ 4 (.int .u64 ((u / 2 ^ (64 - r) : Nat) : Int))
    have hB3 : Below w.heap.size w (w2.setCell ⟨w.heap.size, 4, none⟩ (.int .u64 ((u / 2 ^ (64 - r) : Nat) : Int))) := hB2.setCell (Nat.le_refl _) _
    have hclr := Go.Lib.run_clear_slice (P := Try.prog) (w2.setCell ⟨w.heap.size, 4, none⟩ (.int .u64 ((u / 2 ^ (64 - r) : Nat) : Int))) 64 72 0 (.int .u64 0) Try.underlying64 zeroW rfl rfl w.heap.size 0 3 9 (by omega) (fun j hj => by rw [hk3.cell]; match j, hj with | 0, _ => rfl | 1, _ => rfl | 2, _ => rfl) (fun j hj => hk3.frozen _)
    have hk4 : Hid (Blk (World.setCells (w2.setCell ⟨w.heap.size, 4, none⟩ (.int .u64 ((u / 2 ^ (64 - r) : Nat) : Int))) w.heap.size 0 (List.replicate 3 (.int .u64 0))) w.heap.size 72 #[.int .u64 0, .int .u64 0, .int .u64 0, .int .u64 ((u * 2 ^ r % W64 : Nat) : Int), .int .u64 ((u / 2 ^ (64 - r) : Nat) : Int), .int .u64 0, .int .u64 0, .int .u64 0, .int .u64 0]) := by have h := (((hk3.set_ 0 (.int .u64 0)).set_ 1 (.int .u64 0)).set_ 2 (.int .u64 0)); simp only [List.setIfInBounds_toArray, List.set_cons_zero, List.set_cons_succ] at h; exact h
    have hB4 : Hid (Below w.heap.size w (World.setCells (w2.setCell ⟨w.heap.size, 4, none⟩ (.int .u64 ((u / 2 ^ (64 - r) : Nat) : Int))) w.heap.size 0 (List.replicate 3 (.int .u64 0)))) := (((hB3.setCell (Nat.le_refl _) _).setCell (Nat.le_refl _) _).setCell (Nat.le_refl _) _)
    have Hclr := hide hclr
    clear hk3 hB3 hclr hk2 hB2
    go_wp2_with (refine wpList_clear rfl _ _ rfl _ rfl _ Hclr.out ?_)
    have RD := rd_block (n := 5) (c := 9) (xs := cU [0, 0, 0, u * 2 ^ r % W64, u / 2 ^ (64 - r)]) hk4.out (by simp [cU]) (by omega) (by simp only [maxLen]; omega) (fun j v hj => by match j, hj with | 0, hj => exact hj | 1, hj => exact hj | 2, hj => exact hj | 3, hj => exact hj | 4, hj => exact hj | (_ + 5), hj => simp [cU] at hj)
    have HLT : ∀ d ∈ [0, 0, 0, u * 2 ^ r % W64, u / 2 ^ (64 - r)], d < W64 := by
      have hW : 0 < W64 := by unfold W64 Dg.W64; omega
      have h1 := HL.out.1
      have h2 := HL.out.2
      have h3 := Hu.out
      intro d hd
      simp only [List.mem_cons, List.not_mem_nil, or_false] at hd
      rcases hd with rfl | rfl | rfl | rfl | rfl <;> assumption
    refine (HN.out [0, 0, 0, u * 2 ^ r % W64, u / 2 ^ (64 - r)] HLT _ _ RD).mono ?_
    rintro e w5 ⟨⟨v, rfl, hr5⟩, rfl⟩
    have Hr5 := hide hr5
    clear hr5 RD
    go_wp2
    go_ret
    have e5 := Hr5.out
    rw [show Dg.val W64 [0, 0, 0, u * 2 ^ r % W64, u / 2 ^ (64 - r)] = N from HV.out] at e5
    exact ⟨v, rfl, e5, hB4.out⟩
set_option maxRecDepth 100000 in
set_option maxHeartbeats 3200000 in
theorem natLsh_4 (u r : Nat) (hu : u < W64) (hr : r < 64) (s : Nat) (hs : s = 64 * 4 + r) (h1s : 1 ≤ s) (w : World) (b o : Nat) (hb : b < w.heap.size) (hx : w.cell? ⟨b, o, none⟩ = some (.int .u64 (u : Int))) :
    Calls Try.prog 31 #[.slice (some ⟨b, o, none⟩) 1 1, .slice (some ⟨b, o, none⟩) 1 1, .int .u64 (s : Int)] w (fun e w' => ∃ v, e = .returned v ∧ Rd w' v (cU (Dg.digs W64 (u * 2 ^ s))) ∧ Below w.heap.size w w') := by
  have C : Hid (Calls Try.prog 40 #[.slice (some ⟨b, o, none⟩) 1 1, .int .i64 6] w (fun e w' => e = .returned (.slice (some ⟨w.heap.size, 0, none⟩) 6 10) ∧ Blk w' w.heap.size 72 #[.int .u64 0, .int .u64 0, .int .u64 0, .int .u64 0, .int .u64 0, .int .u64 0, .int .u64 0, .int .u64 0, .int .u64 0, .int .u64 0] ∧ Below w.heap.size w w' ∧ w'.cell? ⟨b, o, none⟩ = some (.int .u64 (u : Int)))) := by
    have h := natMakeK 6 (by omega) (by omega) (some ⟨b, o, none⟩) 1 1 (by omega) w
    rw [show madeCells #[Value.int .u64 0] (6 + 4) = #[.int .u64 0, .int .u64 0, .int .u64 0, .int .u64 0, .int .u64 0, .int .u64 0, .int .u64 0, .int .u64 0, .int .u64 0, .int .u64 0] by rw [made_list]; rfl] at h
    exact h.mono fun e w' ⟨he, hw⟩ => ⟨he, by rw [hw]; exact Blk.new _ _ _, by rw [hw]; exact below1 _ _, by rw [hw]; exact ((below1 w _).cell (p := ⟨b, o, none⟩) hb).trans hx⟩
  have CL := hide (lshVU_one u r hu)
  have HV := hide (lsh_val 4 r u hr)
  have HL := hide (And.intro (lo_lt u r) (hi_lt u r hu))
  have HN := hide norm_any
  have hNN : u * 2 ^ s = u * 2 ^ (64 * 4 + r) := by rw [hs]
  rw [hNN]
  have hq : (s : Int) / 64 = 4 := by omega
  have hm : (s : Int) % 64 = (r : Int) := by omega
  have hs0 : ¬ (s : Int) = 0 := by omega
  have Hb := hide hb
  have Hu := hide hu
  have Hneb : Hid (b ≠ w.heap.size) := by simp only [Hid]; omega
  have H1s := hide (And.intro h1s hs)
  clear hu hs hb hx hNN h1s
  generalize hN : u * 2 ^ (64 * 4 + r) = N at *
  have HNN := hide hN
  clear hN
  rcases Nat.eq_zero_or_pos r with hr0 | hr0
  · subst hr0
    clear CL
    have HV : Hid (Dg.val W64 [0, 0, 0, 0, u, 0] = N) := by
      have e := HV.out
      rw [Nat.pow_zero, Nat.mul_one, Nat.mod_eq_of_lt Hu.out, show u / 2 ^ (64 - 0) = 0 from Nat.div_eq_of_lt Hu.out] at e
      exact e
    have hm : (s : Int) % 64 = 0 := hm
    go_enter Try.func31, Try.ntmps31
    go_wp2_with fail
    refine C.out.mono ?_
    rintro e w1 ⟨rfl, hk1, hB1, hx1⟩
    have Hk1 := hide hk1
    have Hx1 := hide hx1
    clear hk1 hx1
    go_wp2_with (first | (refine wpList_copy_own rfl _ _ _ _ rfl 72 Try.underlying64 sizeW' w.heap.size 4 1 _ ⟨b, o, none⟩ 1 1 rfl rfl #[.int .u64 0, .int .u64 0, .int .u64 0, .int .u64 0, .int .u64 0, .int .u64 0, .int .u64 0, .int .u64 0, .int .u64 0, .int .u64 0] 72 Hk1.out [.int .u64 (u : Int)] (by simp) (fun j v hj => by match j, hj with | 0, hj => simp at hj; subst hj; exact Hx1.out) (by simp) (fun v hv => by simp at hv; subst hv; rfl) ?_; obtain ⟨w2, hw2⟩ : ∃ w2, w2 = World.setRow w1 w.heap.size #[.int .u64 0, .int .u64 0, .int .u64 0, .int .u64 0, .int .u64 (u : Int), .int .u64 0, .int .u64 0, .int .u64 0, .int .u64 0, .int .u64 0] := ⟨_, rfl⟩; (have hk2 : Blk w2 w.heap.size 72 #[.int .u64 0, .int .u64 0, .int .u64 0, .int .u64 0, .int .u64 (u : Int), .int .u64 0, .int .u64 0, .int .u64 0, .int .u64 0, .int .u64 0] := by rw [hw2]; exact setRow_heap _ _ _ _ _ _ Hk1.out); (have hB2 : Below w.heap.size w w2 := by rw [hw2]; exact below_setRow hB1 (Nat.le_refl _) _); refine (show wpList _ _ _ _ _ (World.setRow w1 w.heap.size #[.int .u64 0, .int .u64 0, .int .u64 0, .int .u64 0, .int .u64 (u : Int), .int .u64 0, .int .u64 0, .int .u64 0, .int .u64 0, .int .u64 0]) from ?_); rw [← hw2]; clear hw2; (have y1 := hk2.cell 5); (have y2 := hk2.frozen 5); simp only [List.getElem?_toArray, List.getElem?_cons_zero, List.getElem?_cons_succ] at y1; (have hk3 : Blk (w2.setCell ⟨w.heap.size, 5, none⟩ (.int .u64 0)) w.heap.size 72 #[.int .u64 0, .int .u64 0, .int .u64 0, .int .u64 0, .int .u64 (u : Int), .int .u64 0, .int .u64 0, .int .u64 0, .int .u64 0, .int .u64 0] := by simpa using hk2.set_ 5 (.int .u64 0)); (have hB3 : Below w.heap.size w (w2.setCell ⟨w.heap.size, 5, none⟩ (.int .u64 0)) := hB2.setCell (Nat.le_refl _) _); (have hclr := Go.Lib.run_clear_slice (P := Try.prog) (w2.setCell ⟨w.heap.size, 5, none⟩ (.int .u64 0)) 64 72 0 (.int .u64 0) Try.underlying64 zeroW rfl rfl w.heap.size 0 4 10 (by omega) (fun j hj => by rw [hk3.cell]; match j, hj with | 0, _ => rfl | 1, _ => rfl | 2, _ => rfl | 3, _ => rfl) (fun j hj => hk3.frozen _)); (have hk4 : Hid (Blk (World.setCells (w2.setCell ⟨w.heap.size, 5, none⟩ (.int .u64 0)) w.heap.size 0 (List.replicate 4 (.int .u64 0))) w.heap.size 72 #[.int .u64 0, .int .u64 0, .int .u64 0, .int .u64 0, .int .u64 (u : Int), .int .u64 0, .int .u64 0, .int .u64 0, .int .u64 0, .int .u64 0]) := by have h := ((((hk3.set_ 0 (.int .u64 0)).set_ 1 (.int .u64 0)).set_ 2 (.int .u64 0)).set_ 3 (.int .u64 0)); simp only [List.setIfInBounds_toArray, List.set_cons_zero, List.set_cons_succ] at h; exact h); (have hB4 : Hid (Below w.heap.size w (World.setCells (w2.setCell ⟨w.heap.size, 5, none⟩ (.int .u64 0)) w.heap.size 0 (List.replicate 4 (.int .u64 0)))) := ((((hB3.setCell (Nat.le_refl _) _).setCell (Nat.le_refl _) _).setCell (Nat.le_refl _) _).setCell (Nat.le_refl _) _)); (have Hclr := hide hclr); clear hk3 hB3 hclr hk2 hB2) | (refine wpList_clear rfl _ _ rfl _ rfl _ Hclr.out ?_))
    have RD := rd_block (n := 6) (c := 10) (xs := cU [0, 0, 0, 0, u, 0]) hk4.out (by simp [cU]) (by omega) (by simp only [maxLen]; omega) (fun j v hj => by match j, hj with | 0, hj => exact hj | 1, hj => exact hj | 2, hj => exact hj | 3, hj => exact hj | 4, hj => exact hj | 5, hj => exact hj | (_ + 6), hj => simp [cU] at hj)
    have HLT : ∀ d ∈ [0, 0, 0, 0, u, 0], d < W64 := by
      have hW : 0 < W64 := by unfold W64 Dg.W64; omega
      have h1 := HL.out.1
      have h2 := HL.out.2
      have h3 := Hu.out
      intro d hd
      simp only [List.mem_cons, List.not_mem_nil, or_false] at hd
      rcases hd with rfl | rfl | rfl | rfl | rfl | rfl <;> assumption
    refine (HN.out [0, 0, 0, 0, u, 0] HLT _ _ RD).mono ?_
    rintro e w5 ⟨⟨v, rfl, hr5⟩, rfl⟩
    have Hr5 := hide hr5
    clear hr5 RD
    go_wp2
    go_ret
    have e5 := Hr5.out
    rw [show Dg.val W64 [0, 0, 0, 0, u, 0] = N from HV.out] at e5
    exact ⟨v, rfl, e5, hB4.out⟩
  · have CL2 := hide (CL.out hr0 hr)
    clear CL
    have hr00 : ¬ (r : Int) = 0 := by omega
    go_enter Try.func31, Try.ntmps31
    go_wp2_with fail
    refine C.out.mono ?_
    rintro e w1 ⟨rfl, hk1, hB1, hx1⟩
    have HLV := hide (CL2.out w1 b o 1 w.heap.size 4 6 hx1 (by rw [hk1.cell]; rfl) (hk1.frozen _))
    have Hk1 := hide hk1
    clear hk1 hx1
    go_wp2_with fail
    refine HLV.out.mono ?_
    rintro e w2 ⟨rfl, hw2⟩
    have hk2 : Blk w2 w.heap.size 72 #[.int .u64 0, .int .u64 0, .int .u64 0, .int .u64 0, .int .u64 ((u * 2 ^ r % W64 : Nat) : Int), .int .u64 0, .int .u64 0, .int .u64 0, .int .u64 0, .int .u64 0] := by rw [hw2]; simpa using Hk1.out.set_ 4 (.int .u64 ((u * 2 ^ r % W64 : Nat) : Int))
    have hB2 : Below w.heap.size w w2 := by rw [hw2]; exact hB1.setCell (Nat.le_refl _) _
    have y1 := hk2.cell 5
    have y2 := hk2.frozen 5
    simp only [List.getElem?_toArray, List.getElem?_cons_zero, List.getElem?_cons_succ] at y1
    clear hw2 HLV
    have hk3 : Blk (w2.setCell ⟨w.heap.size, 5, none⟩ (.int .u64 ((u / 2 ^ (64 - r) : Nat) : Int))) w.heap.size 72 #[.int .u64 0, .int .u64 0, .int .u64 0, .int .u64 0, .int .u64 ((u * 2 ^ r % W64 : Nat) : Int), .int .u64 ((u / 2 ^ (64 - r) : Nat) : Int), .int .u64 0, .int .u64 0, .int .u64 0, .int .u64 0] := by simpa using hk2.set_ 5 (.int .u64 ((u / 2 ^ (64 - r) : Nat) : Int))
    have hB3 : Below w.heap.size w (w2.setCell ⟨w.heap.size, 5, none⟩ (.int .u64 ((u / 2 ^ (64 - r) : Nat) : Int))) := hB2.setCell (Nat.le_refl _) _
    have hclr := Go.Lib.run_clear_slice (P := Try.prog) (w2.setCell ⟨w.heap.size, 5, none⟩ (.int .u64 ((u / 2 ^ (64 - r) : Nat) : Int))) 64 72 0 (.int .u64 0) Try.underlying64 zeroW rfl rfl w.heap.size 0 4 10 (by omega) (fun j hj => by rw [hk3.cell]; match j, hj with | 0, _ => rfl | 1, _ => rfl | 2, _ => rfl | 3, _ => rfl) (fun j hj => hk3.frozen _)
    have hk4 : Hid (Blk (World.setCells (w2.setCell ⟨w.heap.size, 5, none⟩ (.int .u64 ((u / 2 ^ (64 - r) : Nat) : Int))) w.heap.size 0 (List.replicate 4 (.int .u64 0))) w.heap.size 72 #[.int .u64 0, .int .u64 0, .int .u64 0, .int .u64 0, .int .u64 ((u * 2 ^ r % W64 : Nat) : Int), .int .u64 ((u / 2 ^ (64 - r) : Nat) : Int), .int .u64 0, .int .u64 0, .int .u64 0, .int .u64 0]) := by have h := ((((hk3.set_ 0 (.int .u64 0)).set_ 1 (.int .u64 0)).set_ 2 (.int .u64 0)).set_ 3 (.int .u64 0)); simp only [List.setIfInBounds_toArray, List.set_cons_zero, List.set_cons_succ] at h; exact h
    have hB4 : Hid (Below w.heap.size w (World.setCells (w2.setCell ⟨w.heap.size, 5, none⟩ (.int .u64 ((u / 2 ^ (64 - r) : Nat) : Int))) w.heap.size 0 (List.replicate 4 (.int .u64 0)))) := ((((hB3.setCell (Nat.le_refl _) _).setCell (Nat.le_refl _) _).setCell (Nat.le_refl _) _).setCell (Nat.le_refl _) _)
    have Hclr := hide hclr
    clear hk3 hB3 hclr hk2 hB2
    go_wp2_with (refine wpList_clear rfl _ _ rfl _ rfl _ Hclr.out ?_)
    have RD := rd_block (n := 6) (c := 10) (xs := cU [0, 0, 0, 0, u * 2 ^ r % W64, u / 2 ^ (64 - r)]) hk4.out (by simp [cU]) (by omega) (by simp only [maxLen]; omega) (fun j v hj => by match j, hj with | 0, hj => exact hj | 1, hj => exact hj | 2, hj => exact hj | 3, hj => exact hj | 4, hj => exact hj | 5, hj => exact hj | (_ + 6), hj => simp [cU] at hj)
    have HLT : ∀ d ∈ [0, 0, 0, 0, u * 2 ^ r % W64, u / 2 ^ (64 - r)], d < W64 := by
      have hW : 0 < W64 := by unfold W64 Dg.W64; omega
      have h1 := HL.out.1
      have h2 := HL.out.2
      have h3 := Hu.out
      intro d hd
      simp only [List.mem_cons, List.not_mem_nil, or_false] at hd
      rcases hd with rfl | rfl | rfl | rfl | rfl | rfl <;> assumption
    refine (HN.out [0, 0, 0, 0, u * 2 ^ r % W64, u / 2 ^ (64 - r)] HLT _ _ RD).mono ?_
    rintro e w5 ⟨⟨v, rfl, hr5⟩, rfl⟩
    have Hr5 := hide hr5
    clear hr5 RD
    go_wp2
    go_ret
    have e5 := Hr5.out
    rw [show Dg.val W64 [0, 0, 0, 0, u * 2 ^ r % W64, u / 2 ^ (64 - r)] = N from HV.out] at e5
    exact ⟨v, rfl, e5, hB4.out⟩
end Go.Proofs.Ytgooioafmddneaa
