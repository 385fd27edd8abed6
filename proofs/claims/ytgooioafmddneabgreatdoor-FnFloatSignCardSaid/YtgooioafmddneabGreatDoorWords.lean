/- The reference's Words, HasWords, IsNumber: that they end with some answer. -/
import Derived.Test.YtgooioafmddneabGreatDoorSpecF
import Derived.Test.YtgooioafmddneabGreatDoorMathW
import Derived.BigQuiet
namespace Go.Proofs.YtgooioafmddneabGreatDoor
open Go.RowKit
theorem infoU : (Tryz.prog.info? 97).map (fun i => (i.zero, i.size, i.bytes)) = some (some (.int .u64 0), 1, 8) := by kernel_rfl
def AllU (vs : List Value) : Prop := ∀ u ∈ vs, ∃ x : Int, u = .int .u64 x
theorem AllU.snoc {vs : List Value} (h : AllU vs) (x : Int) : AllU (vs ++ [.int .u64 x]) := by
  intro u hu
  rcases List.mem_append.1 hu with hu | hu
  · exact h u hu
  · simp at hu; exact ⟨x, hu⟩
theorem AllU.set {vs : List Value} (h : AllU vs) (j : Nat) (x : Int) : AllU (vs.set j (.int .u64 x)) := by
  intro u hu
  rcases List.mem_or_eq_of_mem_set hu with hu | hu
  · exact h u hu
  · exact ⟨x, hu⟩
theorem AllU.at {vs : List Value} (h : AllU vs) {j : Nat} (hj : j < vs.length) : ∃ x : Int, vs[j]? = some (.int .u64 x) := by
  obtain ⟨x, hx⟩ := h _ (List.getElem_mem hj)
  exact ⟨x, by rw [List.getElem?_eq_getElem hj, hx]⟩
theorem AllU.of_cU (l : List Nat) : AllU (cU l) := by
  intro u hu
  simp only [cU, List.mem_map] at hu
  obtain ⟨d, _, rfl⟩ := hu
  exact ⟨_, rfl⟩
theorem appU (w : World) {ops : Array Oper} {rest : List Oper} {o : Oper} {a : Act} {Q : Exit → Act → World → Prop} (hgd : o.guard = none) (s x : Operand)
    (ho : o.op = .call { callee := .builtin .append, args := #[s, x], argTypes := #[22, 22] })
    (base : Nat) (v : Value) (n : Nat) (l : List Value) (d : Int) (hs : a.eval s = v) (hx : a.eval x = .slice (some ⟨w.heap.size, 0, none⟩) 1 1)
    (hown : w.ownsRow base 97 1 v n l) (hn : n ≤ 1000000000000) (hbase : base ≤ w.heap.size)
    (h : ∀ v' w', w'.ownsRow base 97 1 v' (n + 1) (l ++ [.int .u64 d]) → Below base w w' → wpList Tryz.prog ops Q rest (a.put o.dst v') w') : wpList Tryz.prog ops Q (o :: rest) a (w.alloc (.cells #[.int .u64 d] 97)) := by
  obtain ⟨i0, hi, hz0, hz1, hz2⟩ := info_parts infoU
  refine wpList_app1 _ hgd s x 22 ho base 97 i0 (.int .u64 0) 8 Tryz.underlying22 hi hz0 hz1 hz2 rfl (by omega) v n l _ hs w.heap.size hx (cell_new1 _ _ _) rfl (hown.alloc _) hn (by simp; omega) ?_
  intro v' w' h1 h2
  exact h v' w' h1 (below_alloc h2 hbase)
theorem own_shape {w : World} {base : Nat} {e : TypeId} {v : Value} {n : Nat} {xs : List Value} (h : w.ownsRow base e 1 v n xs) (hn : 0 < n) : ∃ g cap, v = .slice (some ⟨g, 0, none⟩) n cap ∧ base ≤ g ∧ n ≤ cap ∧ xs.length = n := by
  rcases h.2 with ⟨_, h0⟩ | ⟨g, cap, cur, hv, hb, _, hc, _⟩
  · omega
  · exact ⟨g, cap, hv, hb, hc, by have := h.1; omega⟩
theorem own_le' {g B : Nat} (h : B ≤ g) : ∀ k, some g = some k → B ≤ k := by
  intro k hk; injection hk with hk; omega
theorem words_or {t d r : Nat} (ht : t < 65536 ^ r) (hd : d < 65536) (hr : r ≤ 3) : bits .or .u64 (t : Int) (IntKind.u64.wrap ((d : Int) * 2 ^ (16 * r))) = ((t + 65536 ^ r * d : Nat) : Int) := by
  have h1 : t + 65536 ^ r * d < 65536 ^ (r + 1) := Dg.digit_lt ht hd
  have h2 : 65536 ^ (r + 1) ≤ 18446744073709551616 := by
    have : (65536 : Nat) ^ (r + 1) ≤ 65536 ^ 4 := Nat.pow_le_pow_right (by omega) (by omega)
    rw [show (65536 : Nat) ^ 4 = 18446744073709551616 from rfl] at this
    exact this
  have e1 : ((d : Int) * 2 ^ (16 * r)) = ((65536 ^ r * d : Nat) : Int) := by rw [Dg.pow16, Int.natCast_mul, Int.natCast_pow, Int.mul_comm]; rfl
  rw [e1, IntKind.wrap_u64, show ((65536 ^ r * d : Nat) : Int) % 18446744073709551616 = ((65536 ^ r * d : Nat) : Int) by omega, u64_or_nat _ _ (by omega) (by omega)]
  congr 1
  rw [Nat.or_comm, Nat.add_comm, Dg.pow16]
  exact (Nat.two_pow_add_eq_or_of_lt (by rw [← Dg.pow16]; exact ht) d).symm
theorem words_or0 {d : Nat} (hd : d < 65536) : bits .or .u64 0 (d : Int) = ((0 + 65536 ^ 0 * d : Nat) : Int) := by
  rw [show (0 : Int) = ((0 : Nat) : Int) from rfl, u64_or_nat _ _ (by omega) (by omega)]
  simp
theorem cU_last {l0 : List Nat} {t q : Nat} (hl : l0.length = q) : (cU (l0 ++ [t]))[q]? = some (.int .u64 (t : Int)) := by
  subst hl; simp [cU]
theorem cU_setLast {l0 : List Nat} {t u q : Nat} (hl : l0.length = q) : (cU (l0 ++ [t])).set q (.int .u64 (u : Int)) = cU (l0 ++ [u]) := by
  subst hl
  simp only [cU, List.map_append, List.map_cons, List.map_nil]
  rw [List.set_append_right _ _ (by simp)]
  simp
def WdIn (xs : List Nat) (n : Nat) (w : World) (out _i _d idx : Value) (wr : World) : Prop :=
  ∃ (j m : Nat) (l : List Nat), idx = .int .i64 (j : Int) ∧ j ≤ n ∧ m ≤ n ∧ wr.ownsRow w.heap.size 97 1 out m (cU l) ∧ Hid (m = l.length ∧ Dg.WP xs j l) ∧ Below w.heap.size w wr
set_option maxRecDepth 100000 in
set_option maxHeartbeats 1600000 in
theorem words_any (xs : List Nat) (hx : Dg.Can 65536 xs) (hlen : xs.length ≤ 10000000) (w : World) (v : Value) (hv : Rd w v (cI xs)) :
    Calls Tryz.prog 35 #[v] w (fun e w' => ∃ v', e = .returned v' ∧ Rd w' v' (cU (Dg.digs Dg.W64 (Dg.val 65536 xs))) ∧ Below w.heap.size w w') := by
  obtain ⟨A, c, rfl, hlc, hcm, hcell⟩ := hv.any
  rw [cI_len] at *
  obtain ⟨n, hn⟩ : ∃ n, n = xs.length := ⟨_, rfl⟩
  rw [← hn] at hlc hcell hlen ⊢
  have Hn := hide hn
  have Hc := hide hcell
  have Hx := hide hx
  obtain ⟨D, hD⟩ : ∃ D, D = Dg.digs Dg.W64 (Dg.val 65536 xs) := ⟨_, rfl⟩
  rw [← hD]
  have HD := hide hD
  clear hn hcell hv hx hD
  go_enter Tryz.func35, Tryz.ntmps35
  go_wp2_with fail
  go_loopw [3, 4, 5, 9] (WdIn xs n w) (fun _ _ _ i _ => n - (intOf i).toNat)
  case atStart => exact ⟨0, 0, [], rfl, by omega, by omega, by simpa [cU] using made0 (w := w), ⟨rfl, Dg.wp_zero xs⟩, below1 _ _⟩
  case round =>
    obtain ⟨j, m, l, rfl, hj, hm, hown, hwp, hbel⟩ := hrel
    have hsz := hbel.size
    by_cases hlt : j < n
    · obtain ⟨b, o, rfl, hb, hcl⟩ := Hc.out (by omega)
      have hck := (hbel.cell (p := ⟨b, o + j, none⟩) hb).trans (hcl j _ (cI_at (l := xs) (j := j) (by rw [← Hn.out]; omega)))
      have hxl := Dg.getD_lt (by omega) Hx.out.1 j
      have hvt := Dg.val_take_getD (B := 65536) xs j
      obtain ⟨x, hx⟩ : ∃ x, x = xs.getD j 0 := ⟨_, rfl⟩
      rw [← hx] at hck hxl hvt
      have Hvt := hide hvt
      clear hx hcl hvt
      by_cases h4 : j % 4 = 0
      · have hf := Dg.wp_first hwp.out.2 h4
        have hml := hwp.out.1
        have Hst := hide (Dg.wp_step hf.1 hf.2.1 (by rw [h4]; simp) hf.2.2 hxl Hvt.out)
        have Hl := hide (show l.length = j / 4 ∧ m = j / 4 from ⟨hf.1, by rw [hml, hf.1]⟩)
        rw [h4] at Hst
        clear hf hml hwp
        go_wp2_with (at_builtin; refine appU _ rfl _ _ rfl w.heap.size u3 m (cU l) 0 rfl rfl hown ?c2 hsz ?_)
        case c2 => omega
        intro v1 w1 hown1 hb1
        obtain ⟨g, cap, rfl, hg, hcap, hl⟩ := own_shape hown1 (by omega)
        have hown2 : w1.ownsRow w.heap.size 97 1 (.slice (some ⟨g, 0, none⟩) (m + 1) cap) (m + 1) (cU (l ++ [0])) := by
          have := hown1; rw [show (Value.int .u64 0) = .int .u64 ((0 : Nat) : Int) from rfl, cU_snoc] at this; exact this
        have hj4 : j / 4 < m + 1 := by have := Hl.out.2; omega
        have hcq := (hown2.cellAt (j / 4) (by omega)).trans (cU_last Hl.out.1)
        have hfq := hown2.frozenAt (j / 4)
        have Hown := hide hown2
        have Hor := hide (words_or0 hxl)
        clear hown1 hown2 hl
        go_wp2_with fail
        go_region
        all_goals
          go_wp2
          go_roundw
          case rel =>
            have S := Hown.out.stored (j / 4) (.int .u64 ((0 + 65536 ^ 0 * x : Nat) : Int))
            rw [cU_setLast Hl.out.1] at S
            refine ⟨j + 1, m + 1, l ++ [0 + 65536 ^ 0 * x], by go_num, by omega, by have := Hl.out.2; omega, ?_, ⟨by have := Hl.out; simp; omega, Hst.out⟩, ?_⟩
            all_goals
              rw [Hor.out]
              first
              | exact S.1
              | exact ((hbel.trans hb1).trans (below_of_grown S.2 (hbel.trans hb1).size (own_le' hg))).drew
          case measure => simp [intOf]; omega
      · obtain ⟨l0, t, rfl, hl0, ht, hall⟩ := Dg.wp_split Hx.out.1 hwp.out.2 (by omega)
        have hml := hwp.out.1
        have Hst := hide (Dg.wp_step hl0 hwp.out.2.2.1 ht hall hxl Hvt.out)
        have Hl := hide (show l0.length = j / 4 ∧ m = j / 4 + 1 from ⟨hl0, by rw [hml]; simp [hl0]⟩)
        obtain ⟨r, hr⟩ : ∃ r, r = j % 4 := ⟨_, rfl⟩
        rw [← hr] at Hst ht
        have Hor := hide (words_or ht hxl (show r ≤ 3 by omega))
        have Hr := hide hr
        obtain ⟨g, cap, rfl, hg, hcap, hl⟩ := own_shape hown (by have := Hl.out.2; omega)
        have hj4 : j / 4 < m := by have := Hl.out.2; omega
        have hcq := (hown.cellAt (j / 4) (by omega)).trans (cU_last Hl.out.1)
        have hfq := hown.frozenAt (j / 4)
        have Hown := hide hown
        clear hown hl hwp hml hl0 ht hall hr
        go_wp2_with fail
        go_region
        all_goals
          go_wp2
          go_roundw
          case rel =>
            have S := Hown.out.stored (j / 4) (.int .u64 ((t + 65536 ^ r * x : Nat) : Int))
            rw [cU_setLast Hl.out.1] at S
            rw [← Hr.out, Hor.out]
            exact ⟨j + 1, m, l0 ++ [t + 65536 ^ r * x], by go_num, by omega, by omega, S.1, ⟨by have := Hl.out; simp; omega, Hst.out⟩, (hbel.trans (below_of_grown S.2 hbel.size (own_le' hg))).drew⟩
          case measure => simp [intOf]; omega
    · have hjn : n = j := by omega
      have HR : Hid (Rd wr u3 (cU D)) := by
        have h1 := Dg.wp_done Hn.out Hx.out (by rw [hjn]; exact hwp.out.2)
        rw [HD.out, ← h1]
        exact Rd.of_own hown
      clear hown hwp
      go_wp2
      go_ret
      exact ⟨_, rfl, HR.out, hbel⟩
def HwIn (ws vs : List Nat) (n : Nat) (w : World) (idx : Value) (wr : World) : Prop := ∃ j : Nat, idx = .int .i64 (j : Int) ∧ j ≤ n ∧ Hid (∀ i, i < j → ws.getD i 0 = vs.getD i 0) ∧ Below w.heap.size w wr
theorem getD_ext {ws vs : List Nat} (hl : ws.length = vs.length) (h : ∀ i, i < ws.length → ws.getD i 0 = vs.getD i 0) : ws = vs := by
  refine List.ext_getElem hl fun i h1 h2 => ?_
  have := h i h1
  simpa [List.getD, List.getElem?_eq_getElem h1, List.getElem?_eq_getElem h2] using this
set_option maxRecDepth 100000 in
set_option maxHeartbeats 1600000 in
theorem hasWords_any (ws : List Nat) (xs : List Nat) (hx : Dg.Can 65536 xs) (hlen : xs.length ≤ 10000000) (w : World) (u v : Value) (hu : Rd w u (cU ws)) (hv : Rd w v (cI xs)) :
    Calls Tryz.prog 22 #[u, v] w (fun e w' => e = .returned (.bool (decide (ws = Dg.digs Dg.W64 (Dg.val 65536 xs)))) ∧ Below w.heap.size w w') := by
  have C := hide (words_any xs hx hlen w v hv)
  generalize Dg.digs Dg.W64 (Dg.val 65536 xs) = vs at *
  have Hu := hide hu
  obtain ⟨A, n, c, rfl⟩ := hu.shape
  obtain ⟨A1, n1, c1, rfl⟩ := hv.shape
  clear hv hu hlen hx
  go_enter Tryz.func22, Tryz.ntmps22
  go_wp2_with fail
  refine C.out.mono ?_
  rintro e w1 ⟨v', rfl, hr, hb⟩
  have hu1 := Hu.out.below hb
  obtain ⟨A3, c3, rfl, hlc3, hcm3, hcell3⟩ := hr.any
  obtain ⟨A4, c4, hA, hlc4, hcm4, hcell4⟩ := hu1.any
  simp only [Value.slice.injEq] at hA
  obtain ⟨rfl, rfl, rfl⟩ := hA
  have Hb := hide hb
  rw [cU_len] at hlc3 hcell3 hlc4 hcell4 ⊢
  rw [cU_len]
  obtain ⟨m, hm⟩ : ∃ m, m = vs.length := ⟨_, rfl⟩
  obtain ⟨n, hn⟩ : ∃ n, n = ws.length := ⟨_, rfl⟩
  rw [← hm] at hlc3 hcell3 ⊢
  rw [← hn] at hlc4 hcell4 ⊢
  have H3 := hide hcell3
  have H4 := hide hcell4
  have Hm := hide hm
  have Hn := hide hn
  clear hr hu1 hb hcell3 hcell4 hm hn Hu
  by_cases hmn : n = m
  · subst hmn
    go_wp2_with fail
    go_loopw [16] (HwIn ws vs n w1) (fun i _ => n - (intOf i).toNat)
    case atStart => exact ⟨0, rfl, by omega, fun i hi => by omega, Below.refl _ _⟩
    case round =>
      obtain ⟨j, rfl, hj, heq, hbel⟩ := hrel
      by_cases hlt : j < n
      · obtain ⟨b, o, rfl, hb3, hcl3⟩ := H3.out (by omega)
        obtain ⟨b', o', rfl, hb4, hcl4⟩ := H4.out (by omega)
        have hck3 := (hbel.cell (p := ⟨b, o + j, none⟩) hb3).trans (hcl3 j _ (cU_at (l := vs) (j := j) (by rw [← Hm.out]; omega)))
        have hck4 := (hbel.cell (p := ⟨b', o' + j, none⟩) hb4).trans (hcl4 j _ (cU_at (l := ws) (j := j) (by rw [← Hn.out]; omega)))
        obtain ⟨y3, hy3⟩ : ∃ y, y = vs.getD j 0 := ⟨_, rfl⟩
        obtain ⟨y4, hy4⟩ : ∃ y, y = ws.getD j 0 := ⟨_, rfl⟩
        rw [← hy3] at hck3
        rw [← hy4] at hck4
        have Hy3 := hide hy3
        have Hy4 := hide hy4
        clear hcl3 hcl4 hy3 hy4
        by_cases he : y4 = y3
        · have HE : Hid (∀ i, i < j + 1 → ws.getD i 0 = vs.getD i 0) := by
            intro i hi
            rcases Nat.lt_or_ge i j with h | h
            · exact heq.out i h
            · obtain rfl : i = j := by omega
              rw [← Hy3.out, ← Hy4.out, he]
          clear Hy3 Hy4
          subst he
          go_wp2_with fail
          go_quiet (fail)
          go_wp2
          go_roundw
          case rel => exact ⟨j + 1, by go_num, by omega, HE, belowN hbel _⟩
          case measure => simp [intOf]; omega
        · have HF : Hid (ws = vs → False) := by
            intro e
            exact he (by rw [Hy4.out, Hy3.out, e])
          go_wp2_with fail
          go_quiet (fail)
          go_wp2
          go_ret
          exact ⟨ret_bool (decide_eq_false HF.out).symm, belowN (Hb.out.trans (hbel.mono Hb.out.size)) _⟩
      · have hjn : n = j := by omega
        have HT : Hid (ws = vs) := by
          refine getD_ext (by rw [← Hn.out, ← Hm.out]) fun i hi => heq.out i (by rw [← Hn.out] at hi; omega)
        clear hjn
        go_wp2
        go_ret
        exact ⟨ret_bool (decide_eq_true HT.out).symm, Hb.out.trans (hbel.mono Hb.out.size)⟩
  · have HF : Hid (ws = vs → False) := by
      intro e
      exact hmn (by rw [Hn.out, Hm.out, e])
    go_wp2
    go_ret
    exact ⟨ret_bool (decide_eq_false HF.out).symm, Hb.out⟩
set_option maxHeartbeats 800000 in
theorem isNumber_any (neg b : Bool) (ws xs : List Nat) (hx : Dg.Can 65536 xs) (hlen : xs.length ≤ 10000000) (w : World) (A A1 : Option Addr) (n c n1 c1 : Nat) (hu : Rd w (.slice A n c) (cU ws)) (hv : Rd w (.slice A1 n1 c1) (cI xs)) :
    Calls Tryz.prog 21 #[.agg #[.bool neg, .slice A n c], .bool b, .slice A1 n1 c1] w
      (fun e w' => e = .returned (.bool (neg == (b && decide (0 < n1)) && decide (ws = Dg.digs Dg.W64 (Dg.val 65536 xs)))) ∧ Below w.heap.size w w') := by
  have C := hide fun (w1 : World) (hB : Below w.heap.size w w1) => hasWords_any ws xs hx hlen w1 (.slice A n c) (.slice A1 n1 c1) (hu.below hB) (hv.below hB)
  generalize decide (ws = Dg.digs Dg.W64 (Dg.val 65536 xs)) = q at *
  clear hu hv hlen hx
  by_cases h0 : 0 < n1
  all_goals
    cases b
    all_goals
      cases neg
      all_goals
        go_enter Tryz.func21, Tryz.ntmps21
        go_wp2_with (go_at_call 22; refine (C.out _ (below1 _ _)).mono ?_; rintro e w1 ⟨rfl, hb1⟩)
        go_ret
        first
        | exact ⟨ret_bool (by simp [h0]), below_alloc (hb1.mono (by simp)) (Nat.le_refl _)⟩
        | exact ⟨ret_bool (by simp [h0]), below1 _ _⟩
end Go.Proofs.YtgooioafmddneabGreatDoor
