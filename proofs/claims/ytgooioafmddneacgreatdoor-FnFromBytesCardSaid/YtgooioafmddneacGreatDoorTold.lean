/- A value of the package told as plain data: plain, number, Val, parts, told, FromBytes; the reference's same, IsInt. -/
import Derived.Test.YtgooioafmddneacGreatDoorOfBytes
import Derived.Test.YtgooioafmddneacGreatDoorWords
import Derived.Test.YtgooioafmddneacGreatDoorConst
import Derived.Test.YtgooioafmddneacGreatDoorLsh
namespace Go.Proofs.YtgooioafmddneacGreatDoor
open Go.RowKit
theorem bits_any (w : World) (g o : Nat) (neg : Bool) (n : Nat) (h : BigAt w g o neg n) :
    Calls Tryz.prog 48 #[.pointer (some ⟨g, o, none⟩)] w (fun e w' => (∃ A k c, e = .returned (.slice A k c) ∧ Rd w (.slice A k c) (cU (Dg.digs W64 n))) ∧ w = w') := by
  obtain ⟨h1, s, h2, h3⟩ := h
  obtain ⟨A, k, c, rfl⟩ := h3.shape
  have H3 := hide h3
  clear h3
  go_enter Tryz.func48, Tryz.ntmps48
  go_wp2
  go_ret
  exact ⟨⟨A, k, c, rfl, H3.out⟩, rfl⟩
def PlIn (ws : List Nat) (n : Nat) (w : World) (out _x i : Value) (wr : World) : Prop :=
  ∃ j : Nat, i = .int .i64 (j : Int) ∧ j ≤ n ∧ wr.ownsRow w.heap.size 59 1 out j (cU (ws.take j)) ∧ Below w.heap.size w wr
theorem takeU_snoc {l : List Nat} {j : Nat} (h : j < l.length) : cU (l.take j) ++ [Value.int .u64 ((l.getD j 0 : Nat) : Int)] = cU (l.take (j + 1)) := by
  rw [cU_snoc, List.take_succ_eq_append_getElem h]; simp [List.getD_eq_getElem?_getD, h]
set_option maxRecDepth 100000 in
set_option maxHeartbeats 800000 in
theorem plain_any (n : Nat) (hlen : (Dg.digs W64 n).length ≤ 1000000) (w : World) (g o : Nat) (neg : Bool) (h : BigAt w g o neg n) :
    Calls Tryz.prog 34 #[.pointer (some ⟨g, o, none⟩)] w (fun e w' => ∃ v', e = .returned v' ∧ Rd w' v' (cU (Dg.digs W64 n)) ∧ Below w.heap.size w w') := by
  have C := hide (bits_any w g o neg n h)
  generalize Dg.digs W64 n = ws at *
  clear h
  go_enter Tryz.func34, Tryz.ntmps34
  go_wp2_with fail
  refine C.out.mono ?_
  rintro e w' ⟨⟨A, k, c, rfl, hv⟩, rfl⟩
  obtain ⟨A0, c0, hA, hlc, hcm, hcell⟩ := hv.any
  simp only [Value.slice.injEq] at hA
  obtain ⟨rfl, rfl, rfl⟩ := hA
  rw [cU_len] at *
  obtain ⟨n, hn⟩ : ∃ n, n = ws.length := ⟨_, rfl⟩
  rw [← hn] at hlc hcell hlen ⊢
  have Hn := hide hn
  have Hc := hide hcell
  clear hn hcell hv
  go_wp2_with fail
  go_loopw [3, 5, 9] (PlIn ws n w) (fun _ _ i _ => n - (intOf i).toNat)
  case atStart => exact ⟨0, rfl, by omega, ⟨by simp [cU], .inl ⟨rfl, rfl⟩⟩, Below.refl _ _⟩
  case round =>
    obtain ⟨j, rfl, hj, hown, hbel⟩ := hrel
    by_cases hlt : j < n
    · obtain ⟨b, o, rfl, hb, hcl⟩ := Hc.out (by omega)
      have hck := (hbel.cell (p := ⟨b, o + j, none⟩) hb).trans (hcl j _ (cU_at (l := ws) (j := j) (by rw [← Hn.out]; omega)))
      have hsz := hbel.size
      have hst := hide (takeU_snoc (l := ws) (j := j) (by rw [← Hn.out]; exact hlt))
      obtain ⟨x, hx⟩ : ∃ x, x = ws.getD j 0 := ⟨_, rfl⟩
      rw [← hx] at hck hst
      clear hx hcl
      go_wp2_with (at_builtin; refine appU _ rfl _ _ rfl w.heap.size u3 j (cU (ws.take j)) (x : Int) rfl rfl hown ?c2 hsz ?_)
      case c2 => omega
      intro v1 w1 hown1 hb1
      rw [hst.out] at hown1
      go_wp2
      go_roundw
      case rel => exact ⟨j + 1, by go_num, by omega, hown1, hbel.trans hb1⟩
      case measure => simp [intOf]; omega
    · have hje : j = n := by omega
      have HR : Hid (Rd wr u3 (cU ws)) := by
        have := Rd.of_own hown
        rw [List.take_of_length_le (by rw [← Hn.out]; omega)] at this
        exact this
      clear hown
      go_wp2
      go_ret
      exact ⟨_, rfl, HR.out, hbel⟩
theorem Rd.far {w : World} {g : Nat} {t : TypeId} {cs : Array Value} {A : Option Addr} {n c : Nat} {l : List Nat} (h : Rd w (.slice A n c) (cU l)) (hb : Blk w g t cs) (hn : ∀ (i : Nat) (y : Value), cs[i]? = some y → noInt y = true) {w' : World} (hg : w.grownBy w' (some g)) : Rd w' (.slice A n c) (cU l) :=
  h.keepInts (cU_int _) hb hn hg
theorem sgnI_lt (n : Nat) : ¬ sgnI (sgn false n) < 0 := by
  simp only [sgn, sgnI, Bool.false_eq_true, if_false]
  split
  · omega
  · split <;> omega
theorem number_any (n : Nat) (hlen : (Dg.digs W64 n).length ≤ 1000000) (w : World) (g o : Nat) (h : BigAt w g o false n) :
    Calls Tryz.prog 31 #[.pointer (some ⟨g, o, none⟩)] w (fun e w' => ∃ A k c, e = .returned (.agg #[.bool false, .slice A k c]) ∧ Rd w' (.slice A k c) (cU (Dg.digs W64 n)) ∧ Below w.heap.size w w') := by
  have hB0 := below1 w (.cells #[.bool false, .slice none 0 0] 26)
  have h1 := h.below hB0
  have C1 := hide (bigSign_any _ g o false n h1 (by simp))
  have C2 := hide (plain_any n hlen _ g o false h1)
  have HK := hide (Blk.new w 26 #[.bool false, .slice none 0 0])
  have hzd : decide (sgnI (sgn false n) < 0) = false := by simpa using sgnI_lt n
  generalize sgnI (sgn false n) = z at *
  generalize Dg.digs W64 n = ws at *
  clear h h1 hlen
  go_enter Tryz.func31, Tryz.ntmps31
  go_wp2_with fail
  refine C1.out.mono ?_
  rintro e w' ⟨rfl, rfl⟩
  go_wp2_with fail
  refine C2.out.mono ?_
  rintro e w1 ⟨v1, rfl, hr, hb1⟩
  obtain ⟨A, k, c, rfl⟩ := hr.shape
  have hk := HK.out.below hb1 (by simp)
  have z0 := hk.cell 0
  have z1 := hk.cell 1
  have q0 := hk.frozen 0
  have q1 := hk.frozen 1
  simp only [List.getElem?_toArray, List.getElem?_cons_zero, List.getElem?_cons_succ] at z0 z1
  have Hk := hide hk
  have Hr := hide hr
  have HB := hide (below_alloc (hb1.mono (by simp)) (Nat.le_refl w.heap.size))
  clear hk hr hb1 hB0
  go_wp2
  have hk2 := (Hk.out.set_ 0 (.bool false)).set_ 1 (.slice A k c)
  have c0 := hk2.cell 0
  have c1 := hk2.cell 1
  simp only [List.setIfInBounds_toArray, List.set_cons_zero, List.set_cons_succ, List.getElem?_toArray, List.getElem?_cons_zero, List.getElem?_cons_succ] at c0 c1
  refine bodyPost_ret (v := .agg #[.bool false, .slice A k c]) (by simp [results, Tryz.results31, go_sem, c0, c1]) rfl ?_
  have hg : w1.grownBy ((w1.setCell ⟨w.heap.size, 0, none⟩ (.bool false)).setCell ⟨w.heap.size, 1, none⟩ (.slice A k c)) (some w.heap.size) :=
    only_setCell (p := ⟨w.heap.size, 1, none⟩) (only_setCell (p := ⟨w.heap.size, 0, none⟩) (World.grownBy.refl w1 _) (.inl rfl) _) (.inl rfl) _
  exact ⟨A, k, c, rfl, Hr.out.keepInts (cU_int _) Hk.out noInt_new hg, (HB.out.setCell (Nat.le_refl _) _).setCell (Nat.le_refl _) _⟩
@[go_sem] theorem as_i64_bool (v : Value) (w : World) : (Instr.typeAssert (.iface 85 v) 42 67 true).run Tryz.prog w = .ok (.tuple #[.bool false, .bool false]) w := by kernel_rfl
@[go_sem] theorem as_i64_strp (v : Value) (w : World) : (Instr.typeAssert (.iface 85 v) 42 70 true).run Tryz.prog w = .ok (.tuple #[.pointer none, .bool false]) w := by kernel_rfl
@[go_sem] theorem as_int_bool (v : Value) (w : World) : (Instr.typeAssert (.iface 87 v) 42 67 true).run Tryz.prog w = .ok (.tuple #[.bool false, .bool false]) w := by kernel_rfl
@[go_sem] theorem as_int_strp (v : Value) (w : World) : (Instr.typeAssert (.iface 87 v) 42 70 true).run Tryz.prog w = .ok (.tuple #[.pointer none, .bool false]) w := by kernel_rfl
@[go_sem] theorem any_i64_i64 (v : Value) (w : World) : (Instr.typeAssert (.iface 2 v) 20 2 true).run Tryz.prog w = .ok (.tuple #[v, .bool true]) w := by kernel_rfl
@[go_sem] theorem any_big_i64 (v : Value) (w : World) : (Instr.typeAssert (.iface 62 v) 20 2 true).run Tryz.prog w = .ok (.tuple #[.int .i64 0, .bool false]) w := by kernel_rfl
@[go_sem] theorem any_big_big (v : Value) (w : World) : (Instr.typeAssert (.iface 62 v) 20 62 true).run Tryz.prog w = .ok (.tuple #[v, .bool true]) w := by kernel_rfl
theorem val_i64 (x : Int) (w : World) : Calls Tryz.prog 30 #[.iface 85 (.int .i64 x)] w (fun e w' => e = .returned (.iface 2 (.int .i64 x)) ∧ w' = w) := by
  go_enter Tryz.func30, Tryz.ntmps30
  go_wp2
  go_ret
  exact ⟨rfl, rfl⟩
theorem val_int (a : Addr) (w : World) : Calls Tryz.prog 30 #[.iface 87 (.agg #[.pointer (some a)])] w (fun e w' => e = .returned (.iface 62 (.pointer (some a))) ∧ Below w.heap.size w w') := by
  go_enter Tryz.func30, Tryz.ntmps30
  go_wp2
  go_ret
  exact ⟨rfl, below1 _ _⟩
/-- What 'parts' answers: a number told by its words, and a word under it. -/
def PartsOut (n : Nat) (w : World) (e : Ending) (w' : World) : Prop :=
  ∃ (A : Option Addr) (k c : Nat) (v : Value), e = .returned (.tuple #[.agg #[.bool false, .slice A k c], v]) ∧ Rd w' (.slice A k c) (cU (Dg.digs W64 n)) ∧ Below w.heap.size w w'
theorem parts_end {w w2 : World} {n : Nat} {A : Option Addr} {k c : Nat} (hk : Blk w2 w.heap.size 26 #[.bool false, .slice none 0 0]) (hr : Rd w2 (.slice A k c) (cU (Dg.digs W64 n))) (hB : Below w.heap.size w w2) :
    ((w2.setCell ⟨w.heap.size, 0, none⟩ (.bool false)).setCell ⟨w.heap.size, 1, none⟩ (.slice A k c)).cell? ⟨w.heap.size, 0, none⟩ = some (.bool false) ∧ ((w2.setCell ⟨w.heap.size, 0, none⟩ (.bool false)).setCell ⟨w.heap.size, 1, none⟩ (.slice A k c)).cell? ⟨w.heap.size, 1, none⟩ = some (.slice A k c) ∧
      Rd ((w2.setCell ⟨w.heap.size, 0, none⟩ (.bool false)).setCell ⟨w.heap.size, 1, none⟩ (.slice A k c)) (.slice A k c) (cU (Dg.digs W64 n)) ∧ Below w.heap.size w ((w2.setCell ⟨w.heap.size, 0, none⟩ (.bool false)).setCell ⟨w.heap.size, 1, none⟩ (.slice A k c)) := by
  have hk2 := (hk.set_ 0 (.bool false)).set_ 1 (.slice A k c)
  have hg : w2.grownBy ((w2.setCell ⟨w.heap.size, 0, none⟩ (.bool false)).setCell ⟨w.heap.size, 1, none⟩ (.slice A k c)) (some w.heap.size) :=
    only_setCell (p := ⟨w.heap.size, 1, none⟩) (only_setCell (p := ⟨w.heap.size, 0, none⟩) (World.grownBy.refl w2 _) (.inl rfl) _) (.inl rfl) _
  exact ⟨by simpa using hk2.cell 0, by simpa using hk2.cell 1, hr.keepInts (cU_int _) hk noInt_new hg, (hB.setCell (Nat.le_refl _) _).setCell (Nat.le_refl _) _⟩
set_option maxHeartbeats 1600000 in
theorem parts_i64 (n : Nat) (hn : n ≤ 9223372036854775807) (w : World) :
    Calls Tryz.prog 21 #[.iface 85 (.int .i64 (n : Int))] w (PartsOut n w) := by
  have hW : W64 = 18446744073709551616 := rfl
  have hlen : (Dg.digs W64 n).length ≤ 1000000 := by
    have := Dg.digs_len_le W64_two (n := n) (k := 1) (by rw [Nat.pow_one]; omega)
    omega
  have hd0 : n = 0 ∨ Dg.digs W64 n = [n] := by
    rcases digs_le1 (n := n) (by omega) with h | h
    · exact .inl h.2
    · exact .inr h.1
  have C1 := hide (setInt64_new (n : Int) (by omega) (by omega))
  have CN : Hid (∀ (W : World) (g : Nat), BigAt W g 0 false n → Calls Tryz.prog 31 #[.pointer (some ⟨g, 0, none⟩)] W _) := fun W g h => number_any n hlen W g 0 h
  have HK := hide (Blk.new w 26 #[.bool false, .slice none 0 0])
  have HD := hide hd0
  have HE : Hid (decide ((n : Int) < 0) = false ∧ ((n : Int)).natAbs = n) := ⟨by simp, by simp⟩
  clear hW hlen hd0 hn
  go_enter Tryz.func21, Tryz.ntmps21
  go_wp2_with fail
  refine (val_i64 _ _).mono ?_
  rintro e w1 ⟨rfl, rfl⟩
  go_wp2_with fail
  have hb := Blk.new (w.alloc (Obj.cells #[.bool false, .slice none 0 0] 26)) 76 #[.bool false, .slice none 0 0]
  rw [World.size_alloc] at hb
  refine (C1.out _ (w.heap.size + 1) hb).mono ?_
  rintro e w1 ⟨rfl, hb1, hor⟩
  have HBig : Hid (BigAt w1 (w.heap.size + 1) 0 false n) := by
    rcases hor with ⟨h0, hk⟩ | ⟨h0, hk, hc, hs⟩
    · have h00 : n = 0 := by omega
      subst h00
      exact ⟨hk.cell 0, _, hk.cell 1, by rw [show Dg.digs W64 0 = [] by simp [Dg.digs]]; exact Rd.nil_ _ _ _ (Nat.zero_le _)⟩
    · rw [HE.out.1] at hk
      rw [HE.out.2] at hc
      refine ⟨hk.cell 0, _, hk.cell 1, ?_⟩
      rcases HD.out with h | h
      · omega
      · rw [h]
        refine ⟨_, 1, rfl, by simp [cU], by simp [maxLen], fun _ => ⟨_, 0, rfl, hs, fun j u hu => ?_⟩⟩
        match j, hu with
        | 0, hu => simp [cU] at hu; subst hu; exact hc
        | (_ + 1), hu => simp [cU] at hu
  have HB1 := hide (((below1 w (.cells #[.bool false, .slice none 0 0] 26)).alloc (by simp) (.cells #[.bool false, .slice none 0 0] 76)).trans (hb1.mono (by omega)))
  have HK1 := hide (((HK.out.alloc (.cells #[.bool false, .slice none 0 0] 76))).below hb1 (by omega))
  clear hor hb1 hb HK
  go_wp2_with fail
  refine (CN.out _ _ HBig.out).mono ?_
  rintro e w2 ⟨A, k, c, rfl, hr, hb2⟩
  have hk := HK1.out.below hb2 HK1.out.lt
  have z0 := hk.cell 0
  have z1 := hk.cell 1
  have q0 := hk.frozen 0
  have q1 := hk.frozen 1
  simp only [List.getElem?_toArray, List.getElem?_cons_zero, List.getElem?_cons_succ] at z0 z1
  have Hk := hide hk
  have Hr := hide hr
  have HB2 := hide (HB1.out.trans (hb2.mono HB1.out.size))
  clear hk hr hb2
  have z0' := hide ((below1 w2 (.cells #[.int .u64 1] 59)))
  have Hk3 := hide (Hk.out.alloc (.cells #[.int .u64 1] 59))
  have Hr3 := hide (Hr.out.alloc (.cells #[.int .u64 1] 59))
  have HB3 := hide (HB2.out.alloc HB2.out.size (.cells #[.int .u64 1] 59))
  have y0 := Hk3.out.cell 0
  have y1 := Hk3.out.cell 1
  have p0 := Hk3.out.frozen 0
  have p1 := Hk3.out.frozen 1
  simp only [List.getElem?_toArray, List.getElem?_cons_zero, List.getElem?_cons_succ] at y0 y1
  go_wp2
  obtain ⟨c0, c1, hrd, hbe⟩ := parts_end Hk3.out Hr3.out HB3.out
  refine bodyPost_ret (v := .tuple #[.agg #[.bool false, .slice A k c], .slice (some ⟨w2.heap.size, 0, none⟩) 1 1]) (by simp [results, Tryz.results21, go_sem, c0, c1]) rfl ?_
  exact ⟨A, k, c, _, rfl, hrd, hbe⟩
set_option maxHeartbeats 1600000 in
theorem parts_big (n : Nat) (hlen : (Dg.digs W64 n).length ≤ 1000000) (w : World) (g o : Nat) (h : BigAt w g o false n) :
    Calls Tryz.prog 21 #[.iface 87 (.agg #[.pointer (some ⟨g, o, none⟩)])] w (PartsOut n w) := by
  have CN : Hid (∀ (W : World), BigAt W g o false n → Calls Tryz.prog 31 #[.pointer (some ⟨g, o, none⟩)] W _) := fun W h => number_any n hlen W g o h
  have HK := hide (Blk.new w 26 #[.bool false, .slice none 0 0])
  have HBig := hide (h.below (below1 w (.cells #[.bool false, .slice none 0 0] 26)))
  clear hlen h
  go_enter Tryz.func21, Tryz.ntmps21
  go_wp2_with fail
  refine (val_int _ _).mono ?_
  rintro e w1 ⟨rfl, hb1⟩
  have HB1 := hide (below_alloc (hb1.mono (by simp)) (Nat.le_refl w.heap.size))
  have HK1 := hide (HK.out.below hb1 (by simp))
  have HBig1 := hide (HBig.out.below hb1)
  clear hb1 HK HBig
  go_wp2_with fail
  refine (CN.out _ HBig1.out).mono ?_
  rintro e w2 ⟨A, k, c, rfl, hr, hb2⟩
  have hk := HK1.out.below hb2 HK1.out.lt
  have Hk := hide hk
  have Hr := hide hr
  have HB2 := hide (HB1.out.trans (hb2.mono HB1.out.size))
  clear hk hr hb2
  have Hk3 := hide (Hk.out.alloc (.cells #[.int .u64 1] 59))
  have Hr3 := hide (Hr.out.alloc (.cells #[.int .u64 1] 59))
  have HB3 := hide (HB2.out.alloc HB2.out.size (.cells #[.int .u64 1] 59))
  have y0 := Hk3.out.cell 0
  have y1 := Hk3.out.cell 1
  have p0 := Hk3.out.frozen 0
  have p1 := Hk3.out.frozen 1
  simp only [List.getElem?_toArray, List.getElem?_cons_zero, List.getElem?_cons_succ] at y0 y1
  go_wp2
  obtain ⟨c0, c1, hrd, hbe⟩ := parts_end Hk3.out Hr3.out HB3.out
  refine bodyPost_ret (v := .tuple #[.agg #[.bool false, .slice A k c], .slice (some ⟨w2.heap.size, 0, none⟩) 1 1]) (by simp [results, Tryz.results21, go_sem, c0, c1]) rfl ?_
  exact ⟨A, k, c, _, rfl, hrd, hbe⟩
theorem parts_any (n : Nat) (hlen : (Dg.digs W64 n).length ≤ 1000000) (w : World) (v : Value) (h : ConstInt w v (n : Int)) : Calls Tryz.prog 21 #[v] w (PartsOut n w) := by
  rcases h with ⟨rfl, h1, h2⟩ | ⟨g, o, neg, m, rfl, hb, hf, hs⟩
  · exact parts_i64 n (by omega) w
  · have hpos := big_pos hf
    have hn : neg = false ∧ m = n := by
      cases neg with
      | true => simp [sgn] at hs; omega
      | false => simp [sgn] at hs; exact ⟨rfl, by omega⟩
    obtain ⟨rfl, rfl⟩ := hn
    exact parts_big m hlen w g o hb
@[go_sem] theorem kind_method_i64 (x : Int) (w : World) : (method 42 85 (.int .i64 x) "Kind").run Tryz.prog w = .ok (203, .int .i64 x) w := by kernel_rfl
@[go_sem] theorem kind_method_int (a : Addr) (w : World) : (method 42 87 (.agg #[.pointer (some a)]) "Kind").run Tryz.prog w = .ok (207, .agg #[.pointer (some a)]) w := by kernel_rfl
theorem kindT_i64 (x : Int) (w : World) : Calls Tryz.prog 203 #[.int .i64 x] w (fun e w' => e = .returned (.int .i64 3) ∧ Below w.heap.size w w') := by
  go_enter Tryz.func203, Tryz.ntmps203
  go_wp2
  go_ret
  exact ⟨rfl, Below.refl _ _⟩
theorem kindT_int (a : Addr) (w : World) : Calls Tryz.prog 207 #[.agg #[.pointer (some a)]] w (fun e w' => e = .returned (.int .i64 3) ∧ Below w.heap.size w w') := by
  go_enter Tryz.func207, Tryz.ntmps207
  go_wp2
  go_ret
  exact ⟨rfl, (Below.refl _ _).alloc (Nat.le_refl _) _⟩
def zbox : Array Value := #[.int .i64 0, .bool false, .string ⟨#[]⟩, .bool false, .slice none 0 0, .slice none 0 0, .bool false, .slice none 0 0, .slice none 0 0]
/-- What 'told' answers of a natural number. -/
def ToldOut (n : Nat) (w : World) (e : Ending) (w' : World) : Prop :=
  ∃ (A : Option Addr) (k c : Nat), e = .returned (.agg #[.int .i64 3, .bool false, .string ⟨#[]⟩, .bool false, .slice A k c, .slice none 0 0, .bool false, .slice none 0 0, .slice none 0 0]) ∧ Rd w' (.slice A k c) (cU (Dg.digs W64 n)) ∧ Below w.heap.size w w'
def isU : Value → Bool | .int .u64 _ => true | _ => false
/-- What reads as words does not lie in a block without words: it is kept when that block is written. -/
theorem Rd.keepU {w w' : World} {v : Value} {l : List Nat} (h : Rd w v (cU l)) {g : Nat} {t : TypeId} {cs : Array Value} (hk : Blk w g t cs) (hn : ∀ (i : Nat) (y : Value), cs[i]? = some y → isU y = false) (hg : w.grownBy w' (some g)) : Rd w' v (cU l) := by
  obtain ⟨A, c, hv, h1, h2, h3⟩ := h
  refine ⟨A, c, hv, h1, h2, fun hp => ?_⟩
  obtain ⟨b, o, hA, hb, hc⟩ := h3 hp
  have hbg : b ≠ g := by
    rintro rfl
    have h0 := hc 0 _ (cU_at (l := l) (j := 0) (by simpa [cU] using hp))
    rw [hk.cell] at h0
    have h4 := hn _ _ h0
    cases h4
  exact ⟨b, o, hA, by have := hg.size; omega, fun j u hu => (World.cell?_of_block (hg.block b hb (fun e => hbg (by injection e)))).trans (hc j u hu)⟩
theorem tbox_noU (z : Int) : ∀ (i : Nat) (y : Value), (#[Value.int .i64 z, .bool false, .string ⟨#[]⟩, .bool false, .slice none 0 0, .slice none 0 0, .bool false, .slice none 0 0, .slice none 0 0] : Array Value)[i]? = some y → isU y = false := by
  intro i y h
  match i, h with
  | 0, h | 1, h | 2, h | 3, h | 4, h | 5, h | 6, h | 7, h | 8, h => simp at h; subst h; rfl
  | (_ + 9), h => simp at h
set_option maxRecDepth 100000 in
set_option maxHeartbeats 3200000 in
theorem told_any (n : Nat) (hlen : (Dg.digs W64 n).length ≤ 1000000) (w : World) (v : Value) (h : ConstInt w v (n : Int)) : Calls Tryz.prog 10 #[v] w (ToldOut n w) := by
  have CP := hide fun (W : World) (hB : Below w.heap.size w W) => parts_any n hlen W v (h.below hB)
  obtain ⟨kv, kt, kf, hv, CK⟩ : ∃ (kv : Value) (kt kf : Nat), v = .iface kt kv ∧ (method 42 kt kv "Kind").run Tryz.prog w = .ok (kf, kv) w ∧ True := by
    rcases h with ⟨rfl, _, _⟩ | ⟨g, o, neg, m, rfl, _, _, _⟩
    · exact ⟨_, _, _, rfl, kind_method_i64 _ _, trivial⟩
    · exact ⟨_, _, _, rfl, kind_method_int _ _, trivial⟩
  clear CK hv
  have HZ := hide (Blk.new w 28 #[.int .i64 0, .bool false, .string ⟨#[]⟩, .bool false, .slice none 0 0, .slice none 0 0, .bool false, .slice none 0 0, .slice none 0 0])
  have HB0 := hide (below1 w (.cells #[.int .i64 0, .bool false, .string ⟨#[]⟩, .bool false, .slice none 0 0, .slice none 0 0, .bool false, .slice none 0 0, .slice none 0 0] 28))
  rcases h with ⟨rfl, h1, h2⟩ | ⟨g, o, neg, m, rfl, hbig, _, _⟩
  all_goals
    (try clear h1 h2)
    (try clear hbig)
    clear hlen
    go_enter Tryz.func10, Tryz.ntmps10
    go_wp2_with fail
    (first | refine (kindT_i64 _ _).mono ?_ | refine (kindT_int _ _).mono ?_)
    rintro e w1 ⟨rfl, hb1⟩
    have HZ1 := hide (HZ.out.below hb1 HZ.out.lt)
    have HB1 := hide (HB0.out.trans (hb1.mono HB0.out.size))
    clear hb1
    have HT := hide (Blk.new w1 28 #[.int .i64 3, .bool false, .string ⟨#[]⟩, .bool false, .slice none 0 0, .slice none 0 0, .bool false, .slice none 0 0, .slice none 0 0])
    have HZ2 := hide (HZ1.out.alloc (.cells #[.int .i64 3, .bool false, .string ⟨#[]⟩, .bool false, .slice none 0 0, .slice none 0 0, .bool false, .slice none 0 0, .slice none 0 0] 28))
    have HB2 := hide (HB1.out.alloc HB1.out.size (.cells #[.int .i64 3, .bool false, .string ⟨#[]⟩, .bool false, .slice none 0 0, .slice none 0 0, .bool false, .slice none 0 0, .slice none 0 0] 28))
    have HNE : Hid (w.heap.size ≠ w1.heap.size) := by have := HZ1.out.lt; simp only [Hid]; omega
    have HNE2 : Hid (w.heap.size ≤ w1.heap.size) := by have := HZ1.out.lt; simp only [Hid]; omega
    go_wp2_with fail
    (first | refine (kindT_i64 _ _).mono ?_ | refine (kindT_int _ _).mono ?_)
    rintro e w2 ⟨rfl, hb2⟩
    have HT3 := hide (HT.out.below hb2 (by simp))
    have HZ3 := hide (HZ2.out.below hb2 HZ2.out.lt)
    have HB3 := hide (HB2.out.trans (hb2.mono HB2.out.size))
    clear hb2
    go_wp2_with fail
    refine (CP.out _ HB3.out).mono ?_
    rintro e w3 ⟨A, k, c, pv, rfl, hr, hb3⟩
    have hT4 := HT3.out.below hb3 HT3.out.lt
    have hZ4 := HZ3.out.below hb3 HZ3.out.lt
    have HB4 := hide (HB3.out.trans (hb3.mono HB3.out.size))
    have Hr := hide hr
    have t0 := hT4.cell 0; have t1 := hT4.cell 1; have t2 := hT4.cell 2; have t3 := hT4.cell 3; have t4 := hT4.cell 4
    have t5 := hT4.cell 5; have t6 := hT4.cell 6; have t7 := hT4.cell 7; have t8 := hT4.cell 8
    have f3 := hT4.frozen 3; have f4 := hT4.frozen 4
    have y0 := hZ4.cell 0; have y1 := hZ4.cell 1; have y2 := hZ4.cell 2; have y3 := hZ4.cell 3; have y4 := hZ4.cell 4
    have y5 := hZ4.cell 5; have y6 := hZ4.cell 6; have y7 := hZ4.cell 7; have y8 := hZ4.cell 8
    have g0 := hZ4.frozen 0; have g1 := hZ4.frozen 1; have g2 := hZ4.frozen 2; have g3 := hZ4.frozen 3; have g4 := hZ4.frozen 4
    have g5 := hZ4.frozen 5; have g6 := hZ4.frozen 6; have g7 := hZ4.frozen 7; have g8 := hZ4.frozen 8
    simp only [List.getElem?_toArray, List.getElem?_cons_zero, List.getElem?_cons_succ] at t0 t1 t2 t3 t4 t5 t6 t7 t8 y0 y1 y2 y3 y4 y5 y6 y7 y8
    have HT4 := hide hT4
    have HZ4 := hide hZ4
    have hne1 : ¬ w.heap.size = w1.heap.size := HNE.out
    have hne2 : ¬ w1.heap.size = w.heap.size := fun e => HNE.out e.symm
    clear hT4 hZ4 hr hb3
    go_wp2
    have f := (HZ4.out.far (p := ⟨w1.heap.size, 3, none⟩) hne1 (.bool false)).far (p := ⟨w1.heap.size, 4, none⟩) hne1 (.slice A k c)
    have fin := (((((((((f.set_ 0 (.int .i64 3)).set_ 1 (.bool false)).set_ 2 (.string ⟨#[]⟩)).set_ 3 (.bool false)).set_ 4 (.slice A k c)).set_ 5 (.slice none 0 0)).set_ 6 (.bool false)).set_ 7 (.slice none 0 0)).set_ 8 (.slice none 0 0))
    simp only [List.setIfInBounds_toArray, List.set_cons_zero, List.set_cons_succ] at fin
    have c0 := fin.cell 0; have c1 := fin.cell 1; have c2 := fin.cell 2; have c3 := fin.cell 3; have c4 := fin.cell 4; have c5 := fin.cell 5; have c6 := fin.cell 6; have c7 := fin.cell 7; have c8 := fin.cell 8
    simp only [List.getElem?_toArray, List.getElem?_cons_zero, List.getElem?_cons_succ] at c0 c1 c2 c3 c4 c5 c6 c7 c8
    refine bodyPost_ret (v := .agg #[.int .i64 3, .bool false, .string ⟨#[]⟩, .bool false, .slice A k c, .slice none 0 0, .bool false, .slice none 0 0, .slice none 0 0]) (by simp [results, Tryz.results10, go_sem, c0, c1, c2, c3, c4, c5, c6, c7, c8]) rfl ?_
    have r1 := Hr.out.keepU HT4.out (tbox_noU 3) (only_setCell (p := ⟨w1.heap.size, 4, none⟩) (only_setCell (p := ⟨w1.heap.size, 3, none⟩) (World.grownBy.refl w3 _) (.inl rfl) (.bool false)) (.inl rfl) (.slice A k c))
    exact ⟨A, k, c, rfl, r1.keepU f (tbox_noU 0) (only_setCell (p := ⟨w.heap.size, 8, none⟩) (only_setCell (p := ⟨w.heap.size, 7, none⟩) (only_setCell (p := ⟨w.heap.size, 6, none⟩) (only_setCell (p := ⟨w.heap.size, 5, none⟩) (only_setCell (p := ⟨w.heap.size, 4, none⟩) (only_setCell (p := ⟨w.heap.size, 3, none⟩) (only_setCell (p := ⟨w.heap.size, 2, none⟩) (only_setCell (p := ⟨w.heap.size, 1, none⟩) (only_setCell (p := ⟨w.heap.size, 0, none⟩) (World.grownBy.refl _ _) (.inl rfl) _) (.inl rfl) _) (.inl rfl) _) (.inl rfl) _) (.inl rfl) _) (.inl rfl) _) (.inl rfl) _) (.inl rfl) _) (.inl rfl) _), (((((((((((HB4.out.setCell HNE2.out _).setCell HNE2.out _).setCell (Nat.le_refl _) _).setCell (Nat.le_refl _) _).setCell (Nat.le_refl _) _).setCell (Nat.le_refl _) _).setCell (Nat.le_refl _) _).setCell (Nat.le_refl _) _).setCell (Nat.le_refl _) _).setCell (Nat.le_refl _) _).setCell (Nat.le_refl _) _)⟩
set_option maxRecDepth 100000 in
set_option maxHeartbeats 3200000 in
theorem fromBytesImpl_any (bs : List Nat) (hlen : bs.length ≤ 1000000) (hd : (Dg.digs W64 (Dg.val 256 bs)).length ≤ 1000000) (w : World) (A : Option Addr) (n c : Nat) (hr : Raw w A n c bs) :
    Calls Tryz.prog 5 #[.slice A n c] w (ToldOut (Dg.val 256 bs) w) := by
  obtain ⟨i0, hi, hz0, hz1, hz2⟩ := info_parts infoB
  have HZ := hide (Blk.new w 28 #[.int .i64 0, .bool false, .string ⟨#[]⟩, .bool false, .slice none 0 0, .slice none 0 0, .bool false, .slice none 0 0, .slice none 0 0])
  have HB0 := hide (below1 w (.cells #[.int .i64 0, .bool false, .string ⟨#[]⟩, .bool false, .slice none 0 0, .slice none 0 0, .bool false, .slice none 0 0, .slice none 0 0] 28))
  have hr1 := hr.below HB0.out
  have HM : Hid (∀ W, Rd W (.slice none 0 0) (cB [])) := fun W => Rd.nil_ _ _ _ (Nat.zero_le _)
  have CT : Hid (∀ (W : World) (v : Value), ConstInt W v (Dg.val 256 bs) → Calls Tryz.prog 10 #[v] W (ToldOut (Dg.val 256 bs) W)) := fun W v h => told_any _ hd W v h
  have CF : Hid (∀ (W : World) (v : Value), Rd W v (cB bs) → Calls Tryz.prog 11 #[v] W _) := fun W v h => fromBytes_any bs hr.2.2.2.1 hlen W v h
  have FIN : Hid (∀ (W W2 : World) (A1 : Option Addr) (k1 c1 : Nat), Below w.heap.size w W → Blk W w.heap.size 28 #[.int .i64 0, .bool false, .string ⟨#[]⟩, .bool false, .slice none 0 0, .slice none 0 0, .bool false, .slice none 0 0, .slice none 0 0] → True) := fun _ _ _ _ _ _ _ => trivial
  clear FIN
  obtain ⟨hl, hnc, hcm, hlt, hA⟩ := hr1
  have H1 := hide hl
  have H3 := hide hlen
  have H4 := hide (show n ≤ 1000000 by omega)
  rcases hA with ⟨rfl, rfl, rfl⟩ | ⟨x, rfl, hc⟩
  · have hb0 : bs = [] := List.eq_nil_of_length_eq_zero hl
    have HR := hide (show ∀ W, Rd W (.slice none 0 0) (cB bs) from by rw [hb0]; exact HM.out)
    clear hl hlt hlen hb0 hr hd HM
    go_enter Tryz.func5, Tryz.ntmps5
    go_wp2_with fail
    refine (CF.out _ _ (HR.out _)).mono ?_
    rintro e w1 ⟨v', rfl, hci, hb⟩
    have Hci := hide hci
    have HZk := hide (HZ.out.below hb HZ.out.lt)
    have HBk := hide (HB0.out.trans (hb.mono HB0.out.size))
    clear hci hb
    go_wp2_with fail
    refine (CT.out _ _ Hci.out).mono ?_
    rintro e w2 ⟨A1, k1, c1, rfl, hr2, hb2⟩
    have hZ := HZk.out.below hb2 HZk.out.lt
    have y0 := hZ.cell 0
    have y1 := hZ.cell 1
    have y2 := hZ.cell 2
    have y3 := hZ.cell 3
    have y4 := hZ.cell 4
    have y5 := hZ.cell 5
    have y6 := hZ.cell 6
    have y7 := hZ.cell 7
    have y8 := hZ.cell 8
    have g0 := hZ.frozen 0
    have g1 := hZ.frozen 1
    have g2 := hZ.frozen 2
    have g3 := hZ.frozen 3
    have g4 := hZ.frozen 4
    have g5 := hZ.frozen 5
    have g6 := hZ.frozen 6
    have g7 := hZ.frozen 7
    have g8 := hZ.frozen 8
    simp only [List.getElem?_toArray, List.getElem?_cons_zero, List.getElem?_cons_succ] at y0 y1 y2 y3 y4 y5 y6 y7 y8
    have HZ2 := hide hZ
    have Hr2 := hide hr2
    have HB2 := hide (HBk.out.trans (hb2.mono HBk.out.size))
    clear hZ hr2 hb2
    go_wp2
    have fin := (((((((((HZ2.out.set_ 0 (.int .i64 3)).set_ 1 (.bool false)).set_ 2 (.string ⟨#[]⟩)).set_ 3 (.bool false)).set_ 4 (.slice A1 k1 c1)).set_ 5 (.slice none 0 0)).set_ 6 (.bool false)).set_ 7 (.slice none 0 0)).set_ 8 (.slice none 0 0))
    simp only [List.setIfInBounds_toArray, List.set_cons_zero, List.set_cons_succ] at fin
    have c10 := fin.cell 0
    have c11 := fin.cell 1
    have c12 := fin.cell 2
    have c13 := fin.cell 3
    have c14 := fin.cell 4
    have c15 := fin.cell 5
    have c16 := fin.cell 6
    have c17 := fin.cell 7
    have c18 := fin.cell 8
    simp only [List.getElem?_toArray, List.getElem?_cons_zero, List.getElem?_cons_succ] at c10 c11 c12 c13 c14 c15 c16 c17 c18
    refine bodyPost_ret (v := .agg #[.int .i64 3, .bool false, .string ⟨#[]⟩, .bool false, .slice A1 k1 c1, .slice none 0 0, .bool false, .slice none 0 0, .slice none 0 0]) (by simp [results, Tryz.results5, go_sem, c10, c11, c12, c13, c14, c15, c16, c17, c18]) rfl ?_
    exact ⟨A1, k1, c1, rfl, Hr2.out.keepU HZ2.out (tbox_noU 0) (only_setCell (p := ⟨w.heap.size, 8, none⟩) (only_setCell (p := ⟨w.heap.size, 7, none⟩) (only_setCell (p := ⟨w.heap.size, 6, none⟩) (only_setCell (p := ⟨w.heap.size, 5, none⟩) (only_setCell (p := ⟨w.heap.size, 4, none⟩) (only_setCell (p := ⟨w.heap.size, 3, none⟩) (only_setCell (p := ⟨w.heap.size, 2, none⟩) (only_setCell (p := ⟨w.heap.size, 1, none⟩) (only_setCell (p := ⟨w.heap.size, 0, none⟩) (World.grownBy.refl _ _) (.inl rfl) _) (.inl rfl) _) (.inl rfl) _) (.inl rfl) _) (.inl rfl) _) (.inl rfl) _) (.inl rfl) _) (.inl rfl) _) (.inl rfl) _), (((((((((HB2.out.setCell (Nat.le_refl _) _).setCell (Nat.le_refl _) _).setCell (Nat.le_refl _) _).setCell (Nat.le_refl _) _).setCell (Nat.le_refl _) _).setCell (Nat.le_refl _) _).setCell (Nat.le_refl _) _).setCell (Nat.le_refl _) _).setCell (Nat.le_refl _) _)⟩
  · have Hc := hide hc
    have H5 := hide (show 0 ≤ n from Nat.zero_le _)
    clear hl hlt hlen hc hr hd HM
    go_enter Tryz.func5, Tryz.ntmps5
    go_wp2_with (at_builtin; refine wpList_append_own _ rfl _ _ 22 rfl (w.heap.size + 1) 5 i0 (.int .u8 0) 1 1 Tryz.underlying22 hi hz0 hz1 hz2 rfl (by omega) (.slice none 0 0) 0 [] rfl (World.ownsRow_nil _ _ _ _) x n c (cB bs) rfl ?c1 Hc.out (cB_one bs) ?c2 ?c3 (by simp) ?_)
    case c1 => rw [cB_len, H1.out]; omega
    case c2 => have := H4.out; simp only [maxLen]; omega
    case c3 => have := H4.out; omega
    intro v1 w1 hown hg _
    have hb1 : Below (w.heap.size + 1) (w.alloc (.cells #[.int .i64 0, .bool false, .string ⟨#[]⟩, .bool false, .slice none 0 0, .slice none 0 0, .bool false, .slice none 0 0, .slice none 0 0] 28)) w1 := below_of_grown hg (by simp) (by simp [Value.ownBlock])
    have HZa := hide (HZ.out.below hb1 (by omega))
    have HBa := hide (HB0.out.trans (hb1.mono (by omega)))
    have HRa := hide (Rd.of_own hown)
    clear hg hown hb1
    go_wp2_with fail
    refine (CF.out _ _ HRa.out).mono ?_
    rintro e w3 ⟨v', rfl, hci, hb⟩
    have Hci := hide hci
    have HZk := hide (HZa.out.below hb HZa.out.lt)
    have HBk := hide (HBa.out.trans (hb.mono HBa.out.size))
    clear hci hb
    go_wp2_with fail
    refine (CT.out _ _ Hci.out).mono ?_
    rintro e w2 ⟨A1, k1, c1, rfl, hr2, hb2⟩
    have hZ := HZk.out.below hb2 HZk.out.lt
    have y0 := hZ.cell 0
    have y1 := hZ.cell 1
    have y2 := hZ.cell 2
    have y3 := hZ.cell 3
    have y4 := hZ.cell 4
    have y5 := hZ.cell 5
    have y6 := hZ.cell 6
    have y7 := hZ.cell 7
    have y8 := hZ.cell 8
    have g0 := hZ.frozen 0
    have g1 := hZ.frozen 1
    have g2 := hZ.frozen 2
    have g3 := hZ.frozen 3
    have g4 := hZ.frozen 4
    have g5 := hZ.frozen 5
    have g6 := hZ.frozen 6
    have g7 := hZ.frozen 7
    have g8 := hZ.frozen 8
    simp only [List.getElem?_toArray, List.getElem?_cons_zero, List.getElem?_cons_succ] at y0 y1 y2 y3 y4 y5 y6 y7 y8
    have HZ2 := hide hZ
    have Hr2 := hide hr2
    have HB2 := hide (HBk.out.trans (hb2.mono HBk.out.size))
    clear hZ hr2 hb2
    go_wp2
    have fin := (((((((((HZ2.out.set_ 0 (.int .i64 3)).set_ 1 (.bool false)).set_ 2 (.string ⟨#[]⟩)).set_ 3 (.bool false)).set_ 4 (.slice A1 k1 c1)).set_ 5 (.slice none 0 0)).set_ 6 (.bool false)).set_ 7 (.slice none 0 0)).set_ 8 (.slice none 0 0))
    simp only [List.setIfInBounds_toArray, List.set_cons_zero, List.set_cons_succ] at fin
    have c10 := fin.cell 0
    have c11 := fin.cell 1
    have c12 := fin.cell 2
    have c13 := fin.cell 3
    have c14 := fin.cell 4
    have c15 := fin.cell 5
    have c16 := fin.cell 6
    have c17 := fin.cell 7
    have c18 := fin.cell 8
    simp only [List.getElem?_toArray, List.getElem?_cons_zero, List.getElem?_cons_succ] at c10 c11 c12 c13 c14 c15 c16 c17 c18
    refine bodyPost_ret (v := .agg #[.int .i64 3, .bool false, .string ⟨#[]⟩, .bool false, .slice A1 k1 c1, .slice none 0 0, .bool false, .slice none 0 0, .slice none 0 0]) (by simp [results, Tryz.results5, go_sem, c10, c11, c12, c13, c14, c15, c16, c17, c18]) rfl ?_
    exact ⟨A1, k1, c1, rfl, Hr2.out.keepU HZ2.out (tbox_noU 0) (only_setCell (p := ⟨w.heap.size, 8, none⟩) (only_setCell (p := ⟨w.heap.size, 7, none⟩) (only_setCell (p := ⟨w.heap.size, 6, none⟩) (only_setCell (p := ⟨w.heap.size, 5, none⟩) (only_setCell (p := ⟨w.heap.size, 4, none⟩) (only_setCell (p := ⟨w.heap.size, 3, none⟩) (only_setCell (p := ⟨w.heap.size, 2, none⟩) (only_setCell (p := ⟨w.heap.size, 1, none⟩) (only_setCell (p := ⟨w.heap.size, 0, none⟩) (World.grownBy.refl _ _) (.inl rfl) _) (.inl rfl) _) (.inl rfl) _) (.inl rfl) _) (.inl rfl) _) (.inl rfl) _) (.inl rfl) _) (.inl rfl) _) (.inl rfl) _), (((((((((HB2.out.setCell (Nat.le_refl _) _).setCell (Nat.le_refl _) _).setCell (Nat.le_refl _) _).setCell (Nat.le_refl _) _).setCell (Nat.le_refl _) _).setCell (Nat.le_refl _) _).setCell (Nat.le_refl _) _).setCell (Nat.le_refl _) _).setCell (Nat.le_refl _) _)⟩
end Go.Proofs.YtgooioafmddneacGreatDoor
