/- The reference's fraction: that it ends, and what it leaves where it is 'true'. -/
import Derived.Test.YtgooioafmddneabGreatDoorGcd
import Derived.Test.YtgooioafmddneabGreatDoorWords
import Derived.Deep.RegionWith
import Derived.Deep.CutRange
import Derived.Deep.RegionHeld3
namespace Go.Proofs.YtgooioafmddneabGreatDoor
open Go.RowKit
/-- What fraction (and Rational, and the laws' rational) answers: a fraction and a truth; where the truth is 'true', the fraction has the number's sign and magnitude, and the words under it are no nought. -/
def FracOut (neg : Bool) (V D : Nat) (w : World) (e : Ending) (w' : World) : Prop :=
  ∃ (ng b : Bool) (B1 B2 : Option Addr) (m1 d1 m2 d2 : Nat), e = .returned (.tuple #[.agg #[.bool ng, .slice B1 m1 d1, .slice B2 m2 d2], .bool b]) ∧
    (b = true → ng = neg ∧ (neg = true → 0 < V) ∧ 0 < D ∧ Rd w' (.slice B1 m1 d1) (cI (Dg.digs 65536 V))) ∧ Below w.heap.size w w'
def FInv (w : World) (box : Array Value) (W : World) : Prop := Blk W w.heap.size 24 box ∧ Blk W (w.heap.size + 1) 31 #[.bool false, .slice none 0 0, .slice none 0 0] ∧ Below w.heap.size w W ∧ w.heap.size + 2 ≤ W.heap.size
theorem FInv.start (w : World) (box : Array Value) : FInv w box ((w.alloc (.cells box 24)).alloc (.cells #[.bool false, .slice none 0 0, .slice none 0 0] 31)) := by
  refine ⟨(Blk.new w _ _).alloc _, ?_, (below1 _ _).alloc (by simp) _, by simp⟩
  have := Blk.new (w.alloc (.cells box 24)) 31 #[.bool false, .slice none 0 0, .slice none 0 0]
  simpa using this
theorem FInv.below {w W W' : World} {box : Array Value} (h : FInv w box W) (hb : Below W.heap.size W W') : FInv w box W' :=
  ⟨h.1.below hb h.1.lt, h.2.1.below hb h.2.1.lt, h.2.2.1.trans (hb.mono h.2.2.1.size), Nat.le_trans h.2.2.2 hb.size⟩
theorem FInv.alloc {w W : World} {box : Array Value} (h : FInv w box W) (o : Obj) : FInv w box (W.alloc o) := h.below (below1 _ _)
theorem FInv.drew {w W : World} {box : Array Value} (h : FInv w box W) : FInv w box W.drew := ⟨h.1, h.2.1, h.2.2.1.drew, h.2.2.2⟩
theorem finv_keep {w : World} {neg : Bool} {u : Value} : ∀ W : World, FInv w #[.bool neg, u] W → W.cell? ⟨w.heap.size, 0, none⟩ = some (.bool neg) ∧ W.cell? ⟨w.heap.size, 1, none⟩ = some u :=
  fun _ h => ⟨h.1.cell 0, h.1.cell 1⟩
theorem FInv.put {w W : World} {box : Array Value} {g : Nat} (h : FInv w box W) (hg : w.heap.size + 2 ≤ g) (x y z : Value) : FInv w box (((W.setCell ⟨g, 0, none⟩ x).setCell ⟨g, 1, none⟩ y).setCell ⟨g, 2, none⟩ z) :=
  ⟨((h.1.far (by simp; omega) _).far (by simp; omega) _).far (by simp; omega) _, ((h.2.1.far (by simp; omega) _).far (by simp; omega) _).far (by simp; omega) _, put3_below h.2.2.1 (by omega) _ _ _, by simpa [World.setCell] using h.2.2.2⟩
def FMid (w : World) (box : Array Value) (ng : Bool) (V D : Nat) (s4 : Value) (wx : World) : Prop :=
  ∃ (g : Nat) (A6 A7 : Option Addr) (k6 d6 k7 d7 : Nat), s4 = .pointer (some ⟨g, 0, none⟩) ∧ Blk wx g 31 #[.bool ng, .slice A6 k6 d6, .slice A7 k7 d7] ∧ Rd wx (.slice A6 k6 d6) (cI (Dg.digs 65536 V)) ∧ Rd wx (.slice A7 k7 d7) (cI (Dg.digs 65536 D)) ∧
    FInv w box wx ∧ w.heap.size + 2 ≤ g
theorem FMid.stored {w w2 : World} {box : Array Value} {ng : Bool} {V D g : Nat} {A6 A7 : Option Addr} {k6 d6 k7 d7 : Nat} (hk : Blk w2 g 31 #[.bool false, .slice none 0 0, .slice none 0 0]) (hv : Rd w2 (.slice A6 k6 d6) (cI (Dg.digs 65536 V))) (hu : Rd w2 (.slice A7 k7 d7) (cI (Dg.digs 65536 D)))
    (hI : FInv w box w2) (hg : w.heap.size + 2 ≤ g) :
    FMid w box ng V D (.pointer (some ⟨g, 0, none⟩)) (((w2.setCell ⟨g, 0, none⟩ (.bool ng)).setCell ⟨g, 1, none⟩ (.slice A6 k6 d6)).setCell ⟨g, 2, none⟩ (.slice A7 k7 d7)) := by
  have H3 : Blk3 w2 g 31 false (.slice none 0 0) (.slice none 0 0) := ⟨hk, rfl, rfl⟩
  refine ⟨g, A6, A7, k6, d6, k7, d7, rfl, ?_, put3_rd H3 hv _ _ _, put3_rd H3 hu _ _ _, hI.put hg _ _ _, hg⟩
  simpa using ((hk.set_ 0 (.bool ng)).set_ 1 (.slice A6 k6 d6)).set_ 2 (.slice A7 k7 d7)
theorem FMid.fresh {w w2 : World} {box : Array Value} {ng : Bool} {V D : Nat} {A6 A7 : Option Addr} {k6 d6 k7 d7 : Nat} (hv : Rd w2 (.slice A6 k6 d6) (cI (Dg.digs 65536 V))) (hu : Rd w2 (.slice A7 k7 d7) (cI (Dg.digs 65536 D)))
    (hI : FInv w box w2) :
    FMid w box ng V D (.pointer (some ⟨w2.heap.size, 0, none⟩)) (w2.alloc (.cells #[.bool ng, .slice A6 k6 d6, .slice A7 k7 d7] 31)) :=
  ⟨_, A6, A7, k6, d6, k7, d7, rfl, Blk.new _ _ _, hv.alloc _, hu.alloc _, hI.alloc _, hI.2.2.2⟩
theorem digs_pos_len {m n : Nat} {w : World} {A : Option Addr} {c : Nat} (hv : Rd w (.slice A n c) (cI (Dg.digs 65536 m))) : (0 < n) = (0 < m) := by
  obtain ⟨_, _, e, _⟩ := hv.any
  injection e with _ e2 _
  rw [e2, cI_len]
  rcases Nat.eq_zero_or_pos m with h | h
  · subst h; simp [Dg.digs]
  · have := Dg.digs_len_pos (B := 65536) (by omega) h
    simp [h, this]
theorem words_digs {ws : List Nat} (hws : ∀ x ∈ ws, x < Dg.W64) (hl : ws.length ≤ 200) : (Dg.digs 65536 (Dg.val Dg.W64 ws)).length ≤ 1000 := by
  have e1 : Dg.val Dg.W64 ws < 65536 ^ (4 * ws.length) := by rw [← Dg.W64_pow]; exact Dg.val_lt ws hws
  have := Dg.digs_len_le (B := 65536) (by omega) e1
  omega
set_option maxRecDepth 100000 in
set_option maxHeartbeats 6400000 in
theorem fraction_any (neg : Bool) (ws den : List Nat) (hws : ∀ x ∈ ws, x < Dg.W64) (hl : ws.length ≤ 200) (hden : ∀ x ∈ den, x < Dg.W64) (hl2 : den.length ≤ 200) (w : World) (A A2 : Option Addr) (n c n2 c2 : Nat) (hv : Rd w (.slice A n c) (cU ws)) (hv2 : Rd w (.slice A2 n2 c2) (cU den)) :
    Calls Tryz.prog 13 #[.agg #[.bool neg, .slice A n c], .slice A2 n2 c2] w (FracOut neg (Dg.val Dg.W64 ws) (Dg.val Dg.W64 den) w) := by
  have CW : Hid (∀ W, FInv w #[.bool neg, .slice A n c] W → Calls Tryz.prog 20 #[.slice A n c] W (GotNat (Dg.val Dg.W64 ws) W)) := fun W hI => of_any ws hws (by omega) W _ (hv.below hI.2.2.1)
  have CD : Hid (∀ W, FInv w #[.bool neg, .slice A n c] W → Calls Tryz.prog 20 #[.slice A2 n2 c2] W (GotNat (Dg.val Dg.W64 den) W)) := fun W hI => of_any den hden (by omega) W _ (hv2.below hI.2.2.1)
  have hVl := words_digs hws hl
  have hDl := words_digs hden hl2
  have CN : Hid (∀ (W : World) (A6 : Option Addr) (k6 d6 : Nat), FInv w #[.bool neg, .slice A n c] W → Rd W (.slice A6 k6 d6) (cI (Dg.digs 65536 (Dg.val Dg.W64 ws))) →
      Calls Tryz.prog 21 #[.agg #[.bool neg, .slice A n c], .bool neg, .slice A6 k6 d6] W (fun e w1 => (∃ q : Bool, e = .returned (.bool q) ∧ (q = true → neg = true → 0 < Dg.val Dg.W64 ws)) ∧ Below W.heap.size W w1)) := by
    intro W A6 k6 d6 hI hr
    refine (isNumber_any neg neg ws _ (Dg.can_digs (by omega) _) (by omega) W A A6 n c k6 d6 (hv.below hI.2.2.1) hr).mono ?_
    rintro e w1 ⟨he, hb⟩
    refine ⟨⟨_, he, fun hq hn => ?_⟩, hb⟩
    subst hn
    simp at hq
    rw [digs_pos_len hr] at hq
    exact hq.1
  have CH : Hid (∀ (W : World) (A7 : Option Addr) (k7 d7 : Nat), FInv w #[.bool neg, .slice A n c] W → Rd W (.slice A7 k7 d7) (cI (Dg.digs 65536 (Dg.val Dg.W64 den))) →
      Calls Tryz.prog 22 #[.slice A2 n2 c2, .slice A7 k7 d7] W (fun e w1 => (∃ q : Bool, e = .returned (.bool q)) ∧ Below W.heap.size W w1)) := by
    intro W A7 k7 d7 hI hr
    refine (hasWords_any den _ (Dg.can_digs (by omega) _) (by omega) W _ _ (hv2.below hI.2.2.1) hr).mono ?_
    rintro e w1 ⟨he, hb⟩
    exact ⟨⟨_, he⟩, hb⟩
  have CG : Hid (∀ (W : World) (u v : Value), Rd W u (cI (Dg.digs 65536 (Dg.val Dg.W64 ws))) → Rd W v (cI (Dg.digs 65536 (Dg.val Dg.W64 den))) → Calls Tryz.prog 24 #[u, v] W (fun e w' => ∃ g, (Dg.digs 65536 g).length ≤ 1000 ∧ GotNat g W e w')) :=
    fun W u v hu hv => gcd_some _ _ hVl hDl W u v hu hv
  have HJ0 := hide (FInv.start w #[.bool neg, .slice A n c])
  generalize Dg.val Dg.W64 ws = V at *
  generalize Dg.val Dg.W64 den = D at *
  clear hv hv2 hws hden hl hl2 hVl hDl
  have HJ := hide HJ0.out.drew
  go_enter Tryz.func13, Tryz.ntmps13
  go_upto_region 1 with fail
  have K0 : Hid (∀ (W w1 : World), FInv w #[.bool neg, .slice A n c] W → Below (W.alloc (Obj.cells #[Value.bool false, .slice none 0 0, .slice none 0 0] 31)).heap.size (W.alloc (Obj.cells #[Value.bool false, .slice none 0 0, .slice none 0 0] 31)) w1 → Blk w1 W.heap.size 31 #[.bool false, .slice none 0 0, .slice none 0 0] ∧ w.heap.size + 2 ≤ W.heap.size) := fun W w1 hI hb => ⟨(Blk.new W _ _).below hb (by simp), hI.2.2.2⟩
  have KD : Hid (∀ w1 : World, Below (((w.alloc (Obj.cells #[Value.bool neg, .slice A n c] 24)).alloc (Obj.cells #[Value.bool false, .slice none 0 0, .slice none 0 0] 31)).alloc (Obj.cells #[Value.bool false, .slice none 0 0, .slice none 0 0] 31)).drew.heap.size (((w.alloc (Obj.cells #[Value.bool neg, .slice A n c] 24)).alloc (Obj.cells #[Value.bool false, .slice none 0 0, .slice none 0 0] 31)).alloc (Obj.cells #[Value.bool false, .slice none 0 0, .slice none 0 0] 31)).drew w1 → Blk w1 (w.heap.size + 1 + 1) 31 #[.bool false, .slice none 0 0, .slice none 0 0] ∧ w.heap.size + 2 ≤ w.heap.size + 1 + 1) := fun w1 hb => ⟨by
    have h := (Blk.new ((w.alloc (Obj.cells #[Value.bool neg, .slice A n c] 24)).alloc (Obj.cells #[Value.bool false, .slice none 0 0, .slice none 0 0] 31)) 31 #[.bool false, .slice none 0 0, .slice none 0 0]).drew.below hb (by simp [World.drew])
    simpa using h, Nat.le_refl _⟩
  have HJ1 := hide (HJ0.out.alloc (Obj.cells #[Value.bool false, .slice none 0 0, .slice none 0 0] 31)).drew
  go_cut [6] from 7 to 14 (fun s6 wx => FMid w #[.bool neg, .slice A n c] neg V D s6 wx)
  case first =>
    go_region_held3 (fun w' => w'.cell? ⟨w.heap.size, 0, none⟩ = some (.bool neg) ∧ w'.cell? ⟨w.heap.size, 1, none⟩ = some (.slice A n c))
      (first | with_reducible exact finv_keep _ HJ.out | with_reducible exact finv_keep _ (HJ.out.alloc _) | with_reducible exact finv_keep _ HJ1.out | with_reducible exact finv_keep _ (FInv.put HJ.out KX.out.2 _ _ _) | exact finv_keep _ (FInv.put HJ.out (by have := HJ.out.2.2.2; simp) _ _ _) | go_keep)
      (first
        | (go_at_call 20; (with_reducible refine (CW.out _ ?_).mono ?_); (first | with_reducible exact HJ.out | with_reducible exact HJ.out.alloc _ | with_reducible exact HJ1.out); rintro e w1 ⟨v1, rfl, hr1, hbx⟩; obtain ⟨A5, k5, d5, rfl⟩ := hr1.shape; have RA := hide hr1; (first | (with_reducible replace RB := hide (RB.out.below hbx)) | (with_reducible replace RB := hide ((RB.out.alloc _).below hbx)) | skip); (first | (replace KX := hide (And.intro (KX.out.1.below hbx KX.out.1.lt) KX.out.2)) | (with_reducible have KX := hide (KD.out _ hbx)) | (with_reducible have KX := hide (K0.out _ _ HJ.out hbx)) | skip); (first | with_reducible replace HJ := hide (HJ.out.below hbx) | with_reducible replace HJ := hide ((HJ.out.alloc _).below hbx) | with_reducible replace HJ := hide (HJ1.out.below hbx)); (try (have ex0 := KX.out.1.cell 0; have ex1 := KX.out.1.cell 1; have ex2 := KX.out.1.cell 2; have qx0 := KX.out.1.frozen 0; have qx1 := KX.out.1.frozen 1; have qx2 := KX.out.1.frozen 2; simp only [List.getElem?_toArray, List.getElem?_cons_zero, List.getElem?_cons_succ] at ex0 ex1 ex2)); clear hr1 hbx)
        | (go_at_call 20; (with_reducible refine (CD.out _ ?_).mono ?_); (first | with_reducible exact HJ.out | with_reducible exact HJ.out.alloc _ | with_reducible exact HJ1.out); rintro e w1 ⟨v1, rfl, hr1, hbx⟩; obtain ⟨A6, k6, d6, rfl⟩ := hr1.shape; have RB := hide hr1; (first | (with_reducible replace RA := hide (RA.out.below hbx)) | (with_reducible replace RA := hide ((RA.out.alloc _).below hbx)) | skip); (first | (replace KX := hide (And.intro (KX.out.1.below hbx KX.out.1.lt) KX.out.2)) | (with_reducible have KX := hide (KD.out _ hbx)) | (with_reducible have KX := hide (K0.out _ _ HJ.out hbx)) | skip); (first | with_reducible replace HJ := hide (HJ.out.below hbx) | with_reducible replace HJ := hide ((HJ.out.alloc _).below hbx) | with_reducible replace HJ := hide (HJ1.out.below hbx)); (try (have ex0 := KX.out.1.cell 0; have ex1 := KX.out.1.cell 1; have ex2 := KX.out.1.cell 2; have qx0 := KX.out.1.frozen 0; have qx1 := KX.out.1.frozen 1; have qx2 := KX.out.1.frozen 2; simp only [List.getElem?_toArray, List.getElem?_cons_zero, List.getElem?_cons_succ] at ex0 ex1 ex2)); clear hr1 hbx))
    all_goals (go_wp2_with fail; go_meet)
    all_goals first
      | exact FMid.fresh RA.out RB.out HJ.out
      | exact FMid.stored KX.out.1 RA.out RB.out HJ.out KX.out.2
  case rest =>
    clear CW CD K0 KD HJ1 HJ HJ0
    obtain ⟨g, A6, A7, k6, d6, k7, d7, rfl, hb, hr6, hr7, hI, hg⟩ := hcut
    have hne : ¬ g = w.heap.size + 1 := by omega
    have hD7 : (0 < k7) = (0 < D) := digs_pos_len hr7
    have HI := hide hI
    have Hb := hide hb
    have R6 := hide hr6
    have R7 := hide hr7
    have HD7 := hide hD7
    have x0 := hI.1.cell 0
    have x1 := hI.1.cell 1
    have y0 := hb.cell 0
    have y1 := hb.cell 1
    have y2 := hb.cell 2
    simp only [List.getElem?_toArray, List.getElem?_cons_zero, List.getElem?_cons_succ] at x0 x1 y0 y1 y2
    clear hI hb hr6 hr7 hD7
    rcases Nat.eq_zero_or_pos k7 with hk7 | hk7
    · subst hk7
      have e0 := HI.out.2.1.cell 0
      have e1 := HI.out.2.1.cell 1
      have e2 := HI.out.2.1.cell 2
      have p0 := HI.out.2.1.frozen 0
      have p1 := HI.out.2.1.frozen 1
      have p2 := HI.out.2.1.frozen 2
      simp only [List.getElem?_toArray, List.getElem?_cons_zero, List.getElem?_cons_succ] at e0 e1 e2
      go_wp2_with fail
      have hk := ((HI.out.2.1.set_ 0 (.bool false)).set_ 1 (.slice none 0 0)).set_ 2 (.slice none 0 0)
      have c0 := hk.cell 0
      have c1 := hk.cell 1
      have c2' := hk.cell 2
      simp only [List.setIfInBounds_toArray, List.set_cons_zero, List.set_cons_succ, List.getElem?_toArray, List.getElem?_cons_zero, List.getElem?_cons_succ] at c0 c1 c2'
      refine bodyPost_ret (v := .tuple #[.agg #[.bool false, .slice none 0 0, .slice none 0 0], .bool false]) (by simp [results, Tryz.results13, go_sem, c0, c1, c2']) rfl ?_
      exact ⟨_, _, _, _, _, _, _, _, rfl, (fun h => by cases h), put3_below HI.out.2.2.1 (Nat.le_succ _) _ _ _⟩
    · have hk7' : ¬ (k7 : Int) = 0 := by omega
      go_wp2_with fail
      refine (CN.out _ A6 k6 d6 HI.out R6.out).mono ?_
      rintro e w1 ⟨⟨q, rfl, hq⟩, hb1⟩
      have HI1 := hide (HI.out.below hb1)
      have Hb1 := hide (Hb.out.below hb1 Hb.out.lt)
      have R61 := hide (R6.out.below hb1)
      have R71 := hide (R7.out.below hb1)
      have Hq := hide hq
      clear hb1 hq x0 x1 y0 y1 y2
      cases q
      · have e0 := HI1.out.2.1.cell 0
        have e1 := HI1.out.2.1.cell 1
        have e2 := HI1.out.2.1.cell 2
        have p0 := HI1.out.2.1.frozen 0
        have p1 := HI1.out.2.1.frozen 1
        have p2 := HI1.out.2.1.frozen 2
        simp only [List.getElem?_toArray, List.getElem?_cons_zero, List.getElem?_cons_succ] at e0 e1 e2
        go_wp2_with fail
        have hk := ((HI1.out.2.1.set_ 0 (.bool false)).set_ 1 (.slice none 0 0)).set_ 2 (.slice none 0 0)
        have c0 := hk.cell 0
        have c1 := hk.cell 1
        have c2' := hk.cell 2
        simp only [List.setIfInBounds_toArray, List.set_cons_zero, List.set_cons_succ, List.getElem?_toArray, List.getElem?_cons_zero, List.getElem?_cons_succ] at c0 c1 c2'
        refine bodyPost_ret (v := .tuple #[.agg #[.bool false, .slice none 0 0, .slice none 0 0], .bool false]) (by simp [results, Tryz.results13, go_sem, c0, c1, c2']) rfl ?_
        exact ⟨_, _, _, _, _, _, _, _, rfl, (fun h => by cases h), put3_below HI1.out.2.2.1 (Nat.le_succ _) _ _ _⟩
      · have y2 := Hb1.out.cell 2
        simp only [List.getElem?_toArray, List.getElem?_cons_zero, List.getElem?_cons_succ] at y2
        go_wp2_with fail
        refine (CH.out _ A7 k7 d7 HI1.out R71.out).mono ?_
        rintro e w2 ⟨⟨q2, rfl⟩, hb2⟩
        have HI2 := hide (HI1.out.below hb2)
        have Hb2 := hide (Hb1.out.below hb2 Hb1.out.lt)
        have R62 := hide (R61.out.below hb2)
        have R72 := hide (R71.out.below hb2)
        clear hb2 y2
        cases q2
        · have e0 := HI2.out.2.1.cell 0
          have e1 := HI2.out.2.1.cell 1
          have e2 := HI2.out.2.1.cell 2
          have p0 := HI2.out.2.1.frozen 0
          have p1 := HI2.out.2.1.frozen 1
          have p2 := HI2.out.2.1.frozen 2
          simp only [List.getElem?_toArray, List.getElem?_cons_zero, List.getElem?_cons_succ] at e0 e1 e2
          go_wp2_with fail
          have hk := ((HI2.out.2.1.set_ 0 (.bool false)).set_ 1 (.slice none 0 0)).set_ 2 (.slice none 0 0)
          have c0 := hk.cell 0
          have c1 := hk.cell 1
          have c2' := hk.cell 2
          simp only [List.setIfInBounds_toArray, List.set_cons_zero, List.set_cons_succ, List.getElem?_toArray, List.getElem?_cons_zero, List.getElem?_cons_succ] at c0 c1 c2'
          refine bodyPost_ret (v := .tuple #[.agg #[.bool false, .slice none 0 0, .slice none 0 0], .bool false]) (by simp [results, Tryz.results13, go_sem, c0, c1, c2']) rfl ?_
          exact ⟨_, _, _, _, _, _, _, _, rfl, (fun h => by cases h), put3_below HI2.out.2.2.1 (Nat.le_succ _) _ _ _⟩
        · have HI := hide HI2.out.drew
          have Hb := hide Hb2.out.drew
          have R6 := hide R62.out.drew
          have R7 := hide R72.out.drew
          have KC := hide fun (W : World) (hb : Blk W g 31 #[.bool neg, .slice A6 k6 d6, .slice A7 k7 d7]) =>
            (show W.cell? ⟨g, 0, none⟩ = some (.bool neg) ∧ W.cell? ⟨g, 1, none⟩ = some (.slice A6 k6 d6) ∧ W.cell? ⟨g, 2, none⟩ = some (.slice A7 k7 d7) from ⟨hb.cell 0, hb.cell 1, hb.cell 2⟩)
          have CC : Hid (∀ (W : World) (gg : Nat) (x y : Value), (Dg.digs 65536 gg).length ≤ 1000 → Rd W x (cI (Dg.digs 65536 gg)) → Rd W y (cI (Dg.digs 65536 1)) → Calls Tryz.prog 23 #[x, y] W (fun e w' => (∃ z : Int, e = .returned (.int .i64 z)) ∧ Below W.heap.size W w')) := by
            intro W gg x y hl hx hy
            refine (cmp_any _ _ (Dg.can_digs (by omega) gg) (Dg.can_digs (by omega) 1) (by omega) W x y hx hy).mono ?_
            rintro e w' ⟨he, hb⟩
            exact ⟨⟨_, he⟩, hb⟩
          have C0 : Hid (∀ W, Calls Tryz.prog 25 #[.int .i64 1] W (GotNat 1 W)) := fun W => small_any 1 (by omega) W
          clear HI1 HI2 Hb1 Hb2 R61 R71 R62 R72
          go_upto_region 4 with fail
          go_region_held3 (fun w' => w'.cell? ⟨g, 0, none⟩ = some (.bool neg) ∧ w'.cell? ⟨g, 1, none⟩ = some (.slice A6 k6 d6) ∧ w'.cell? ⟨g, 2, none⟩ = some (.slice A7 k7 d7))
            (first | with_reducible exact KC.out _ Hb.out | exact KC.out _ (((Hb.out.far hne _).far hne _).far hne _) | go_keep)
            (first
              | (go_at_call 24; (with_reducible refine (CG.out _ _ _ R6.out R7.out).mono ?_); rintro e wA ⟨gg, hgl, vA, rfl, hrA, hbx⟩; obtain ⟨AG, nG, cG, rfl⟩ := hrA.shape; (try replace RG := hide (RG.out.below hbx)); (try replace RS := hide (RS.out.below hbx)); replace R6 := hide (R6.out.below hbx); replace R7 := hide (R7.out.below hbx); replace HI := hide (HI.out.below hbx); replace Hb := hide (Hb.out.below hbx Hb.out.lt); have RG := hide hrA; have HGL := hide hgl; clear hrA hbx hgl)
              | (go_at_call 25; (with_reducible refine (C0.out _).mono ?_); rintro e wB ⟨vB, rfl, hrB, hbx⟩; obtain ⟨AS, nS, cS, rfl⟩ := hrB.shape; (try replace RG := hide (RG.out.below hbx)); (try replace RS := hide (RS.out.below hbx)); replace R6 := hide (R6.out.below hbx); replace R7 := hide (R7.out.below hbx); replace HI := hide (HI.out.below hbx); replace Hb := hide (Hb.out.below hbx Hb.out.lt); have RS := hide hrB; clear hrB hbx)
              | (go_at_call 23; (with_reducible refine (CC.out _ gg _ _ HGL.out RG.out RS.out).mono ?_); rintro e wC ⟨⟨zc, rfl⟩, hbx⟩; (try replace RG := hide (RG.out.below hbx)); (try replace RS := hide (RS.out.below hbx)); replace R6 := hide (R6.out.below hbx); replace R7 := hide (R7.out.below hbx); replace HI := hide (HI.out.below hbx); replace Hb := hide (Hb.out.below hbx Hb.out.lt); have z0 := HI.out.2.1.cell 0; have z1 := HI.out.2.1.cell 1; have z2 := HI.out.2.1.cell 2; have q0 := HI.out.2.1.frozen 0; have q1 := HI.out.2.1.frozen 1; have q2 := HI.out.2.1.frozen 2; simp only [List.getElem?_toArray, List.getElem?_cons_zero, List.getElem?_cons_succ] at z0 z1 z2; clear hbx))
          all_goals
            go_wp2_with fail
            have hk := ((HI.out.2.1.set_ 0 (.bool neg)).set_ 1 (.slice A6 k6 d6)).set_ 2 (.slice A7 k7 d7)
            have c0 := hk.cell 0
            have c1 := hk.cell 1
            have c2' := hk.cell 2
            have H3 : Blk3 wC (w.heap.size + 1) 31 false (.slice none 0 0) (.slice none 0 0) := ⟨HI.out.2.1, rfl, rfl⟩
            simp only [List.setIfInBounds_toArray, List.set_cons_zero, List.set_cons_succ, List.getElem?_toArray, List.getElem?_cons_zero, List.getElem?_cons_succ] at c0 c1 c2'
            refine bodyPost_ret (v := .tuple #[.agg #[.bool neg, .slice A6 k6 d6, .slice A7 k7 d7], .bool (zc == 0)]) (by simp [results, Tryz.results13, go_sem, c0, c1, c2']) rfl ?_
            exact ⟨_, _, _, _, _, _, _, _, rfl, fun _ => ⟨rfl, fun h => Hq.out (by trivial) h, HD7.out.mp hk7, put3_rd H3 R6.out _ _ _⟩, put3_below HI.out.2.2.1 (Nat.le_succ _) _ _ _⟩
end Go.Proofs.YtgooioafmddneabGreatDoor
