/- The reference's Integer, and the laws' whole and zzFits1. -/
import Derived.Test.YtgooioafmddneacGreatDoorWords
import Derived.Deep.RegionWith
import Derived.Deep.CutRange
import Derived.Deep.RegionHeld3
namespace Go.Proofs.YtgooioafmddneacGreatDoor
open Go.RowKit
/-- What is nothing beside a number. -/
def NoRest (t : Bool) (s : ByteArray) (ineg : Bool) (n3 n4 : Nat) : Prop := t = false ∧ s = ⟨#[]⟩ ∧ ineg = false ∧ n3 = 0 ∧ n4 = 0
set_option maxRecDepth 100000 in
set_option maxHeartbeats 1600000 in
theorem rest_any (k : Int) (t : Bool) (s : ByteArray) (neg ineg : Bool) (A A2 A3 A4 : Option Addr) (n c n2 c2 n3 c3 n4 c4 : Nat) (w : World) :
    Calls Tryz.prog 17 #[.agg #[.int .i64 k, .bool t, .string s, .bool neg, .slice A n c, .slice A2 n2 c2, .bool ineg, .slice A3 n3 c3, .slice A4 n4 c4]] w
      (fun e w' => (∃ b : Bool, e = .returned (.bool b) ∧ (NoRest t s ineg n3 n4 → b = true)) ∧ Below w.heap.size w w') := by
  by_cases hg : NoRest t s ineg n3 n4
  · obtain ⟨rfl, rfl, rfl, rfl, rfl⟩ := hg
    go_enter Tryz.func17, Tryz.ntmps17
    go_wp2
    go_ret
    exact ⟨⟨_, rfl, fun _ => rfl⟩, below1 _ _⟩
  · have HG := hide hg
    clear hg
    go_enter Tryz.func17, Tryz.ntmps17
    go_wp2
    all_goals
      go_ret
      exact ⟨⟨_, rfl, fun h => (HG.out h).elim⟩, below1 _ _⟩
/-- What Integer (and the laws' whole) answers: a fraction and a truth; where the truth is 'true', the value's Kind is Int, and the fraction is its number; it is 'true' of a natural number that is told as it must be. -/
def IntegerOut (k : Int) (neg : Bool) (V : Nat) (good : Prop) (w : World) (e : Ending) (w' : World) : Prop :=
  ∃ (ng b : Bool) (B1 B2 : Option Addr) (m1 d1 m2 d2 : Nat), e = .returned (.tuple #[.agg #[.bool ng, .slice B1 m1 d1, .slice B2 m2 d2], .bool b]) ∧
    (b = true → k = 3 ∧ ng = (neg && decide (0 < V)) ∧ Rd w' (.slice B1 m1 d1) (cI (Dg.digs 65536 (V))) ∧ Rd w' (.slice B2 m2 d2) (cI (Dg.digs 65536 1))) ∧ (good → b = true) ∧ Below w.heap.size w w'
def IInv (w : World) (box : Array Value) (W : World) : Prop := Blk W w.heap.size 28 box ∧ Blk W (w.heap.size + 1) 33 #[.bool false, .slice none 0 0, .slice none 0 0] ∧ Below w.heap.size w W ∧ w.heap.size + 2 ≤ W.heap.size
theorem IInv.start (w : World) (box : Array Value) : IInv w box ((w.alloc (.cells box 28)).alloc (.cells #[.bool false, .slice none 0 0, .slice none 0 0] 33)) := by
  refine ⟨(Blk.new w _ _).alloc _, ?_, (below1 _ _).alloc (by simp) _, by simp⟩
  have := Blk.new (w.alloc (.cells box 28)) 33 #[.bool false, .slice none 0 0, .slice none 0 0]
  simpa using this
theorem IInv.below {w W W' : World} {box : Array Value} (h : IInv w box W) (hb : Below W.heap.size W W') : IInv w box W' :=
  ⟨h.1.below hb h.1.lt, h.2.1.below hb h.2.1.lt, h.2.2.1.trans (hb.mono h.2.2.1.size), Nat.le_trans h.2.2.2 hb.size⟩
theorem IInv.alloc {w W : World} {box : Array Value} (h : IInv w box W) (o : Obj) : IInv w box (W.alloc o) := h.below (below1 _ _)
theorem IInv.drew {w W : World} {box : Array Value} (h : IInv w box W) : IInv w box W.drew := ⟨h.1, h.2.1, h.2.2.1.drew, h.2.2.2⟩
def IMid (w : World) (box : Array Value) (ng : Bool) (V : Nat) (s4 : Value) (wx : World) : Prop :=
  ∃ (g : Nat) (A6 A7 : Option Addr) (k6 d6 k7 d7 : Nat), s4 = .pointer (some ⟨g, 0, none⟩) ∧ Blk wx g 33 #[.bool ng, .slice A6 k6 d6, .slice A7 k7 d7] ∧ Rd wx (.slice A6 k6 d6) (cI (Dg.digs 65536 V)) ∧ Rd wx (.slice A7 k7 d7) (cI (Dg.digs 65536 1)) ∧
    IInv w box wx ∧ w.heap.size + 2 ≤ g
/-- The middle, where the fraction was stored into a block that stood already. -/
theorem IMid.stored {w w2 : World} {box : Array Value} {ng : Bool} {V g : Nat} {A6 A7 : Option Addr} {k6 d6 k7 d7 : Nat} (hk : Blk w2 g 33 #[.bool false, .slice none 0 0, .slice none 0 0]) (hv : Rd w2 (.slice A6 k6 d6) (cI (Dg.digs 65536 V))) (hu : Rd w2 (.slice A7 k7 d7) (cI (Dg.digs 65536 1)))
    (hI : IInv w box w2) (hg : w.heap.size + 2 ≤ g) :
    IMid w box ng V (.pointer (some ⟨g, 0, none⟩)) (((w2.setCell ⟨g, 0, none⟩ (.bool ng)).setCell ⟨g, 1, none⟩ (.slice A6 k6 d6)).setCell ⟨g, 2, none⟩ (.slice A7 k7 d7)) := by
  have H3 : Blk3 w2 g 33 false (.slice none 0 0) (.slice none 0 0) := ⟨hk, rfl, rfl⟩
  refine ⟨g, A6, A7, k6, d6, k7, d7, rfl, ?_, put3_rd H3 hv _ _ _, put3_rd H3 hu _ _ _, ⟨?_, ?_, put3_below hI.2.2.1 (by omega) _ _ _, by simpa [World.setCell] using hI.2.2.2⟩, hg⟩
  · simpa using ((hk.set_ 0 (.bool ng)).set_ 1 (.slice A6 k6 d6)).set_ 2 (.slice A7 k7 d7)
  · exact ((hI.1.far (by simp; omega) _).far (by simp; omega) _).far (by simp; omega) _
  · exact ((hI.2.1.far (by simp; omega) _).far (by simp; omega) _).far (by simp; omega) _
theorem IMid.fresh {w w2 : World} {box : Array Value} {ng : Bool} {V : Nat} {A6 A7 : Option Addr} {k6 d6 k7 d7 : Nat} (hv : Rd w2 (.slice A6 k6 d6) (cI (Dg.digs 65536 V))) (hu : Rd w2 (.slice A7 k7 d7) (cI (Dg.digs 65536 1)))
    (hI : IInv w box w2) :
    IMid w box ng V (.pointer (some ⟨w2.heap.size, 0, none⟩)) (w2.alloc (.cells #[.bool ng, .slice A6 k6 d6, .slice A7 k7 d7] 33)) :=
  ⟨_, A6, A7, k6, d6, k7, d7, rfl, Blk.new _ _ _, hv.alloc _, hu.alloc _, hI.alloc _, hI.2.2.2⟩
def bigbox (k : Int) (t : Bool) (s : ByteArray) (neg ineg : Bool) (A A2 A3 A4 : Option Addr) (n c n2 c2 n3 c3 n4 c4 : Nat) : Array Value := #[.int .i64 k, .bool t, .string s, .bool neg, .slice A n c, .slice A2 n2 c2, .bool ineg, .slice A3 n3 c3, .slice A4 n4 c4]
set_option maxRecDepth 100000 in
set_option maxHeartbeats 3200000 in
theorem integer_any (k : Int) (t : Bool) (s : ByteArray) (neg ineg : Bool) (ws : List Nat) (hws : ∀ x ∈ ws, x < Dg.W64) (hlen : ws.length ≤ 1000000) (A A2 A3 A4 : Option Addr) (n c n2 c2 n3 c3 n4 c4 : Nat) (w : World) (hv : Rd w (.slice A n c) (cU ws)) :
    Calls Tryz.prog 8 #[.agg #[.int .i64 k, .bool t, .string s, .bool neg, .slice A n c, .slice A2 n2 c2, .bool ineg, .slice A3 n3 c3, .slice A4 n4 c4]] w (IntegerOut k neg (Dg.val Dg.W64 ws) (k = 3 ∧ neg = (neg && decide (0 < Dg.val Dg.W64 ws)) ∧ ws = Dg.digs Dg.W64 (Dg.val Dg.W64 ws) ∧ n2 = 0 ∧ NoRest t s ineg n3 n4) w) := by
  by_cases hk : k = 3
  · subst hk
    have hHb : ∃ box, box = bigbox 3 t s neg ineg A A2 A3 A4 n c n2 c2 n3 c3 n4 c4 := ⟨_, rfl⟩
    obtain ⟨box, hbox⟩ := hHb
    have C1 : Hid (∀ W : World, IInv w box W → W.cell? ⟨w.heap.size, 3, none⟩ = some (.bool neg) → Calls Tryz.prog 15 #[.slice A n c] W (fun e w1 => GotNat (Dg.val Dg.W64 ws) W e w1 ∧ IInv w box w1 ∧ w1.cell? ⟨w.heap.size, 3, none⟩ = some (.bool neg) ∧ (w1.alloc (.cells #[.bool false, .slice none 0 0, .slice none 0 0] 33)).cell? ⟨w.heap.size, 3, none⟩ = some (.bool neg))) := by
      intro W hI h3
      refine (of_any ws hws hlen W _ (hv.below hI.2.2.1)).mono ?_
      rintro e w1 ⟨v1, he, hr1, hb1⟩
      have hx := (hb1.cell (World.block_lt_of_cell? _ _ h3)).trans h3
      exact ⟨⟨v1, he, hr1, hb1⟩, hI.below hb1, hx, ((below1 w1 _).cell (World.block_lt_of_cell? _ _ hx)).trans hx⟩
    have C2 := hide fun (w1 : World) (A1 : Option Addr) (k1 d1 : Nat) (hr : Rd w1 (.slice A1 k1 d1) (cI (Dg.digs 65536 (Dg.val Dg.W64 ws)))) => whole_any neg _ w1 A1 k1 d1 hr
    obtain ⟨Q, hQ⟩ : ∃ Q : Bool, Q = (neg == (neg && decide (0 < Dg.val Dg.W64 ws)) && decide (ws = Dg.digs Dg.W64 (Dg.val Dg.W64 ws))) := ⟨_, rfl⟩
    have C3 : Hid (∀ (W : World), Below w.heap.size w W → ∀ (A6 : Option Addr) (k6 d6 : Nat), Rd W (.slice A6 k6 d6) (cI (Dg.digs 65536 (Dg.val Dg.W64 ws))) →
        Calls Tryz.prog 16 #[.agg #[.bool neg, .slice A n c], .bool (neg && decide (0 < Dg.val Dg.W64 ws)), .slice A6 k6 d6] W (fun e w1 => e = .returned (.bool Q) ∧ Below W.heap.size W w1)) := by
      intro W hB A6 k6 d6 hr
      have h1 := Dg.can_digs (B := 65536) (by omega) (Dg.val Dg.W64 ws)
      have h2 : (Dg.digs 65536 (Dg.val Dg.W64 ws)).length ≤ 10000000 := by
        have e1 : Dg.val Dg.W64 ws < 65536 ^ (4 * ws.length) := by rw [← Dg.W64_pow]; exact Dg.val_lt ws hws
        have := Dg.digs_len_le (B := 65536) (by omega) e1
        omega
      have := isNumber_any neg (neg && decide (0 < Dg.val Dg.W64 ws)) ws _ h1 h2 W A A6 n c k6 d6 (hv.below hB) hr
      rw [Dg.val_digs (by omega), digs_len_pos_iff hr, Bool.and_assoc, Bool.and_self, ← hQ] at this
      exact this
    have HG : Hid (∀ (P : Prop), ((3 : Int) = 3 ∧ neg = (neg && decide (0 < Dg.val Dg.W64 ws)) ∧ ws = Dg.digs Dg.W64 (Dg.val Dg.W64 ws) ∧ P) → Q = true) := by
      rintro P ⟨_, h1, h2, _⟩
      rw [hQ, ← h1, ← h2]; simp
    have Hv := hide hv
    have HI : Hid (IInv w box ((w.alloc (.cells box 28)).alloc (.cells #[.bool false, .slice none 0 0, .slice none 0 0] 33))) := IInv.start w box
    rw [hbox] at HI C1
    unfold bigbox at HI C1
    clear hQ
    generalize Dg.val Dg.W64 ws = V at *
    clear hv hws hlen hbox
    go_enter Tryz.func8, Tryz.ntmps8
    go_upto_region 3 with fail
    have K0 : Hid (∀ (g : Nat) (W w1 : World), Below (W.alloc (.cells #[.bool false, .slice none 0 0, .slice none 0 0] 33)).heap.size (W.alloc (.cells #[.bool false, .slice none 0 0, .slice none 0 0] 33)) w1 → g = W.heap.size → Blk w1 g 33 #[.bool false, .slice none 0 0, .slice none 0 0]) := fun g W w1 hb hg => by subst hg; exact (Blk.new W _ _).below hb (by simp)
    have Kd : Hid (∀ (g : Nat) (W w1 : World), Below (W.alloc (.cells #[.bool false, .slice none 0 0, .slice none 0 0] 33)).drew.heap.size (W.alloc (.cells #[.bool false, .slice none 0 0, .slice none 0 0] 33)).drew w1 → g = W.heap.size → Blk w1 g 33 #[.bool false, .slice none 0 0, .slice none 0 0]) := fun g W w1 hb hg => by subst hg; exact (Blk.new W _ _).drew.below hb (Nat.lt_of_lt_of_le (Nat.lt_succ_self W.heap.size) (Nat.le_of_eq (World.size_alloc W _).symm))
    go_cut [4] from 9 to 16 (fun s4 wx => IMid w #[.int .i64 3, .bool t, .string s, .bool neg, .slice A n c, .slice A2 n2 c2, .bool ineg, .slice A3 n3 c3, .slice A4 n4 c4] (neg && decide (0 < V)) V s4 wx)
    case first =>
      go_region_with (first
        | (go_at_call 15; refine (C1.out _ (by first | exact HI.out.drew | exact (HI.out.alloc _).drew | exact (HI.out.drew).alloc _) (by simp [go_sem])).mono ?_; rintro e w1 ⟨⟨v1, rfl, hr1, hb1⟩, hI1, hx3, hx4⟩; obtain ⟨A5, k5, d5, rfl⟩ := hr1.shape; (have hI1 := hide hI1; have Kx := hide (Kd.out _ _ _ hb1 rfl)))
        | (go_at_call 6; refine (C2.out _ A5 k5 d5 (by first | exact hr1 | exact hr1.alloc _)).mono ?_; rintro e w2 ⟨v2, u2, rfl, hv2, hu2, hb2⟩; obtain ⟨A6, k6, d6, rfl⟩ := hv2.shape; obtain ⟨A7, k7, d7, rfl⟩ := hu2.shape;
            (have hI2 : Hid (IInv w #[.int .i64 3, .bool t, .string s, .bool neg, .slice A n c, .slice A2 n2 c2, .bool ineg, .slice A3 n3 c3, .slice A4 n4 c4] w2) := (by first | exact hI1.out.below hb2 | exact (hI1.out.alloc _).below hb2));
            (first | (have Ky := K0.out w1.heap.size w1 _ hb2 rfl; have e0 := Ky.cell 0; have e1 := Ky.cell 1; have e2 := Ky.cell 2; have q0 := Ky.frozen 0; have q1 := Ky.frozen 1; have q2 := Ky.frozen 2; simp only [List.getElem?_toArray, List.getElem?_cons_zero, List.getElem?_cons_succ] at e0 e1 e2)
                   | (have Ky := Kx.out.below hb2 Kx.out.lt; have e0 := Ky.cell 0; have e1 := Ky.cell 1; have e2 := Ky.cell 2; have q0 := Ky.frozen 0; have q1 := Ky.frozen 1; have q2 := Ky.frozen 2; simp only [World.size_alloc, Nat.add_assoc, Nat.reduceAdd, List.getElem?_toArray, List.getElem?_cons_zero, List.getElem?_cons_succ] at e0 e1 e2 q0 q1 q2))))
      all_goals clear K0 Kd
      all_goals (go_wp2_with fail; go_meet)
      all_goals first
        | exact IMid.fresh hv2 hu2 hI2.out
        | exact IMid.stored Ky hv2 hu2 hI2.out (by have := hI1.out.2.2.2; simp; omega)
        | exact IMid.stored (g := w.heap.size + 1 + 1) (by simpa using Ky) hv2 hu2 hI2.out (Nat.le_refl _)
    case rest =>
      clear C1 C2 HI
      obtain ⟨g, A6, A7, k6, d6, k7, d7, rfl, hb, hr6, hr7, hI, hg⟩ := hcut
      have hne : ¬ g = w.heap.size + 1 := by omega
      have x0 := hI.1.cell 0; have x1 := hI.1.cell 1; have x2 := hI.1.cell 2; have x3 := hI.1.cell 3; have x4 := hI.1.cell 4
      have x5 := hI.1.cell 5; have x6 := hI.1.cell 6; have x7 := hI.1.cell 7; have x8 := hI.1.cell 8
      have y0 := hb.cell 0; have y1 := hb.cell 1; have y2 := hb.cell 2
      have z0 := hI.2.1.cell 0; have z1 := hI.2.1.cell 1; have z2 := hI.2.1.cell 2
      have q0 := hI.2.1.frozen 0; have q1 := hI.2.1.frozen 1; have q2 := hI.2.1.frozen 2
      simp only [List.getElem?_toArray, List.getElem?_cons_zero, List.getElem?_cons_succ] at x0 x1 x2 x3 x4 x5 x6 x7 x8 y0 y1 y2 z0 z1 z2
      have Hb := hide hb
      have Hr6 := hide hr6
      have Hr7 := hide hr7
      have HI := hide hI
      clear hb hr6 hr7 hI
      have KC0 : ∀ w' : World, Blk w' w.heap.size 28 #[.int .i64 3, .bool t, .string s, .bool neg, .slice A n c, .slice A2 n2 c2, .bool ineg, .slice A3 n3 c3, .slice A4 n4 c4] → Blk w' g 33 #[.bool (neg && decide (0 < V)), .slice A6 k6 d6, .slice A7 k7 d7] → w'.cell? ⟨w.heap.size, 3, none⟩ = some (.bool neg) ∧ w'.cell? ⟨w.heap.size, 4, none⟩ = some (.slice A n c) ∧ w'.cell? ⟨w.heap.size, 5, none⟩ = some (.slice A2 n2 c2) ∧
          w'.cell? ⟨w.heap.size, 0, none⟩ = some (.int .i64 3) ∧ w'.cell? ⟨w.heap.size, 1, none⟩ = some (.bool t) ∧ w'.cell? ⟨w.heap.size, 2, none⟩ = some (.string s) ∧ w'.cell? ⟨w.heap.size, 6, none⟩ = some (.bool ineg) ∧
          w'.cell? ⟨w.heap.size, 7, none⟩ = some (.slice A3 n3 c3) ∧ w'.cell? ⟨w.heap.size, 8, none⟩ = some (.slice A4 n4 c4) ∧
          w'.cell? ⟨g, 0, none⟩ = some (.bool (neg && decide (0 < V))) ∧ w'.cell? ⟨g, 1, none⟩ = some (.slice A6 k6 d6) ∧ w'.cell? ⟨g, 2, none⟩ = some (.slice A7 k7 d7) := fun w' hI hb =>
        ⟨hI.cell 3, hI.cell 4, hI.cell 5, hI.cell 0, hI.cell 1, hI.cell 2, hI.cell 6, hI.cell 7, hI.cell 8, hb.cell 0, hb.cell 1, hb.cell 2⟩
      have KC := hide KC0
      have KD := hide fun (w' : World) (x y z : Value) (hI : Blk w' w.heap.size 28 #[.int .i64 3, .bool t, .string s, .bool neg, .slice A n c, .slice A2 n2 c2, .bool ineg, .slice A3 n3 c3, .slice A4 n4 c4]) (hb : Blk w' g 33 #[.bool (neg && decide (0 < V)), .slice A6 k6 d6, .slice A7 k7 d7]) =>
        KC0 (((w'.setCell ⟨w.heap.size + 1, 0, none⟩ x).setCell ⟨w.heap.size + 1, 1, none⟩ y).setCell ⟨w.heap.size + 1, 2, none⟩ z)
          (((hI.far (by simp) _).far (by simp) _).far (by simp) _) (((hb.far hne _).far hne _).far hne _)
      clear KC0
      cases Q
      case' true =>
        rcases Nat.eq_zero_or_pos n2 with hn2 | hn2
        · subst hn2
          go_upto_region 4 with fail
          go_region_held3 (fun w' => w'.cell? ⟨w.heap.size, 3, none⟩ = some (.bool neg) ∧ w'.cell? ⟨w.heap.size, 4, none⟩ = some (.slice A n c) ∧ w'.cell? ⟨w.heap.size, 5, none⟩ = some (.slice A2 0 c2) ∧
              w'.cell? ⟨w.heap.size, 0, none⟩ = some (.int .i64 3) ∧ w'.cell? ⟨w.heap.size, 1, none⟩ = some (.bool t) ∧ w'.cell? ⟨w.heap.size, 2, none⟩ = some (.string s) ∧ w'.cell? ⟨w.heap.size, 6, none⟩ = some (.bool ineg) ∧
              w'.cell? ⟨w.heap.size, 7, none⟩ = some (.slice A3 n3 c3) ∧ w'.cell? ⟨w.heap.size, 8, none⟩ = some (.slice A4 n4 c4) ∧
              w'.cell? ⟨g, 0, none⟩ = some (.bool (neg && decide (0 < V))) ∧ w'.cell? ⟨g, 1, none⟩ = some (.slice A6 k6 d6) ∧ w'.cell? ⟨g, 2, none⟩ = some (.slice A7 k7 d7))
            (first | exact KC.out _ HI.out.1 Hb.out | exact KC.out _ HI.out.drew.1 Hb.out.drew | exact KC.out _ I2.out.1 B2.out | exact KC.out _ I1.out.1 B1.out | exact KD.out _ _ _ _ I2.out.1 B2.out | exact KD.out _ _ _ _ I1.out.1 B1.out | go_keep)
            (first
              | (go_at_call 16; refine (C3.out _ (by first | exact HI.out.2.2.1 | exact HI.out.2.2.1.drew) A6 k6 d6 (by first | exact Hr6.out | exact Hr6.out.drew)).mono ?_; rintro e w1 ⟨rfl, hb1⟩; have I1 := hide (IInv.below (by first | exact HI.out | exact HI.out.drew) hb1); have B1 := hide (Blk.below (by first | exact Hb.out | exact Hb.out.drew) hb1 (Blk.lt (by first | exact Hb.out | exact Hb.out.drew))); have z0a := I1.out.2.1.cell 0; have z1a := I1.out.2.1.cell 1; have z2a := I1.out.2.1.cell 2; have q0a := I1.out.2.1.frozen 0; have q1a := I1.out.2.1.frozen 1; have q2a := I1.out.2.1.frozen 2; simp only [List.getElem?_toArray, List.getElem?_cons_zero, List.getElem?_cons_succ] at z0a z1a z2a)
              | (go_at_call 17; refine (rest_any _ _ _ _ _ _ _ _ _ _ _ _ _ _ _ _ _ _).mono ?_; rintro e w2 ⟨⟨b2, rfl, hp3⟩, hb2⟩; have hp3 := hide hp3; have I2 := hide (I1.out.below hb2); have B2 := hide (B1.out.below hb2 B1.out.lt); have z0b := I2.out.2.1.cell 0; have z1b := I2.out.2.1.cell 1; have z2b := I2.out.2.1.cell 2; have q0b := I2.out.2.1.frozen 0; have q1b := I2.out.2.1.frozen 1; have q2b := I2.out.2.1.frozen 2; simp only [List.getElem?_toArray, List.getElem?_cons_zero, List.getElem?_cons_succ] at z0b z1b z2b))
          all_goals
            go_wp2_with fail
            have hk := ((I2.out.2.1.set_ 0 (.bool (neg && decide (0 < V)))).set_ 1 (.slice A6 k6 d6)).set_ 2 (.slice A7 k7 d7)
            have c0 := hk.cell 0
            have c1 := hk.cell 1
            have c2' := hk.cell 2
            have H3 : Blk3 w2 (w.heap.size + 1) 33 false (.slice none 0 0) (.slice none 0 0) := ⟨I2.out.2.1, rfl, rfl⟩
            simp only [List.setIfInBounds_toArray, List.set_cons_zero, List.set_cons_succ, List.getElem?_toArray, List.getElem?_cons_zero, List.getElem?_cons_succ] at c0 c1 c2'
            refine bodyPost_ret (v := .tuple #[.agg #[.bool (neg && decide (0 < V)), .slice A6 k6 d6, .slice A7 k7 d7], .bool b2]) (by simp [results, Tryz.results8, go_sem, c0, c1, c2']) rfl ?_
            exact ⟨_, _, _, _, _, _, _, _, rfl, fun _ => ⟨rfl, rfl, put3_rd H3 ((Hr6.out.drew.below hb1).below hb2) _ _ _, put3_rd H3 ((Hr7.out.drew.below hb1).below hb2) _ _ _⟩, fun h => hp3.out h.2.2.2.2, put3_below I2.out.2.2.1 (Nat.le_succ _) _ _ _⟩
        have hn3 : ((n2 : Int) == 0) = false := by simp; omega
      all_goals go_upto_region 4 with fail
      -- the guarded region by hand (gen_integer.py)
      case' true =>
        refine wp_region_held_drew (S := fun w' => w'.cell? ⟨w.heap.size, 3, none⟩ = some (.bool neg) ∧ w'.cell? ⟨w.heap.size, 4, none⟩ = some (.slice A n c) ∧ w'.cell? ⟨w.heap.size, 5, none⟩ = some (.slice A2 n2 c2) ∧ w'.cell? ⟨w.heap.size, 0, none⟩ = some (.int .i64 3) ∧ w'.cell? ⟨w.heap.size, 1, none⟩ = some (.bool t) ∧ w'.cell? ⟨w.heap.size, 2, none⟩ = some (.string s) ∧ w'.cell? ⟨w.heap.size, 6, none⟩ = some (.bool ineg) ∧ w'.cell? ⟨w.heap.size, 7, none⟩ = some (.slice A3 n3 c3) ∧ w'.cell? ⟨w.heap.size, 8, none⟩ = some (.slice A4 n4 c4) ∧ w'.cell? ⟨g, 0, none⟩ = some (.bool (neg && decide (0 < V))) ∧ w'.cell? ⟨g, 1, none⟩ = some (.slice A6 k6 d6) ∧ w'.cell? ⟨g, 2, none⟩ = some (.slice A7 k7 d7)) (by kernel_rfl) (KC.out _ HI.out.drew.1 Hb.out.drew) (fun hHeld => ?_)
        refine wpAnyH_take (i := 0) (oi := ⟨some 17, _, _, _, _, _⟩) (v := .agg #[.bool (neg && decide (0 < V)), .slice A6 k6 d6, .slice A7 k7 d7]) rfl (by kernel_rfl) (by kernel_rfl) (by kernel_rfl) (fun _ _ _ h => h) (Or.inl ⟨by rfl, fun wq hSq => by (try dsimp only at hSq); go_simp⟩) (by assumption) ?_
        try simp only [Act.put, List.setIfInBounds_toArray, List.set_cons_zero, List.set_cons_succ]
        refine wpAnyH_take (i := 1) (oi := ⟨some 18, _, _, _, _, _⟩) (v := .pointer (some ⟨w.heap.size, 3, none⟩)) rfl (by kernel_rfl) (by kernel_rfl) (by kernel_rfl) (fun _ _ _ h => h) (Or.inl ⟨by rfl, fun wq hSq => by (try dsimp only at hSq); go_simp⟩) (by assumption) ?_
        try simp only [Act.put, List.setIfInBounds_toArray, List.set_cons_zero, List.set_cons_succ]
        refine wpAnyH_take (i := 2) (oi := ⟨some 19, _, _, _, _, _⟩) (v := .agg #[.bool neg, .slice A n c]) rfl (by kernel_rfl) (by kernel_rfl) (by kernel_rfl) (fun _ _ _ h => h) (Or.inl ⟨by rfl, fun wq hSq => by (try dsimp only at hSq); go_simp⟩) (by assumption) ?_
        try simp only [Act.put, List.setIfInBounds_toArray, List.set_cons_zero, List.set_cons_succ]
        refine wpAnyH_take (i := 3) (oi := ⟨some 20, _, _, _, _, _⟩) (v := .pointer (some ⟨g, 0, none⟩)) rfl (by kernel_rfl) (by kernel_rfl) (by kernel_rfl) (fun _ _ _ h => h) (Or.inl ⟨by rfl, fun wq hSq => by (try dsimp only at hSq); go_simp⟩) (by assumption) ?_
        try simp only [Act.put, List.setIfInBounds_toArray, List.set_cons_zero, List.set_cons_succ]
        refine wpAnyH_take (i := 4) (oi := ⟨some 21, _, _, _, _, _⟩) (v := .bool (neg && decide (0 < V))) rfl (by kernel_rfl) (by kernel_rfl) (by kernel_rfl) (fun _ _ _ h => h) (Or.inl ⟨by rfl, fun wq hSq => by (try dsimp only at hSq); go_simp⟩) (by assumption) ?_
        try simp only [Act.put, List.setIfInBounds_toArray, List.set_cons_zero, List.set_cons_succ]
        refine wpAnyH_take (i := 5) (oi := ⟨some 22, _, _, _, _, _⟩) (v := .pointer (some ⟨g, 1, none⟩)) rfl (by kernel_rfl) (by kernel_rfl) (by kernel_rfl) (fun _ _ _ h => h) (Or.inl ⟨by rfl, fun wq hSq => by (try dsimp only at hSq); go_simp⟩) (by assumption) ?_
        try simp only [Act.put, List.setIfInBounds_toArray, List.set_cons_zero, List.set_cons_succ]
        refine wpAnyH_take (i := 6) (oi := ⟨some 23, _, _, _, _, _⟩) (v := .slice A6 k6 d6) rfl (by kernel_rfl) (by kernel_rfl) (by kernel_rfl) (fun _ _ _ h => h) (Or.inl ⟨by rfl, fun wq hSq => by (try dsimp only at hSq); go_simp⟩) (by assumption) ?_
        try simp only [Act.put, List.setIfInBounds_toArray, List.set_cons_zero, List.set_cons_succ]
        refine wpAnyH_ready (rs := [7]) (by kernel_rfl) (by simp) ?_
        refine AllReadyH.cons (o := ⟨some 24, _, _, _, _, _⟩) rfl (fun K hK => ?_) AllReadyH.nil
        go_simp
        refine (C3.out _ HI.out.drew.2.2.1 A6 k6 d6 Hr6.out.drew).mono ?_
        rintro e w1 ⟨rfl, hb1⟩
        have I1 := hide (HI.out.drew.below hb1)
        have B1 := hide (Blk.below Hb.out.drew hb1 Hb.out.drew.lt)
        go_wp2_with fail
        refine hK.out _ _ (KC.out _ I1.out.1 B1.out) (fun hHeld => ?_)
        clear hK K
        try simp only [Act.put, List.setIfInBounds_toArray, List.set_cons_zero, List.set_cons_succ]
        refine wpAnyH_take (i := 8) (oi := ⟨some 25, _, _, _, _, _⟩) (v := .bool true) rfl (by kernel_rfl) (by kernel_rfl) (by kernel_rfl) (fun _ _ _ h => h) (Or.inl ⟨by rfl, fun wq hSq => by (try dsimp only at hSq); go_simp⟩) (by assumption) ?_
        try simp only [Act.put, List.setIfInBounds_toArray, List.set_cons_zero, List.set_cons_succ]
        refine wpAnyH_take (i := 9) (oi := ⟨some 26, _, _, _, _, _⟩) (v := .pointer (some ⟨w.heap.size, 5, none⟩)) rfl (by kernel_rfl) (by kernel_rfl) (by kernel_rfl) (fun _ _ _ h => h) (Or.inl ⟨by rfl, fun wq hSq => by (try dsimp only at hSq); go_simp⟩) (by assumption) ?_
        try simp only [Act.put, List.setIfInBounds_toArray, List.set_cons_zero, List.set_cons_succ]
        refine wpAnyH_take (i := 10) (oi := ⟨some 27, _, _, _, _, _⟩) (v := .slice A2 n2 c2) rfl (by kernel_rfl) (by kernel_rfl) (by kernel_rfl) (fun _ _ _ h => h) (Or.inl ⟨by rfl, fun wq hSq => by (try dsimp only at hSq); go_simp⟩) (by assumption) ?_
        try simp only [Act.put, List.setIfInBounds_toArray, List.set_cons_zero, List.set_cons_succ]
        refine wpAnyH_take (i := 11) (oi := ⟨some 28, _, _, _, _, _⟩) (v := .int .i64 (n2 : Int)) rfl (by kernel_rfl) (by kernel_rfl) (by kernel_rfl) (fun _ _ _ h => h) (Or.inl ⟨by rfl, fun wq hSq => by (try dsimp only at hSq); go_simp⟩) (by assumption) ?_
        try simp only [Act.put, List.setIfInBounds_toArray, List.set_cons_zero, List.set_cons_succ]
        refine wpAnyH_take (i := 12) (oi := ⟨some 29, _, _, _, _, _⟩) (v := .bool false) rfl (by kernel_rfl) (by kernel_rfl) (by kernel_rfl) (fun _ _ _ h => h) (Or.inl ⟨by rfl, fun wq hSq => by (try dsimp only at hSq); go_simp⟩) (by assumption) ?_
        try simp only [Act.put, List.setIfInBounds_toArray, List.set_cons_zero, List.set_cons_succ]
        refine wpAnyH_take (i := 13) (oi := ⟨some 30, _, _, _, _, _⟩) (v := .bool false) rfl (by kernel_rfl) (by kernel_rfl) (by kernel_rfl) (fun _ _ _ h => h) (Or.inl ⟨by rfl, fun wq hSq => by (try dsimp only at hSq); go_simp⟩) (by assumption) ?_
        try simp only [Act.put, List.setIfInBounds_toArray, List.set_cons_zero, List.set_cons_succ]
        refine wpAnyH_take (i := 14) (oi := ⟨some 31, _, _, _, _, _⟩) (v := .bool false) rfl (by kernel_rfl) (by kernel_rfl) (by kernel_rfl) (fun _ _ _ h => h) (Or.inl ⟨by rfl, fun wq hSq => by (try dsimp only at hSq); go_simp⟩) (by assumption) ?_
        try simp only [Act.put, List.setIfInBounds_toArray, List.set_cons_zero, List.set_cons_succ]
        refine wpAnyH_take (i := 15) (oi := ⟨some 32, _, _, _, _, _⟩) (v := undef) rfl (by kernel_rfl) (by kernel_rfl) (by kernel_rfl) (fun _ _ _ h => h) (Or.inr ⟨by rfl, rfl⟩) (by assumption) ?_
        try simp only [Act.put, List.setIfInBounds_toArray, List.set_cons_zero, List.set_cons_succ]
        refine wpAnyH_take (i := 16) (oi := ⟨some 33, _, _, _, _, _⟩) (v := undef) rfl (by kernel_rfl) (by kernel_rfl) (by kernel_rfl) (fun _ _ _ h => h) (Or.inr ⟨by rfl, rfl⟩) (by assumption) ?_
        try simp only [Act.put, List.setIfInBounds_toArray, List.set_cons_zero, List.set_cons_succ]
        refine wpAnyH_take (i := 17) (oi := ⟨some 34, _, _, _, _, _⟩) (v := .bool false) rfl (by kernel_rfl) (by kernel_rfl) (by kernel_rfl) (fun _ _ _ h => h) (Or.inl ⟨by rfl, fun wq hSq => by (try dsimp only at hSq); go_simp⟩) (by assumption) ?_
        try simp only [Act.put, List.setIfInBounds_toArray, List.set_cons_zero, List.set_cons_succ]
        refine wpAnyH_ready (rs := [18]) (by kernel_rfl) (by simp) ?_
        refine AllReadyH.cons (o := ⟨none, _, _, _, _, _⟩) rfl (fun K hK => ?_) AllReadyH.nil
        have z0 := I1.out.2.1.cell 0
        have z1 := I1.out.2.1.cell 1
        have z2 := I1.out.2.1.cell 2
        have q0 := I1.out.2.1.frozen 0
        have q1 := I1.out.2.1.frozen 1
        have q2 := I1.out.2.1.frozen 2
        simp only [List.getElem?_toArray, List.getElem?_cons_zero, List.getElem?_cons_succ] at z0 z1 z2
        go_simp
        refine hK.out _ _ (KD.out _ _ _ _ I1.out.1 B1.out) (fun hHeld => ?_)
        clear hK K
        try simp only [Act.put, List.setIfInBounds_toArray, List.set_cons_zero, List.set_cons_succ]
        refine wpAnyH_take (i := 19) (oi := ⟨some 3, _, _, _, _, _⟩) (v := .bool false) rfl (by kernel_rfl) (by kernel_rfl) (by kernel_rfl) (fun _ _ _ h => h) (Or.inl ⟨by rfl, fun wq hSq => by (try dsimp only at hSq); go_simp⟩) (by assumption) ?_
        try simp only [Act.put, List.setIfInBounds_toArray, List.set_cons_zero, List.set_cons_succ]
        refine wpAnyH_done (by kernel_rfl) ?_ _
      case' false =>
        refine wp_region_held_drew (S := fun w' => w'.cell? ⟨w.heap.size, 3, none⟩ = some (.bool neg) ∧ w'.cell? ⟨w.heap.size, 4, none⟩ = some (.slice A n c) ∧ w'.cell? ⟨w.heap.size, 5, none⟩ = some (.slice A2 n2 c2) ∧ w'.cell? ⟨w.heap.size, 0, none⟩ = some (.int .i64 3) ∧ w'.cell? ⟨w.heap.size, 1, none⟩ = some (.bool t) ∧ w'.cell? ⟨w.heap.size, 2, none⟩ = some (.string s) ∧ w'.cell? ⟨w.heap.size, 6, none⟩ = some (.bool ineg) ∧ w'.cell? ⟨w.heap.size, 7, none⟩ = some (.slice A3 n3 c3) ∧ w'.cell? ⟨w.heap.size, 8, none⟩ = some (.slice A4 n4 c4) ∧ w'.cell? ⟨g, 0, none⟩ = some (.bool (neg && decide (0 < V))) ∧ w'.cell? ⟨g, 1, none⟩ = some (.slice A6 k6 d6) ∧ w'.cell? ⟨g, 2, none⟩ = some (.slice A7 k7 d7)) (by kernel_rfl) (KC.out _ HI.out.drew.1 Hb.out.drew) (fun hHeld => ?_)
        refine wpAnyH_take (i := 0) (oi := ⟨some 17, _, _, _, _, _⟩) (v := .agg #[.bool (neg && decide (0 < V)), .slice A6 k6 d6, .slice A7 k7 d7]) rfl (by kernel_rfl) (by kernel_rfl) (by kernel_rfl) (fun _ _ _ h => h) (Or.inl ⟨by rfl, fun wq hSq => by (try dsimp only at hSq); go_simp⟩) (by assumption) ?_
        try simp only [Act.put, List.setIfInBounds_toArray, List.set_cons_zero, List.set_cons_succ]
        refine wpAnyH_take (i := 1) (oi := ⟨some 18, _, _, _, _, _⟩) (v := .pointer (some ⟨w.heap.size, 3, none⟩)) rfl (by kernel_rfl) (by kernel_rfl) (by kernel_rfl) (fun _ _ _ h => h) (Or.inl ⟨by rfl, fun wq hSq => by (try dsimp only at hSq); go_simp⟩) (by assumption) ?_
        try simp only [Act.put, List.setIfInBounds_toArray, List.set_cons_zero, List.set_cons_succ]
        refine wpAnyH_take (i := 2) (oi := ⟨some 19, _, _, _, _, _⟩) (v := .agg #[.bool neg, .slice A n c]) rfl (by kernel_rfl) (by kernel_rfl) (by kernel_rfl) (fun _ _ _ h => h) (Or.inl ⟨by rfl, fun wq hSq => by (try dsimp only at hSq); go_simp⟩) (by assumption) ?_
        try simp only [Act.put, List.setIfInBounds_toArray, List.set_cons_zero, List.set_cons_succ]
        refine wpAnyH_take (i := 3) (oi := ⟨some 20, _, _, _, _, _⟩) (v := .pointer (some ⟨g, 0, none⟩)) rfl (by kernel_rfl) (by kernel_rfl) (by kernel_rfl) (fun _ _ _ h => h) (Or.inl ⟨by rfl, fun wq hSq => by (try dsimp only at hSq); go_simp⟩) (by assumption) ?_
        try simp only [Act.put, List.setIfInBounds_toArray, List.set_cons_zero, List.set_cons_succ]
        refine wpAnyH_take (i := 4) (oi := ⟨some 21, _, _, _, _, _⟩) (v := .bool (neg && decide (0 < V))) rfl (by kernel_rfl) (by kernel_rfl) (by kernel_rfl) (fun _ _ _ h => h) (Or.inl ⟨by rfl, fun wq hSq => by (try dsimp only at hSq); go_simp⟩) (by assumption) ?_
        try simp only [Act.put, List.setIfInBounds_toArray, List.set_cons_zero, List.set_cons_succ]
        refine wpAnyH_take (i := 5) (oi := ⟨some 22, _, _, _, _, _⟩) (v := .pointer (some ⟨g, 1, none⟩)) rfl (by kernel_rfl) (by kernel_rfl) (by kernel_rfl) (fun _ _ _ h => h) (Or.inl ⟨by rfl, fun wq hSq => by (try dsimp only at hSq); go_simp⟩) (by assumption) ?_
        try simp only [Act.put, List.setIfInBounds_toArray, List.set_cons_zero, List.set_cons_succ]
        refine wpAnyH_take (i := 6) (oi := ⟨some 23, _, _, _, _, _⟩) (v := .slice A6 k6 d6) rfl (by kernel_rfl) (by kernel_rfl) (by kernel_rfl) (fun _ _ _ h => h) (Or.inl ⟨by rfl, fun wq hSq => by (try dsimp only at hSq); go_simp⟩) (by assumption) ?_
        try simp only [Act.put, List.setIfInBounds_toArray, List.set_cons_zero, List.set_cons_succ]
        refine wpAnyH_ready (rs := [7]) (by kernel_rfl) (by simp) ?_
        refine AllReadyH.cons (o := ⟨some 24, _, _, _, _, _⟩) rfl (fun K hK => ?_) AllReadyH.nil
        go_simp
        refine (C3.out _ HI.out.drew.2.2.1 A6 k6 d6 Hr6.out.drew).mono ?_
        rintro e w1 ⟨rfl, hb1⟩
        have I1 := hide (HI.out.drew.below hb1)
        have B1 := hide (Blk.below Hb.out.drew hb1 Hb.out.drew.lt)
        go_wp2_with fail
        refine hK.out _ _ (KC.out _ I1.out.1 B1.out) (fun hHeld => ?_)
        clear hK K
        try simp only [Act.put, List.setIfInBounds_toArray, List.set_cons_zero, List.set_cons_succ]
        refine wpAnyH_take (i := 8) (oi := ⟨some 25, _, _, _, _, _⟩) (v := .bool false) rfl (by kernel_rfl) (by kernel_rfl) (by kernel_rfl) (fun _ _ _ h => h) (Or.inl ⟨by rfl, fun wq hSq => by (try dsimp only at hSq); go_simp⟩) (by assumption) ?_
        try simp only [Act.put, List.setIfInBounds_toArray, List.set_cons_zero, List.set_cons_succ]
        refine wpAnyH_take (i := 9) (oi := ⟨some 26, _, _, _, _, _⟩) (v := undef) rfl (by kernel_rfl) (by kernel_rfl) (by kernel_rfl) (fun _ _ _ h => h) (Or.inr ⟨by rfl, rfl⟩) (by assumption) ?_
        try simp only [Act.put, List.setIfInBounds_toArray, List.set_cons_zero, List.set_cons_succ]
        refine wpAnyH_take (i := 10) (oi := ⟨some 27, _, _, _, _, _⟩) (v := undef) rfl (by kernel_rfl) (by kernel_rfl) (by kernel_rfl) (fun _ _ _ h => h) (Or.inr ⟨by rfl, rfl⟩) (by assumption) ?_
        try simp only [Act.put, List.setIfInBounds_toArray, List.set_cons_zero, List.set_cons_succ]
        refine wpAnyH_take (i := 11) (oi := ⟨some 28, _, _, _, _, _⟩) (v := undef) rfl (by kernel_rfl) (by kernel_rfl) (by kernel_rfl) (fun _ _ _ h => h) (Or.inr ⟨by rfl, rfl⟩) (by assumption) ?_
        try simp only [Act.put, List.setIfInBounds_toArray, List.set_cons_zero, List.set_cons_succ]
        refine wpAnyH_take (i := 12) (oi := ⟨some 29, _, _, _, _, _⟩) (v := undef) rfl (by kernel_rfl) (by kernel_rfl) (by kernel_rfl) (fun _ _ _ h => h) (Or.inr ⟨by rfl, rfl⟩) (by assumption) ?_
        try simp only [Act.put, List.setIfInBounds_toArray, List.set_cons_zero, List.set_cons_succ]
        refine wpAnyH_take (i := 13) (oi := ⟨some 30, _, _, _, _, _⟩) (v := .bool false) rfl (by kernel_rfl) (by kernel_rfl) (by kernel_rfl) (fun _ _ _ h => h) (Or.inl ⟨by rfl, fun wq hSq => by (try dsimp only at hSq); go_simp⟩) (by assumption) ?_
        try simp only [Act.put, List.setIfInBounds_toArray, List.set_cons_zero, List.set_cons_succ]
        refine wpAnyH_take (i := 14) (oi := ⟨some 31, _, _, _, _, _⟩) (v := .bool false) rfl (by kernel_rfl) (by kernel_rfl) (by kernel_rfl) (fun _ _ _ h => h) (Or.inl ⟨by rfl, fun wq hSq => by (try dsimp only at hSq); go_simp⟩) (by assumption) ?_
        try simp only [Act.put, List.setIfInBounds_toArray, List.set_cons_zero, List.set_cons_succ]
        refine wpAnyH_take (i := 15) (oi := ⟨some 32, _, _, _, _, _⟩) (v := undef) rfl (by kernel_rfl) (by kernel_rfl) (by kernel_rfl) (fun _ _ _ h => h) (Or.inr ⟨by rfl, rfl⟩) (by assumption) ?_
        try simp only [Act.put, List.setIfInBounds_toArray, List.set_cons_zero, List.set_cons_succ]
        refine wpAnyH_take (i := 16) (oi := ⟨some 33, _, _, _, _, _⟩) (v := undef) rfl (by kernel_rfl) (by kernel_rfl) (by kernel_rfl) (fun _ _ _ h => h) (Or.inr ⟨by rfl, rfl⟩) (by assumption) ?_
        try simp only [Act.put, List.setIfInBounds_toArray, List.set_cons_zero, List.set_cons_succ]
        refine wpAnyH_take (i := 17) (oi := ⟨some 34, _, _, _, _, _⟩) (v := .bool false) rfl (by kernel_rfl) (by kernel_rfl) (by kernel_rfl) (fun _ _ _ h => h) (Or.inl ⟨by rfl, fun wq hSq => by (try dsimp only at hSq); go_simp⟩) (by assumption) ?_
        try simp only [Act.put, List.setIfInBounds_toArray, List.set_cons_zero, List.set_cons_succ]
        refine wpAnyH_ready (rs := [18]) (by kernel_rfl) (by simp) ?_
        refine AllReadyH.cons (o := ⟨none, _, _, _, _, _⟩) rfl (fun K hK => ?_) AllReadyH.nil
        have z0 := I1.out.2.1.cell 0
        have z1 := I1.out.2.1.cell 1
        have z2 := I1.out.2.1.cell 2
        have q0 := I1.out.2.1.frozen 0
        have q1 := I1.out.2.1.frozen 1
        have q2 := I1.out.2.1.frozen 2
        simp only [List.getElem?_toArray, List.getElem?_cons_zero, List.getElem?_cons_succ] at z0 z1 z2
        go_simp
        refine hK.out _ _ (KD.out _ _ _ _ I1.out.1 B1.out) (fun hHeld => ?_)
        clear hK K
        try simp only [Act.put, List.setIfInBounds_toArray, List.set_cons_zero, List.set_cons_succ]
        refine wpAnyH_take (i := 19) (oi := ⟨some 3, _, _, _, _, _⟩) (v := .bool false) rfl (by kernel_rfl) (by kernel_rfl) (by kernel_rfl) (fun _ _ _ h => h) (Or.inl ⟨by rfl, fun wq hSq => by (try dsimp only at hSq); go_simp⟩) (by assumption) ?_
        try simp only [Act.put, List.setIfInBounds_toArray, List.set_cons_zero, List.set_cons_succ]
        refine wpAnyH_done (by kernel_rfl) ?_ _
      all_goals
        go_wp2_with fail
        have hk := ((I1.out.2.1.set_ 0 (.bool (neg && decide (0 < V)))).set_ 1 (.slice A6 k6 d6)).set_ 2 (.slice A7 k7 d7)
        have c0 := hk.cell 0
        have c1 := hk.cell 1
        have c2' := hk.cell 2
        have H3 : Blk3 w1 (w.heap.size + 1) 33 false (.slice none 0 0) (.slice none 0 0) := ⟨I1.out.2.1, rfl, rfl⟩
        simp only [List.setIfInBounds_toArray, List.set_cons_zero, List.set_cons_succ, List.getElem?_toArray, List.getElem?_cons_zero, List.getElem?_cons_succ] at c0 c1 c2'
        refine bodyPost_ret (v := .tuple #[.agg #[.bool (neg && decide (0 < V)), .slice A6 k6 d6, .slice A7 k7 d7], .bool false]) (by simp [results, Tryz.results8, go_sem, c0, c1, c2']) rfl ?_
        refine ⟨_, _, _, _, _, _, _, _, rfl, (fun h => by cases h), fun h => ?_, put3_below I1.out.2.2.1 (Nat.le_succ _) _ _ _⟩
        first
        | (have h1 := h.2.2.2.1; omega)
        | exact HG.out _ ⟨by simp, h.2⟩
  · have hk' : ¬ (3 : Int) = k := fun h => hk h.symm
    have HK := hide hk
    clear hv hws hlen hk
    go_enter Tryz.func8, Tryz.ntmps8
    go_wp2_with fail
    have hb := Blk.new (w.alloc (Obj.cells #[.int .i64 k, .bool t, .string s, .bool neg, .slice A n c, .slice A2 n2 c2, .bool ineg, .slice A3 n3 c3, .slice A4 n4 c4] 28)) 33 #[.bool false, .slice none 0 0, .slice none 0 0]
    rw [World.size_alloc] at hb
    have c0 := hb.cell 0
    have c1 := hb.cell 1
    have c2' := hb.cell 2
    refine bodyPost_ret (v := .tuple #[.agg #[.bool false, .slice none 0 0, .slice none 0 0], .bool false]) (by simp [results, Tryz.results8, go_sem, c0, c1, c2']) rfl ?_
    exact ⟨_, _, _, _, _, _, _, _, rfl, (fun h => by cases h), (fun h => (HK.out h.1).elim), (below1 _ _).alloc (by simp) _⟩
end Go.Proofs.YtgooioafmddneacGreatDoor
