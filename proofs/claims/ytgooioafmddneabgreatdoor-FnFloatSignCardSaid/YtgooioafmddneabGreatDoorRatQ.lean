/- The package's Rat of a number over words, as a constant, and its sign. -/
import Derived.Test.YtgooioafmddneabGreatDoorRatP
import Derived.Test.YtgooioafmddneabGreatDoorFrac
namespace Go.Proofs.YtgooioafmddneabGreatDoor
open Go.RowKit
/-- The Rat in block g: a number over another one. -/
def RatAt (w : World) (g : Nat) (neg : Bool) (V D : Nat) : Prop :=
  ∃ (A B : Option Addr) (n c m d : Nat), Blk w g 72 #[.bool neg, .slice A n c, .bool false, .slice B m d] ∧ Rd w (.slice A n c) (cU (Dg.digs W64 V)) ∧ Rd w (.slice B m d) (cU (Dg.digs W64 D))
theorem denom_one (w : World) (g b : Nat) (neg : Bool) (A : Option Addr) (n c : Nat) (hk : Blk w g 72 #[.bool neg, .slice A n c, .bool false, .slice (some ⟨b, 0, none⟩) 1 1]) :
    Calls Tryz.prog 31 #[.pointer (some ⟨g, 0, none⟩)] w (fun e w' => e = .returned (.pointer (some ⟨g, 2, none⟩)) ∧ w' = w) := by
  have k3 := hk.cell 3
  simp only [List.getElem?_toArray, List.getElem?_cons_zero, List.getElem?_cons_succ] at k3
  clear hk
  go_enter Tryz.func31, Tryz.ntmps31
  go_wp2
  go_ret
  exact ⟨rfl, rfl⟩
theorem denom_pos (w : World) (g : Nat) (neg : Bool) (A B : Option Addr) (n c m d : Nat) (hm : 0 < m) (hk : Blk w g 72 #[.bool neg, .slice A n c, .bool false, .slice B m d]) :
    Calls Tryz.prog 31 #[.pointer (some ⟨g, 0, none⟩)] w (fun e w' => e = .returned (.pointer (some ⟨g, 2, none⟩)) ∧ w' = w) := by
  have k3 := hk.cell 3
  have hm' : ¬ (m : Int) = 0 := by omega
  simp only [List.getElem?_toArray, List.getElem?_cons_zero, List.getElem?_cons_succ] at k3
  clear hk
  go_enter Tryz.func31, Tryz.ntmps31
  go_wp2
  go_ret
  exact ⟨rfl, rfl⟩
theorem num_ptr (w : World) (g : Nat) : Calls Tryz.prog 39 #[.pointer (some ⟨g, 0, none⟩)] w (fun e w' => e = .returned (.pointer (some ⟨g, 0, none⟩)) ∧ w' = w) := by
  go_enter Tryz.func39, Tryz.ntmps39
  go_wp2
  go_ret
  exact ⟨rfl, rfl⟩
set_option maxRecDepth 100000 in
set_option maxHeartbeats 1600000 in
theorem over_any (neg : Bool) (ws den : List Nat) (hws : ∀ x ∈ ws, x < W64) (hl : ws.length ≤ 200) (hden : ∀ x ∈ den, x < W64) (hl2 : den.length ≤ 200) (w : World) (A A2 : Option Addr) (n c n2 c2 : Nat) (hv : Rd w (.slice A n c) (cU ws)) (hv2 : Rd w (.slice A2 n2 c2) (cU den)) :
    Calls Tryz.prog 19 #[.agg #[.bool neg, .slice A n c], .slice A2 n2 c2] w (fun e w' => ∃ g, e = .returned (.pointer (some ⟨g, 0, none⟩)) ∧ RatAt w' g (neg && decide (0 < Dg.val W64 ws)) (Dg.val W64 ws) (Dg.val W64 den) ∧ Below w.heap.size w w') := by
  have hVl := digs_len_val hws (by omega)
  have hVl2 : (Dg.digs W64 (Dg.val W64 ws)).length ≤ 100000 := by have := Dg.digs_len_le W64_two (Dg.val_lt ws hws); omega
  have CO : Hid (∀ W, Below w.heap.size w W → Calls Tryz.prog 30 #[.agg #[.bool neg, .slice A n c]] W _) := fun W hB => of_number neg ws hws (by omega) W A n c (hv.below hB)
  have CW : Hid (∀ W, Below w.heap.size w W → Calls Tryz.prog 33 #[.slice A2 n2 c2] W _) := fun W hB => wordsOf_any den (by omega) W _ (hv2.below hB)
  have CB : Hid (∀ (W : World) (v : Value) (g : Nat) (N : Bool) (A1 : Option Addr) (n1 c1 : Nat) (B : Value), Rd W v (cU den) → Blk W g 72 #[.bool N, .slice A1 n1 c1, .bool false, B] → Calls Tryz.prog 32 #[.pointer (some ⟨g, 2, none⟩), v] W _) :=
    fun W v g N A1 n1 c1 B hr hk => setBits_any den hden W v hr g 2 false B (hk.cell 2) (hk.cell 3) (hk.frozen 2) (hk.frozen 3)
  have CI : Hid (∀ (N : Bool) (W : World) (g gx : Nat) (hne : gx ≠ g) (cs : Array Value) (tb : TypeId), Blk W gx tb cs → BigAt W gx 0 N (Dg.val W64 ws) → Blk W g 72 #[.bool false, .slice none 0 0, .bool false, .slice none 0 0] →
      Calls Tryz.prog 29 #[.pointer (some ⟨g, 0, none⟩), .pointer (some ⟨gx, 0, none⟩)] W _) := fun N W g gx hne cs tb hx hb hg => setIntRat _ hVl2 N W g gx hne cs tb hx hb hg
  generalize Dg.val W64 ws = V at *
  generalize Dg.val W64 den = D at *
  generalize (neg && decide (0 < V)) = N at *
  clear hv hv2 hws hl hden hl2 hVl hVl2
  have HB0 := hide ((below1 w (.cells #[.bool neg, .slice A n c] 24)).alloc (by simp) (.cells #[.bool false, .slice none 0 0, .bool false, .slice none 0 0] 72))
  have hk0 := Blk.new (w.alloc (.cells #[.bool neg, .slice A n c] 24)) 72 #[.bool false, .slice none 0 0, .bool false, .slice none 0 0]
  rw [World.size_alloc] at hk0
  have HK0 := hide hk0
  clear hk0
  go_enter Tryz.func19, Tryz.ntmps19
  go_wp2_with fail
  refine (CO.out _ HB0.out).mono ?_
  rintro e w1 ⟨gx, rfl, hbig, hb1, cs, hcs⟩
  have HK1 := hide (HK0.out.below hb1 HK0.out.lt)
  have HB1 := hide (HB0.out.trans (hb1.mono HB0.out.size))
  have hne : gx ≠ w.heap.size + 1 := by
    rintro rfl
    have h1 := HK1.out
    unfold Blk at h1 hcs
    rw [h1] at hcs
    simp at hcs
  have Hne := hide hne
  have Hbig := hide hbig
  have Hcs := hide hcs
  clear hb1 hne hbig hcs
  go_wp2_with fail
  refine (CI.out _ w1 (w.heap.size + 1) gx Hne.out cs _ Hcs.out Hbig.out HK1.out).mono ?_
  rintro e w2 ⟨rfl, A1, n1, c1, b, hk2, hr2, hb2⟩
  have HK2 := hide hk2
  have HR2 := hide hr2
  have HB2 := hide (HB1.out.trans (hb2.mono (by omega)))
  clear hk2 hr2 hb2
  go_wp2_with fail
  refine (denom_one w2 _ _ _ _ _ _ HK2.out).mono ?_
  rintro e w3 ⟨rfl, rfl⟩
  go_wp2_with fail
  refine (CW.out _ HB2.out).mono ?_
  rintro e w4 ⟨v4, rfl, hr4, hb4⟩
  have HK4 := hide (HK2.out.below hb4 HK2.out.lt)
  have HR4 := hide (HR2.out.below hb4)
  have HV4 := hide hr4
  have HB4 := hide (HB2.out.trans (hb4.mono HB2.out.size))
  clear hr4 hb4
  go_wp2_with fail
  refine (CB.out w4 v4 _ _ _ _ _ _ HV4.out HK4.out).mono ?_
  rintro e w5 ⟨rfl, s, hs, hw5⟩
  obtain ⟨A5, n5, c5, rfl⟩ := hs.shape
  have HRAT : Hid (RatAt w5 (w.heap.size + 1) N V D ∧ Below w.heap.size w w5) := by
    have hg : w4.grownBy w5 (some (w.heap.size + 1)) := by
      rw [hw5]
      exact only_setCell (p := ⟨w.heap.size + 1, 2, none⟩) (only_setCell (p := ⟨w.heap.size + 1, 3, none⟩) (World.grownBy.refl w4 _) (.inl rfl) _) (.inl rfl) _
    refine ⟨⟨A1, A5, n1, c1, n5, c5, ?_, HR4.out.keepInts (cU_int _) HK4.out noIntR hg, hs.keepInts (cU_int _) HK4.out noIntR hg⟩, ?_⟩
    · rw [hw5]; simpa using (HK4.out.set_ 3 (.slice A5 n5 c5)).set_ 2 (.bool false)
    · rw [hw5]; exact (HB4.out.setCell (Nat.le_succ _) _).setCell (Nat.le_succ _) _
  clear hs hw5
  go_wp2
  go_ret
  exact ⟨_, rfl, HRAT.out⟩
end Go.Proofs.YtgooioafmddneabGreatDoor
