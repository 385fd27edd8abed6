/- The package's Rat of a number over words: SetInt, Denom, over, Make, its sign. -/
import Derived.Test.YtgooioafmddneabGreatDoorOf
import Derived.Test.YtgooioafmddneabGreatDoorNatC
import Derived.Test.YtgooioafmddneabGreatDoorConst
import Derived.Test.YtgooioafmddneabGreatDoorSpecC
import Derived.Deep.RegionWith
namespace Go.Proofs.YtgooioafmddneabGreatDoor
open Go.RowKit
theorem natSetAny (l : List Nat) (hl : l.length ≤ 100000) (w : World) (A : Option Addr) (n c : Nat) (hr : Rd w (.slice A n c) (cU l)) :
    Calls Tryz.prog 61 #[.slice none 0 0, .slice A n c] w (fun e w' => ∃ A' n' c', e = .returned (.slice A' n' c') ∧ Rd w' (.slice A' n' c') (cU l) ∧ Below w.heap.size w w') := by
  have hn : n = l.length := by
    obtain ⟨_, _, e, _⟩ := hr.any
    injection e with _ e2 _
    rw [e2, cU_len]
  rcases (by omega : n = 0 ∨ n = 1 ∨ 2 ≤ n) with h | h | h
  · have hl0 : l = [] := List.eq_nil_of_length_eq_zero (by omega)
    subst hl0
    obtain ⟨A0, c0, e, hc⟩ := Rd.zero (w := w) (v := .slice A n c) (by simpa [cU] using hr)
    injection e with e1 e2 e3
    subst e1 e2 e3
    refine (natSet0 w A c hc).mono ?_
    rintro e w' ⟨rfl, rfl⟩
    exact ⟨_, _, _, rfl, by simpa [cU] using Rd.nil_ _ _ _ (Nat.zero_le _), Below.refl _ _⟩
  · obtain ⟨x, hx⟩ : ∃ x, l = [x] := List.length_eq_one_iff.1 (by omega)
    subst hx
    obtain ⟨b, o, c0, e, h1, h2, hb, hcl⟩ := hr.pos (by simp [cU])
    injection e with e1 e2 e3
    subst e1 e3
    have hx := hcl 0 _ (cU_at (l := [x]) (j := 0) (by simp))
    rw [Nat.add_zero] at hx
    have hn1 : n = 1 := h
    subst hn1
    refine (natSet1 w b o c _ (by simpa [cU] using h1) h2 hb hx).mono ?_
    rintro e w' ⟨rfl, h3, h4, h5⟩
    refine ⟨_, _, _, rfl, ⟨_, 1, rfl, by simp [cU], by simp [maxLen], fun _ => ⟨_, 0, rfl, by omega, fun j u hu => ?_⟩⟩, h5⟩
    match j, hu with
    | 0, hu => simp [cU] at hu; subst hu; simpa using h3
    | (_ + 1), hu => simp [cU] at hu
  · refine (natSetK l n hn h (by omega) w A c hr).mono ?_
    rintro e w' ⟨s, he, hr', hb⟩
    obtain ⟨A', n', c', rfl⟩ := hr'.shape
    exact ⟨A', n', c', he, hr', hb⟩
theorem noIntR {b1 b2 : Bool} {A B : Option Addr} {n c m d : Nat} : ∀ (i : Nat) (y : Value), (#[Value.bool b1, .slice A n c, .bool b2, .slice B m d] : Array Value)[i]? = some y → noInt y = true := by
  intro i y h
  match i, h with
  | 0, h | 1, h | 2, h | 3, h => simp at h; subst h; rfl
  | (_ + 4), h => simp at h
set_option maxRecDepth 100000 in
set_option maxHeartbeats 3200000 in
theorem setRat (V : Nat) (hV : (Dg.digs W64 V).length ≤ 100000) (neg : Bool) (w : World) (g gx : Nat) (hne : gx ≠ g) (cs : Array Value) (tb : TypeId) (hx : Blk w gx tb cs) (hbig : BigAt w gx 0 neg V) (hg : Blk w g 72 #[.bool false, .slice none 0 0, .bool false, .slice none 0 0]) :
    Calls Tryz.prog 45 #[.pointer (some ⟨g, 0, none⟩), .pointer (some ⟨gx, 0, none⟩)] w (fun e w' => ∃ A n c, e = .returned (.pointer (some ⟨g, 0, none⟩)) ∧ Blk w' g 72 #[.bool neg, .slice A n c, .bool false, .slice none 0 0] ∧ Rd w' (.slice A n c) (cU (Dg.digs W64 V)) ∧ Below g w w') := by
  obtain ⟨h1, s, h2, h3⟩ := hbig
  obtain ⟨A, n, c, rfl⟩ := h3.shape
  have C := hide fun (W : World) (hr : Rd W (.slice A n c) (cU (Dg.digs W64 V))) => natSetAny _ hV W A n c hr
  have HN := neqI (w := w) (a := ⟨g, 0, none⟩) (b := ⟨gx, 0, none⟩) (fun e => by injection e with e1; exact hne e1.symm) hg hx
  have k1 := hg.cell 1
  simp only [List.getElem?_toArray, List.getElem?_cons_zero, List.getElem?_cons_succ] at k1
  have Hg := hide hg.drew
  have Hlt := hide hg.lt
  have Hx := hide hx.lt
  have HR := hide h3.drew
  have H1 := hide h1
  have Hne := hide hne
  generalize Dg.digs W64 V = l at *
  clear h3 hg hx hV
  go_enter Tryz.func45, Tryz.ntmps45
  go_upto_region 2 with fail
  go_region_with ((go_at_call 61; refine (C.out _ HR.out).mono ?_; rintro e w1 ⟨A1, n1, c1, rfl, hr, hb1⟩; have hk1 := Hg.out.below hb1 Hlt.out; have y0 := hk1.cell 0; have y1 := hk1.cell 1; have q0 := hk1.frozen 0; have q1 := hk1.frozen 1; have x0 := (hb1.cell (p := ⟨gx, 0, none⟩) Hx.out).trans H1.out; simp only [List.getElem?_toArray, List.getElem?_cons_zero, List.getElem?_cons_succ] at y0 y1; have Hk1 := hide hk1; have Hr := hide hr; have HB1 := hide hb1; clear hk1 hr hb1))
  all_goals
    go_wp2
    go_ret
    refine ⟨A1, n1, c1, rfl, by simpa using (Hk1.out.set_ 1 (.slice A1 n1 c1)).set_ 0 (.bool neg), Hr.out.keepInts (cU_int _) Hk1.out noIntR (only_setCell (p := ⟨g, 0, none⟩) (only_setCell (p := ⟨g, 1, none⟩) (World.grownBy.refl w1 _) (.inl rfl) _) (.inl rfl) _), ?_⟩
    exact ((((Below.refl g w).drew.trans (HB1.out.mono (Nat.le_of_lt Hlt.out))).setCell (Nat.le_refl _) _).setCell (Nat.le_refl _) _)
theorem setWordR (n : Nat) (h0 : 0 < n) (w : World) :
    Calls Tryz.prog 46 #[.slice none 0 0, .int .u64 (n : Int)] w (fun e w' => e = .returned (.slice (some ⟨w.heap.size, 0, none⟩) 1 1) ∧ w' = w.alloc (.cells #[.int .u64 (n : Int)] 110)) := by
  have hn' : ¬ (n : Int) = 0 := by omega
  go_enter Tryz.func46, Tryz.ntmps46
  go_wp2_with fail
  refine (natMake1 w).mono ?_
  rintro e w' ⟨rfl, rfl⟩
  go_wp2
  go_ret
  exact ⟨rfl, rfl⟩
set_option maxRecDepth 100000 in
set_option maxHeartbeats 1600000 in
theorem setIntRat (V : Nat) (hV : (Dg.digs W64 V).length ≤ 100000) (neg : Bool) (w : World) (g gx : Nat) (hne : gx ≠ g) (cs : Array Value) (tb : TypeId) (hx : Blk w gx tb cs) (hbig : BigAt w gx 0 neg V) (hg : Blk w g 72 #[.bool false, .slice none 0 0, .bool false, .slice none 0 0]) :
    Calls Tryz.prog 29 #[.pointer (some ⟨g, 0, none⟩), .pointer (some ⟨gx, 0, none⟩)] w (fun e w' => e = .returned (.pointer (some ⟨g, 0, none⟩)) ∧ ∃ A n c b, Blk w' g 72 #[.bool neg, .slice A n c, .bool false, .slice (some ⟨b, 0, none⟩) 1 1] ∧ Rd w' (.slice A n c) (cU (Dg.digs W64 V)) ∧ Below g w w') := by
  have C := hide (setRat V hV neg w g gx hne cs tb hx hbig hg)
  have C1 : Hid (∀ W, Calls Tryz.prog 46 #[.slice none 0 0, .int .u64 1] W (fun e w' => e = .returned (.slice (some ⟨W.heap.size, 0, none⟩) 1 1) ∧ w' = W.alloc (.cells #[.int .u64 1] 110))) := fun W => setWordR 1 (by omega) W
  have Hlt := hide hg.lt
  generalize Dg.digs W64 V = l at *
  clear hx hbig hg hV
  go_enter Tryz.func29, Tryz.ntmps29
  go_wp2_with fail
  refine C.out.mono ?_
  rintro e w1 ⟨A, n, c, rfl, hk, hr, hb⟩
  have k3 := hk.cell 3
  simp only [List.getElem?_toArray, List.getElem?_cons_zero, List.getElem?_cons_succ] at k3
  have Hk := hide hk
  have Hr := hide hr
  have HB := hide hb
  clear hk hr hb
  go_wp2_with fail
  refine (C1.out _).mono ?_
  rintro e w2 ⟨rfl, rfl⟩
  have Hk2 := hide (Hk.out.alloc (.cells #[.int .u64 1] 110))
  have Hr2 := hide (Hr.out.alloc (.cells #[.int .u64 1] 110))
  have y3 := Hk2.out.cell 3
  have q3 := Hk2.out.frozen 3
  simp only [List.getElem?_toArray, List.getElem?_cons_zero, List.getElem?_cons_succ] at y3
  go_wp2
  go_ret
  have hgw : g ≤ w1.heap.size := Nat.le_of_lt Hk.out.lt
  exact ⟨rfl, A, n, c, w1.heap.size, by simpa using Hk2.out.set_ 3 (.slice (some ⟨w1.heap.size, 0, none⟩) 1 1), Hr2.out.keepInts (cU_int _) Hk2.out noIntR (only_setCell (p := ⟨g, 3, none⟩) (World.grownBy.refl _ _) (.inl rfl) _), (HB.out.alloc hgw _).setCell (Nat.le_refl _) _⟩
end Go.Proofs.YtgooioafmddneabGreatDoor
