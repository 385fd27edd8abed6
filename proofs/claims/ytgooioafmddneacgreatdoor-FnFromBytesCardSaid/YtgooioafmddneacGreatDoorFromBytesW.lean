/- The reference's same and IsInt; the walk of the law FnFromBytes. -/
import Derived.Test.YtgooioafmddneacGreatDoorTold
import Derived.Test.YtgooioafmddneacGreatDoorInteger
import Derived.Test.YtgooioafmddneacGreatDoorNatural
namespace Go.Proofs.YtgooioafmddneacGreatDoor
open Go.RowKit
set_option maxRecDepth 100000 in
set_option maxHeartbeats 1600000 in
theorem same_eq (V : Nat) (hV : (Dg.digs 65536 V).length ≤ 1000000) (w : World) (A B A2 B2 : Option Addr) (n c m d n2 c2 m2 d2 : Nat)
    (h1 : Rd w (.slice A n c) (cI (Dg.digs 65536 V))) (h2 : Rd w (.slice B m d) (cI (Dg.digs 65536 1))) (h3 : Rd w (.slice A2 n2 c2) (cI (Dg.digs 65536 V))) (h4 : Rd w (.slice B2 m2 d2) (cI (Dg.digs 65536 1))) :
    Calls Tryz.prog 9 #[.agg #[.bool false, .slice A n c, .slice B m d], .agg #[.bool false, .slice A2 n2 c2, .slice B2 m2 d2]] w (fun e w' => e = .returned (.bool true) ∧ Below w.heap.size w w') := by
  have C1 : Hid (∀ W, Below w.heap.size w W → Calls Tryz.prog 18 #[.slice A n c, .slice A2 n2 c2] W (fun e w' => e = .returned (.int .i64 0) ∧ Below W.heap.size W w')) := by
    intro W hB
    refine (cmp_any _ _ (Dg.can_digs (by omega) V) (Dg.can_digs (by omega) V) (by omega) W _ _ (h1.below hB) (h3.below hB)).mono ?_
    rintro e w' ⟨he, hb⟩
    exact ⟨by rw [he, Dg.cmp_eq], hb⟩
  have C2 : Hid (∀ W, Below w.heap.size w W → Calls Tryz.prog 18 #[.slice B m d, .slice B2 m2 d2] W (fun e w' => e = .returned (.int .i64 0) ∧ Below W.heap.size W w')) := by
    intro W hB
    have hl : (Dg.digs 65536 1).length ≤ 1 := Dg.digs_len_le (by omega) (by omega)
    refine (cmp_any _ _ (Dg.can_digs (by omega) 1) (Dg.can_digs (by omega) 1) (by omega) W _ _ (h2.below hB) (h4.below hB)).mono ?_
    rintro e w' ⟨he, hb⟩
    exact ⟨by rw [he, Dg.cmp_eq], hb⟩
  have K1 := hide ((Blk.new w 33 #[.bool false, .slice A n c, .slice B m d]).alloc (.cells #[.bool false, .slice A2 n2 c2, .slice B2 m2 d2] 33))
  have K2 := Blk.new (w.alloc (.cells #[.bool false, .slice A n c, .slice B m d] 33)) 33 #[.bool false, .slice A2 n2 c2, .slice B2 m2 d2]
  rw [World.size_alloc] at K2
  have K2 := hide K2
  have HB0 := hide ((below1 w (.cells #[.bool false, .slice A n c, .slice B m d] 33)).alloc (by simp) (.cells #[.bool false, .slice A2 n2 c2, .slice B2 m2 d2] 33))
  clear h1 h2 h3 h4 hV
  go_enter Tryz.func9, Tryz.ntmps9
  go_wp2_with fail
  refine (C1.out _ HB0.out).mono ?_
  rintro e w1 ⟨rfl, hb1⟩
  have k1 := K1.out.below hb1 K1.out.lt
  have k2 := K2.out.below hb1 K2.out.lt
  have x2 := k1.cell 2
  have y2 := k2.cell 2
  simp only [List.getElem?_toArray, List.getElem?_cons_zero, List.getElem?_cons_succ] at x2 y2
  have HB1 := hide (HB0.out.trans (hb1.mono HB0.out.size))
  clear k1 k2 hb1
  go_wp2_with fail
  refine (C2.out _ HB1.out).mono ?_
  rintro e w2 ⟨rfl, hb2⟩
  have HB2 := hide (HB1.out.trans (hb2.mono HB1.out.size))
  clear hb2
  go_wp2
  go_ret
  exact ⟨rfl, HB2.out⟩
set_option maxRecDepth 100000 in
set_option maxHeartbeats 1600000 in
theorem isInt_yes (V : Nat) (hV : (Dg.digs W64 V).length ≤ 1000) (w : World) (A A2 B2 : Option Addr) (n c n2 c2 m2 d2 : Nat) (hv : Rd w (.slice A n c) (cU (Dg.digs W64 V)))
    (h3 : Rd w (.slice A2 n2 c2) (cI (Dg.digs 65536 V))) (h4 : Rd w (.slice B2 m2 d2) (cI (Dg.digs 65536 1))) :
    Calls Tryz.prog 4 #[.agg #[.int .i64 3, .bool false, .string ⟨#[]⟩, .bool false, .slice A n c, .slice none 0 0, .bool false, .slice none 0 0, .slice none 0 0], .agg #[.bool false, .slice A2 n2 c2, .slice B2 m2 d2]] w (fun e w' => e = .returned (.bool true) ∧ Below w.heap.size w w') := by
  have hval := Dg.val_digs W64_two V
  have hl16 : (Dg.digs 65536 V).length ≤ 1000000 := by
    have h1 := Dg.lt_pow_digs W64_two V
    have h2 : V < 65536 ^ (4 * (Dg.digs W64 V).length) := by rw [← Dg.W64_pow]; exact h1
    have := Dg.digs_len_le (B := 65536) (by omega) h2
    omega
  have CI : Hid (∀ W, Below w.heap.size w W → Calls Tryz.prog 8 #[.agg #[.int .i64 3, .bool false, .string ⟨#[]⟩, .bool false, .slice A n c, .slice none 0 0, .bool false, .slice none 0 0, .slice none 0 0]] W
      (fun e w' => ∃ (B1 D1 : Option Addr) (m1 d1 m3 d3 : Nat), e = .returned (.tuple #[.agg #[.bool false, .slice B1 m1 d1, .slice D1 m3 d3], .bool true]) ∧ Rd w' (.slice B1 m1 d1) (cI (Dg.digs 65536 V)) ∧ Rd w' (.slice D1 m3 d3) (cI (Dg.digs 65536 1)) ∧ Below W.heap.size W w')) := by
    intro W hB
    refine (integer_any 3 false ⟨#[]⟩ false false (Dg.digs W64 V) (Dg.digs_lt W64_two V) (by omega) A none none none n c 0 0 0 0 0 0 W (hv.below hB)).mono ?_
    rintro e w' ⟨ng, b, B1, B2', m1, d1, m3, d3, he, hout, hgood, hb⟩
    have hbt : b = true := hgood ⟨rfl, by simp, by show _ = Dg.digs Dg.W64 (Dg.val Dg.W64 (Dg.digs Dg.W64 V)); rw [show Dg.val Dg.W64 (Dg.digs Dg.W64 V) = V from hval], rfl, rfl, rfl, rfl, rfl, rfl⟩
    subst hbt
    obtain ⟨_, hng, hr1, hr2⟩ := hout rfl
    rw [show Dg.val Dg.W64 (Dg.digs W64 V) = V from hval] at hr1
    simp at hng
    subst hng
    exact ⟨B1, B2', m1, d1, m3, d3, he, hr1, hr2, hb⟩
  have CS : Hid (∀ W (B1 D1 : Option Addr) (m1 d1 m3 d3 : Nat), Below w.heap.size w W → Rd W (.slice B1 m1 d1) (cI (Dg.digs 65536 V)) → Rd W (.slice D1 m3 d3) (cI (Dg.digs 65536 1)) →
      Calls Tryz.prog 9 #[.agg #[.bool false, .slice B1 m1 d1, .slice D1 m3 d3], .agg #[.bool false, .slice A2 n2 c2, .slice B2 m2 d2]] W (fun e w' => e = .returned (.bool true) ∧ Below W.heap.size W w')) :=
    fun W B1 D1 m1 d1 m3 d3 hB hr1 hr2 => same_eq V hl16 W B1 D1 A2 B2 m1 d1 m3 d3 n2 c2 m2 d2 hr1 hr2 (h3.below hB) (h4.below hB)
  have K2 := Blk.new (w.alloc (.cells #[.int .i64 3, .bool false, .string ⟨#[]⟩, .bool false, .slice A n c, .slice none 0 0, .bool false, .slice none 0 0, .slice none 0 0] 28)) 33 #[.bool false, .slice A2 n2 c2, .slice B2 m2 d2]
  rw [World.size_alloc] at K2
  have K2 := hide K2
  have HB0 := hide ((below1 w (.cells #[.int .i64 3, .bool false, .string ⟨#[]⟩, .bool false, .slice A n c, .slice none 0 0, .bool false, .slice none 0 0, .slice none 0 0] 28)).alloc (by simp) (.cells #[.bool false, .slice A2 n2 c2, .slice B2 m2 d2] 33))
  clear h3 h4 hV hv hval hl16
  go_enter Tryz.func4, Tryz.ntmps4
  go_wp2_with fail
  refine (CI.out _ HB0.out).mono ?_
  rintro e w1 ⟨B1, D1, m1, d1, m3, d3, rfl, hr1, hr2, hb1⟩
  have HB1 := hide (HB0.out.trans (hb1.mono HB0.out.size))
  have HB2 := hide (HB1.out.alloc HB1.out.size (.cells #[.bool false, .slice B1 m1 d1, .slice D1 m3 d3] 33))
  have k2 := (K2.out.below hb1 K2.out.lt).alloc (.cells #[.bool false, .slice B1 m1 d1, .slice D1 m3 d3] 33)
  have y0 := k2.cell 0
  have y1 := k2.cell 1
  have y2 := k2.cell 2
  simp only [List.getElem?_toArray, List.getElem?_cons_zero, List.getElem?_cons_succ] at y0 y1 y2
  have Hr1 := hide (hr1.alloc (.cells #[.bool false, .slice B1 m1 d1, .slice D1 m3 d3] 33))
  have Hr2 := hide (hr2.alloc (.cells #[.bool false, .slice B1 m1 d1, .slice D1 m3 d3] 33))
  clear k2 hb1 hr1 hr2
  go_wp2_with fail
  refine (CS.out _ B1 D1 m1 d1 m3 d3 HB2.out Hr1.out Hr2.out).mono ?_
  rintro e w2 ⟨rfl, hb2⟩
  have HB3 := hide (HB2.out.trans (hb2.mono HB2.out.size))
  clear hb2
  go_wp2
  go_ret
  exact ⟨rfl, HB3.out⟩
set_option maxHeartbeats 1600000 in
theorem fromBytes_walk (a0 : Option Addr) (len0 cap0 : Nat) (w : World) (bs : List Nat) (hr : Raw w a0 len0 cap0 bs) :
    Calls Tryz.prog 3 #[.slice a0 len0 cap0] w (fun e w' => e = .returned (.bool true) ∧ Below w.heap.size w w') := by
  have hlen : len0 ≤ 9223372036854775807 := by have h1 := hr.2.1; have h2 := hr.2.2.1; unfold maxLen at h2; omega
  by_cases h1 : 2147483647 < len0
  · clear hr
    go_enter Tryz.func3, Tryz.ntmps3
    go_wp2
    go_ret
    exact ⟨rfl, Below.refl _ _⟩
  · have h1' : len0 ≤ 2147483647 := by omega
    clear h1 hlen
    by_cases h2 : 300 < len0
    · clear hr
      go_enter Tryz.func3, Tryz.ntmps3
      go_wp2
      go_ret
      exact ⟨rfl, Below.refl _ _⟩
    · have h2' : len0 ≤ 300 := by omega
      have hbl : bs.length ≤ 300 := by rw [hr.1]; omega
      have hwl := words_len_k hr.2.2.2.1 (k := 300) hbl
      have C1 := hide (fromBytesImpl_any bs (by omega) (by omega) w a0 len0 cap0 hr)
      have C2 : Hid (∀ W, Below w.heap.size w W → Calls Tryz.prog 7 #[.slice a0 len0 cap0] W _) := fun W hB => natural_any bs hbl W a0 len0 cap0 (hr.below hB)
      have HW := hide hwl
      clear h1' h2 hr hbl hwl
      generalize Dg.val 256 bs = V at *
      have C3 : Hid (∀ (W : World) (A : Option Addr) (n c : Nat), Rd W (.slice A n c) (cI (Dg.digs 65536 V)) → Calls Tryz.prog 6 #[.bool false, .slice A n c] W (GotRatio false V 1 W)) := by
        intro W A n c hR
        have := whole_any false V W A n c hR
        simpa using this
      have C4 := hide (isInt_yes V (by have := HW.out; omega))
      go_enter Tryz.func3, Tryz.ntmps3
      go_wp2_with fail
      refine C1.out.mono ?_
      rintro e w1 ⟨A, k, c, rfl, hv, hb1⟩
      have Hv := hide hv
      have HB1 := hide hb1
      clear hv hb1
      go_wp2_with fail
      refine (C2.out _ HB1.out).mono ?_
      rintro e w2 ⟨v2, rfl, hv2, hb2⟩
      obtain ⟨A2, n2, c2, rfl⟩ := hv2.shape
      have Hv2 := hide hv2
      have Hva := hide (Hv.out.below hb2)
      have HB2 := hide (HB1.out.trans (hb2.mono HB1.out.size))
      clear hv2 hb2
      go_wp2_with fail
      refine (C3.out _ A2 n2 c2 Hv2.out).mono ?_
      rintro e w3 ⟨v3, u3, rfl, hv3, hu3, hb3⟩
      obtain ⟨A3, n3, c3, rfl⟩ := hv3.shape
      obtain ⟨A4, n4, c4, rfl⟩ := hu3.shape
      have Hv3 := hide hv3
      have Hu3 := hide hu3
      have Hvb := hide (Hva.out.below hb3)
      have HB3 := hide (HB2.out.trans (hb3.mono HB2.out.size))
      clear hv3 hu3 hb3
      go_wp2_with fail
      refine (C4.out _ A A3 A4 k c n3 c3 n4 c4 Hvb.out Hv3.out Hu3.out).mono ?_
      rintro e w4 ⟨rfl, hb4⟩
      have HB4 := hide (HB3.out.trans (hb4.mono HB3.out.size))
      clear hb4
      go_wp2
      go_ret
      exact ⟨rfl, HB4.out⟩
end Go.Proofs.YtgooioafmddneacGreatDoor
