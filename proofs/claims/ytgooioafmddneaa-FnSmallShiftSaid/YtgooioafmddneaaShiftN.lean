/- The reference's Shifted to the right. Written by gen_shifted.py. -/
import Derived.Test.YtgooioafmddneaaShift
namespace Go.Proofs.Ytgooioafmddneaa
open Go.RowKit
set_option maxRecDepth 100000 in
set_option maxHeartbeats 3200000 in
theorem shifted_pos (m k : Nat) (hm : m < 65536 ^ 4) (hk : k ≤ 300) (w : World) (A A2 : Option Addr) (n c n2 c2 : Nat) (hv : Rd w (.slice A n c) (cI (Dg.digs 65536 m))) :
    Calls Try.prog 6 #[.agg #[.bool false, .slice A n c, .slice A2 n2 c2], .bool false, .int .i64 (k : Int)] w (GotRatio false (m / 2 ^ k) 1 w) := by
  have hml := dlen16 hm
  have CR : Hid (∀ W, Rd W (.slice A n c) (cI (Dg.digs 65536 m)) → Calls Try.prog 16 #[.slice A n c, .int .i64 (k : Int)] W (GotNat (m / 2 ^ k) W)) := by
    intro W hR
    have := shr_any (Dg.digs 65536 m) (Dg.digs_lt (by omega) _) (by omega) k (by omega) W _ hR
    rw [Dg.val_digs (by omega)] at this
    exact this
  have C2 : Hid (∀ (W : World) (A1 : Option Addr) (n1 c1 : Nat), Rd W (.slice A1 n1 c1) (cI (Dg.digs 65536 (m / 2 ^ k))) → Calls Try.prog 13 #[.bool false, .slice A1 n1 c1] W (GotRatio false (m / 2 ^ k) 1 W)) := by
    intro W A1 n1 c1 hR
    have := whole_any false (m / 2 ^ k) W A1 n1 c1 hR
    simpa using this
  have HJ := hide (RInv.start w #[.bool false, .slice A n c, .slice A2 n2 c2])
  have RN := hide (hv.below HJ.out.2.2)
  generalize m / 2 ^ k = N at *
  clear hv hm hk hml
  go_enter Try.func6, Try.ntmps6
  go_wp2_with fail
  refine (CR.out _ RN.out).mono ?_
  rintro e w1 ⟨v1, rfl, hr1, hbx⟩
  obtain ⟨A1, n1, c1, rfl⟩ := hr1.shape
  have RA := hide hr1
  replace HJ := hide (HJ.out.below hbx)
  clear hr1 hbx RN
  go_wp2_with fail
  refine (C2.out _ A1 n1 c1 RA.out).mono ?_
  rintro e w2 ⟨v2, u2, rfl, hr2, hr3, hbx⟩
  obtain ⟨A4, n4, c4, rfl⟩ := hr2.shape
  obtain ⟨A5, n5, c5, rfl⟩ := hr3.shape
  have RB := hide hr2
  have RC := hide hr3
  replace HJ := hide (HJ.out.below hbx)
  have z0 := HJ.out.2.1.cell 0; have z1 := HJ.out.2.1.cell 1; have z2 := HJ.out.2.1.cell 2; have q0 := HJ.out.2.1.frozen 0; have q1 := HJ.out.2.1.frozen 1; have q2 := HJ.out.2.1.frozen 2; simp only [List.getElem?_toArray, List.getElem?_cons_zero, List.getElem?_cons_succ] at z0 z1 z2
  clear hr2 hr3 hbx
  go_wp2_with fail
  obtain ⟨e1, e2, e3, e4, e5, e6⟩ := rinv_end (ng := false) HJ.out RB.out RC.out
  unfold put3 at e4 e5 e6
  refine bodyPost_ret (v := .agg #[.bool false, .slice A4 n4 c4, .slice A5 n5 c5]) (by simp [results, Try.results6, go_sem, e4, e5, e6]) rfl ?_
  exact ⟨_, _, rfl, e1, e2, e3⟩
set_option maxRecDepth 100000 in
set_option maxHeartbeats 6400000 in
theorem shifted_neg (m k : Nat) (h0 : 0 < m) (hm : m < 65536 ^ 4) (hk : k ≤ 300) (w : World) (A A2 : Option Addr) (n c n2 c2 : Nat) (hv : Rd w (.slice A n c) (cI (Dg.digs 65536 m))) :
    Calls Try.prog 6 #[.agg #[.bool true, .slice A n c, .slice A2 n2 c2], .bool false, .int .i64 (k : Int)] w (GotRatio true ((m - 1) / 2 ^ k + 1) 1 w) := by
  have hml := dlen16 hm
  have hml2 : ∀ x, x ≤ m → (Dg.digs 65536 x).length ≤ 4 := fun x hx => dlen16 (Nat.lt_of_le_of_lt hx hm)
  have h1d : (Dg.digs 65536 1).length ≤ (Dg.digs 65536 m).length := Dg.digs_len_mono (by omega) h0
  have CS : Hid (∀ W (A1 : Option Addr) (n1 c1 : Nat), Rd W (.slice A n c) (cI (Dg.digs 65536 m)) → Rd W (.slice A1 n1 c1) (cI (Dg.digs 65536 1)) → Calls Try.prog 17 #[.slice A n c, .slice A1 n1 c1] W (GotNat (m - 1) W)) := by
    intro W A1 n1 c1 hR hR1
    have := sub_any (Dg.digs 65536 m) (Dg.digs 65536 1) (Dg.digs_lt (by omega) _) (Dg.can_digs (by omega) _) (by rw [Dg.val_digs (by omega), Dg.val_digs (by omega)]; exact h0) (by omega) h1d W _ _ hR hR1
    rw [Dg.val_digs (by omega), Dg.val_digs (by omega)] at this
    exact this
  have CR : Hid (∀ W (A1 : Option Addr) (n1 c1 : Nat), Rd W (.slice A1 n1 c1) (cI (Dg.digs 65536 (m - 1))) → Calls Try.prog 16 #[.slice A1 n1 c1, .int .i64 (k : Int)] W (GotNat ((m - 1) / 2 ^ k) W)) := by
    intro W A1 n1 c1 hR
    have := shr_any (Dg.digs 65536 (m - 1)) (Dg.digs_lt (by omega) _) (by have := hml2 (m - 1) (by omega); omega) k (by omega) W _ hR
    rw [Dg.val_digs (by omega)] at this
    exact this
  have CA : Hid (∀ W (A1 B1 : Option Addr) (n1 c1 m1 d1 : Nat), Rd W (.slice A1 n1 c1) (cI (Dg.digs 65536 ((m - 1) / 2 ^ k))) → Rd W (.slice B1 m1 d1) (cI (Dg.digs 65536 1)) → Calls Try.prog 15 #[.slice A1 n1 c1, .slice B1 m1 d1] W (GotNat ((m - 1) / 2 ^ k + 1) W)) := by
    intro W A1 B1 n1 c1 m1 d1 hR hR1
    have := add_any (Dg.digs 65536 ((m - 1) / 2 ^ k)) (Dg.digs 65536 1) (Dg.digs_lt (by omega) _) (Dg.digs_lt (by omega) _) (by have := hml2 ((m - 1) / 2 ^ k) (Nat.le_trans (Nat.div_le_self _ _) (by omega)); omega) (by omega) W _ _ hR hR1
    rw [Dg.val_digs (by omega), Dg.val_digs (by omega)] at this
    exact this
  have C2 : Hid (∀ (W : World) (A1 : Option Addr) (n1 c1 : Nat), Rd W (.slice A1 n1 c1) (cI (Dg.digs 65536 ((m - 1) / 2 ^ k + 1))) → Calls Try.prog 13 #[.bool true, .slice A1 n1 c1] W (GotRatio true ((m - 1) / 2 ^ k + 1) 1 W)) := by
    intro W A1 n1 c1 hR
    have := whole_any true ((m - 1) / 2 ^ k + 1) W A1 n1 c1 hR
    simpa using this
  have C0 := hide (small_any 1 (by omega))
  have HJ0 := hide (RInv.start w #[.bool true, .slice A n c, .slice A2 n2 c2])
  have RN := hide (hv.below HJ0.out.2.2).drew
  have HJ := hide HJ0.out.drew
  clear hv hm hk hml hml2 h1d h0
  generalize m - 1 = m1 at *
  generalize m1 / 2 ^ k = N at *
  go_enter Try.func6, Try.ntmps6
  go_upto_region 4 with fail
  go_region_held3 (fun w' => w'.cell? ⟨w.heap.size, 0, none⟩ = some (.bool true) ∧ w'.cell? ⟨w.heap.size, 1, none⟩ = some (.slice A n c)) (first | exact rinv_keep _ HJ.out | exact rinv_keep3 _ _ _ _ HJ.out | go_keep) (first
    | (go_at_call 18; (fail_if_success (have := RA.out)); refine (C0.out _).mono ?_; rintro e wA ⟨vA, rfl, hrA, hbx⟩; obtain ⟨AA, nA, cA, rfl⟩ := hrA.shape; (try replace RN := hide (RN.out.below hbx)); (try replace RA := hide (RA.out.below hbx)); (try replace RB := hide (RB.out.below hbx)); (try replace RD := hide (RD.out.below hbx)); (try replace RE := hide (RE.out.below hbx)); (try replace RF := hide (RF.out.below hbx)); replace HJ := hide (HJ.out.below hbx); have RA := hide hrA; clear hrA hbx)
    | (go_at_call 18; refine (C0.out _).mono ?_; rintro e wB ⟨vB, rfl, hrB, hbx⟩; obtain ⟨AB, nB, cB, rfl⟩ := hrB.shape; (try replace RN := hide (RN.out.below hbx)); (try replace RA := hide (RA.out.below hbx)); (try replace RB := hide (RB.out.below hbx)); (try replace RD := hide (RD.out.below hbx)); (try replace RE := hide (RE.out.below hbx)); (try replace RF := hide (RF.out.below hbx)); replace HJ := hide (HJ.out.below hbx); have RB := hide hrB; clear hrB hbx)
    | (go_at_call 17; (first | refine (CS.out _ AA nA cA RN.out RA.out).mono ?_ | refine (CS.out _ AB nB cB RN.out RB.out).mono ?_); rintro e wD ⟨vD, rfl, hrD, hbx⟩; obtain ⟨AD, nD, cD, rfl⟩ := hrD.shape; (try replace RN := hide (RN.out.below hbx)); (try replace RA := hide (RA.out.below hbx)); (try replace RB := hide (RB.out.below hbx)); (try replace RD := hide (RD.out.below hbx)); (try replace RE := hide (RE.out.below hbx)); (try replace RF := hide (RF.out.below hbx)); replace HJ := hide (HJ.out.below hbx); have RD := hide hrD; clear hrD hbx)
    | (go_at_call 16; refine (CR.out _ AD nD cD RD.out).mono ?_; rintro e wE ⟨vE, rfl, hrE, hbx⟩; obtain ⟨AE, nE, cE, rfl⟩ := hrE.shape; (try replace RN := hide (RN.out.below hbx)); (try replace RA := hide (RA.out.below hbx)); (try replace RB := hide (RB.out.below hbx)); (try replace RD := hide (RD.out.below hbx)); (try replace RE := hide (RE.out.below hbx)); (try replace RF := hide (RF.out.below hbx)); replace HJ := hide (HJ.out.below hbx); have RE := hide hrE; clear hrE hbx)
    | (go_at_call 15; (first | refine (CA.out _ AE AB nE cE nB cB RE.out RB.out).mono ?_ | refine (CA.out _ AE AA nE cE nA cA RE.out RA.out).mono ?_); rintro e wF ⟨vF, rfl, hrF, hbx⟩; obtain ⟨AF, nF, cF, rfl⟩ := hrF.shape; (try replace RN := hide (RN.out.below hbx)); (try replace RA := hide (RA.out.below hbx)); (try replace RB := hide (RB.out.below hbx)); (try replace RD := hide (RD.out.below hbx)); (try replace RE := hide (RE.out.below hbx)); (try replace RF := hide (RF.out.below hbx)); replace HJ := hide (HJ.out.below hbx); have RF := hide hrF; clear hrF hbx)
    | (go_at_call 13; refine (C2.out _ AF nF cF RF.out).mono ?_; rintro e wG ⟨vG, uG, rfl, hrG, hrH, hbx⟩; obtain ⟨AG, nG, cG, rfl⟩ := hrG.shape; obtain ⟨AH, nH, cH, rfl⟩ := hrH.shape; have RG := hide hrG; have RH := hide hrH; replace HJ := hide (HJ.out.below hbx); have z0 := HJ.out.2.1.cell 0; have z1 := HJ.out.2.1.cell 1; have z2 := HJ.out.2.1.cell 2; have q0 := HJ.out.2.1.frozen 0; have q1 := HJ.out.2.1.frozen 1; have q2 := HJ.out.2.1.frozen 2; simp only [List.getElem?_toArray, List.getElem?_cons_zero, List.getElem?_cons_succ] at z0 z1 z2; clear hrG hrH hbx))
  all_goals
    go_wp2_with fail
    obtain ⟨e1, e2, e3, e4, e5, e6⟩ := rinv_end (ng := true) HJ.out RG.out RH.out
    unfold put3 at e4 e5 e6
    refine bodyPost_ret (v := .agg #[.bool true, .slice AG nG cG, .slice AH nH cH]) (by simp [results, Try.results6, go_sem, e4, e5, e6]) rfl ?_
    exact ⟨_, _, rfl, e1, e2, e3⟩
end Go.Proofs.Ytgooioafmddneaa
