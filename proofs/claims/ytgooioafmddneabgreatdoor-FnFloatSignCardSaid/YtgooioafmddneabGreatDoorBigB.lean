/- The package's int, more: nat.set, Set, Neg, NewInt, for magnitudes of at most one word. -/
import Derived.Test.YtgooioafmddneabGreatDoorBigA
import Derived.Laws.CopyOwn
import Derived.WalkLawsBesides
import Derived.LaidEqlPtr
namespace Go.Proofs.YtgooioafmddneabGreatDoor
open Go.RowKit
theorem natMake0 (w : World) : Calls Tryz.prog 62 #[.slice none 0 0, .int .i64 0] w (fun e w' => e = .returned (.slice none 0 0) ∧ w' = w) := by
  go_enter Tryz.func62, Tryz.ntmps62
  go_wp2
  go_ret
  exact ⟨rfl, rfl⟩
theorem natMake1 (w : World) : Calls Tryz.prog 62 #[.slice none 0 0, .int .i64 1] w (fun e w' => e = .returned (.slice (some ⟨w.heap.size, 0, none⟩) 1 1) ∧ w' = w.alloc (.cells #[.int .u64 0] 110)) := by
  obtain ⟨i0, hi, hz0, hz1, hz2⟩ := info_parts infoW
  have hm := run_makeSlice (P := Tryz.prog) w 68 110 i0 (.int .u64 0) Tryz.underlying68 hi hz0 .i64 .i64 1 1 (by omega) (by omega) (by rw [hz1]; decide) (by rw [hz2]; decide) (by omega)
  rw [hz1] at hm
  have e1 : madeCells (Value.int IntKind.u64 0).cells (Int.toNat 1 * 1) = #[.int .u64 0] := by kernel_rfl
  rw [e1] at hm
  clear hi hz0 hz1 hz2 e1
  go_enter Tryz.func62, Tryz.ntmps62
  go_wp2
  go_ret
  exact ⟨rfl, rfl⟩
theorem sizeW : (Tryz.prog.info? 110).map (·.size) = some 1 := by kernel_rfl
set_option maxRecDepth 100000 in
set_option maxHeartbeats 800000 in
theorem natSet0 (w : World) (A : Option Addr) (c : Nat) (_ : c ≤ 9223372036854775807) :
    Calls Tryz.prog 61 #[.slice none 0 0, .slice A 0 c] w (fun e w' => e = .returned (.slice none 0 0) ∧ w' = w) := by
  go_enter Tryz.func61, Tryz.ntmps61
  go_wp2_with fail
  refine (natMake0 w).mono ?_
  rintro e w' ⟨rfl, rfl⟩
  go_wp2_with (refine wpList_copy_nothing rfl _ _ _ _ rfl 110 Tryz.underlying68 sizeW _ _ _ _ _ _ rfl rfl (by simp) ?_)
  go_ret
  exact ⟨rfl, rfl⟩
set_option maxRecDepth 100000 in
set_option maxHeartbeats 800000 in
theorem natSet1 (w : World) (b o c : Nat) (x : Int) (_ : 1 ≤ c) (_ : c ≤ 9223372036854775807) (hb : b < w.heap.size) (hx : w.cell? ⟨b, o, none⟩ = some (.int .u64 x)) :
    Calls Tryz.prog 61 #[.slice none 0 0, .slice (some ⟨b, o, none⟩) 1 c] w (fun e w' => e = .returned (.slice (some ⟨w.heap.size, 0, none⟩) 1 1) ∧ w'.cell? ⟨w.heap.size, 0, none⟩ = some (.int .u64 x) ∧ w'.heap.size = w.heap.size + 1 ∧ Below w.heap.size w w') := by
  have hk := heap_alloc_new w (.cells #[Value.int .u64 0] 110)
  have hx' : (w.alloc (.cells #[Value.int .u64 0] 110)).cell? ⟨b, o, none⟩ = some (.int .u64 x) := ((below1 w _).cell (p := ⟨b, o, none⟩) hb).trans hx
  go_enter Tryz.func61, Tryz.ntmps61
  go_wp2_with fail
  refine (natMake1 w).mono ?_
  rintro e w' ⟨rfl, rfl⟩
  go_wp2_with (refine wpList_copy_own rfl _ _ _ _ rfl 110 Tryz.underlying68 sizeW w.heap.size 0 1 1 ⟨b, o, none⟩ 1 c rfl rfl #[.int .u64 0] 110 hk [.int .u64 x] (by simp) (fun j v hj => by match j, hj with | 0, hj => simp at hj; subst hj; exact hx') (by simp) (fun v hv => by simp at hv; subst hv; rfl) ?_)
  go_ret
  have hB : Below w.heap.size w ((w.alloc (Obj.cells #[Value.int .u64 0] 110)).setRow w.heap.size #[Value.int .u64 x]) := below_setRow (below1 w _) (Nat.le_refl _) _
  refine ⟨rfl, ?_, by simp [World.setRow], hB⟩
  exact cell_of_row _ _ 0 _ _ _ (setRow_heap _ _ _ _ _ _ hk)
theorem digs_le1 {n : Nat} (h : n < W64) : Dg.digs W64 n = [] ∧ n = 0 ∨ Dg.digs W64 n = [n] ∧ 0 < n := by
  rcases Nat.eq_zero_or_pos n with h0 | h0
  · exact .inl ⟨by subst h0; simp [Dg.digs], h0⟩
  · refine .inr ⟨?_, h0⟩
    have h1 := len_le_one.2 h
    have h2 := Dg.digs_len_pos W64_two h0
    have h3 := low_word n
    rw [Nat.mod_eq_of_lt h] at h3
    match he : Dg.digs W64 n, h1, h2, h3 with
    | [x], _, _, h3 => simp at h3; rw [h3]
theorem natSet_any (n : Nat) (hn : n < W64) (w : World) (s : Value) (hs : Rd w s (cU (Dg.digs W64 n))) :
    Calls Tryz.prog 61 #[.slice none 0 0, s] w (fun e w' => ∃ A k c, e = .returned (.slice A k c) ∧ Rd w' (.slice A k c) (cU (Dg.digs W64 n)) ∧ Below w.heap.size w w') := by
  rcases digs_le1 hn with ⟨h, h0⟩ | ⟨h, h0⟩
  · rw [h] at hs ⊢
    obtain ⟨A, c, rfl, hc⟩ := hs.zero
    refine (natSet0 w A c hc).mono ?_
    rintro e w' ⟨rfl, rfl⟩
    exact ⟨none, 0, 0, rfl, Rd.nil_ _ _ _ (by simp), Below.refl _ _⟩
  · rw [h] at hs ⊢
    obtain ⟨b, o, c, rfl, hlc, hcm, hb, hcl⟩ := hs.pos (by simp [cU])
    have hx := hcl 0 (.int .u64 (n : Int)) (by simp [cU])
    rw [Nat.add_zero] at hx
    refine (natSet1 w b o c _ (by simpa [cU] using hlc) hcm hb hx).mono ?_
    rintro e w' ⟨rfl, h1, h2, h3⟩
    refine ⟨_, 1, 1, rfl, ⟨_, 1, by simp [cU], by simp [cU], by simp [maxLen], fun _ => ⟨w.heap.size, 0, rfl, by omega, fun j u hj => ?_⟩⟩, h3⟩
    match j, hj with
    | 0, hj => simp [cU] at hj; subst hj; exact h1
theorem noInt_new : ∀ (i : Nat) (y : Value), (#[Value.bool false, Value.slice none 0 0] : Array Value)[i]? = some y → noInt y = true := by
  intro i y hy
  match i, hy with
  | 0, hy => simp at hy; subst hy; rfl
  | 1, hy => simp at hy; subst hy; rfl
theorem run_neq_ptr_other {P : Program} (w : World) {tp te : TypeId} {j : TypeInfo} {a b : Addr} {ca cb : Array Value} {ta tb : TypeId} (hp : P.underlying tp = some (.pointer te)) (hte : P.info? te = some j) (hsz : j.size ≠ 0)
    (hne : a ≠ b) (ha : w.heap[a.block]? = some (.cells ca ta (0, 0))) (hb : w.heap[b.block]? = some (.cells cb tb (0, 0))) :
    (binOp .neq tp (.pointer (some a)) (.pointer (some b))).run P w = .ok (.bool true) w := by
  have h : ∀ d : Nat, (Op.equalIn (d + 1) tp (.pointer (some a)) (.pointer (some b))).run P w = .ok false w := fun d => by
    simp [Op.equalIn, run_underlying hp, sizeOf, typeInfo, hte, hsz, run_sameAddr_other w hne ha hb]
  simp only [binOp]
  simp [Op.equal, Op.maxDepth, h 9999]
theorem sizeI : (Tryz.prog.info? 70).map (·.size) = some 2 := by kernel_rfl
theorem neqI (w : World) {a b : Addr} {ca cb : Array Value} {ta tb : TypeId} (hne : a ≠ b) (ha : Blk w a.block ta ca) (hb : Blk w b.block tb cb) : (binOp .neq 44 (.pointer (some a)) (.pointer (some b))).run Tryz.prog w = .ok (.bool true) w := by
  obtain ⟨j, hj, hs⟩ := Option.map_eq_some_iff.1 sizeI
  exact run_neq_ptr_other w Tryz.underlying44 hj (by omega) hne ha hb
set_option maxRecDepth 100000 in
set_option maxHeartbeats 1600000 in
theorem set_new (w : World) (g g' o' : Nat) (hgg : g ≠ g') (neg : Bool) (n : Nat) (hn : n < W64) (hb : Blk w g 70 #[.bool false, .slice none 0 0]) (h : BigAt w g' o' neg n) (t' : TypeId) (cs' : Array Value) (hb' : Blk w g' t' cs') :
    Calls Tryz.prog 45 #[.pointer (some ⟨g, 0, none⟩), .pointer (some ⟨g', o', none⟩)] w (fun e w' => e = .returned (.pointer (some ⟨g, 0, none⟩)) ∧ ∃ A k c, Blk w' g 70 #[.bool neg, .slice A k c] ∧ Rd w' (.slice A k c) (cU (Dg.digs W64 n)) ∧ Below g w w') := by
  obtain ⟨h1, s, h2, h3⟩ := h
  obtain ⟨A0, n0, k0, rfl⟩ := h3.shape
  have hgl := hb.lt
  have hgl' := hb'.lt
  have C : Hid (Calls Tryz.prog 61 #[.slice none 0 0, .slice A0 n0 k0] w.drew (fun e w1 => ∃ A k c, e = .returned (.slice A k c) ∧ Hid (Rd w1 (.slice A k c) (cU (Dg.digs W64 n))) ∧ Hid (Blk w1 g 70 #[.bool false, .slice none 0 0])
      ∧ w1.cell? ⟨g, 0, none⟩ = some (.bool false) ∧ w1.cell? ⟨g, 1, none⟩ = some (.slice none 0 0) ∧ w1.frozen? ⟨g, 0, none⟩ = false ∧ w1.frozen? ⟨g, 1, none⟩ = false ∧ w1.cell? ⟨g', o', none⟩ = some (.bool neg) ∧ Hid (Below w.heap.size w w1))) := by
    refine (natSet_any n hn w.drew _ h3.drew).mono ?_
    rintro e w1 ⟨A, k, c, rfl, hr, hB⟩
    have hB' : Below w.heap.size w w1 := ⟨hB.os, hB.tape, hB.output, hB.size, hB.block⟩
    have hb1 := hb.below hB' hgl
    exact ⟨A, k, c, rfl, hr, hb1, hb1.cell 0, hb1.cell 1, hb1.frozen 0, hb1.frozen 1, (hB'.cell (p := ⟨g', o', none⟩) hgl').trans h1, hB'⟩
  have c0 := hb.cell 0
  have c1 := hb.cell 1
  have f0 := hb.frozen 0
  have f1 := hb.frozen 1
  simp only [List.getElem?_toArray, List.getElem?_cons_zero, List.getElem?_cons_succ] at c0 c1
  have hq := neqI w (a := ⟨g, 0, none⟩) (b := ⟨g', o', none⟩) (fun h => hgg (by injection h)) hb hb'
  clear h3 hb'
  go_enter Tryz.func45, Tryz.ntmps45
  go_wp2_with fail
  go_region_with (first
    | (go_at_call 61; refine C.out.mono ?_; rintro e w1 ⟨A, k, c, rfl, hr, hb1, d0, d1, g0, g1, d2, hB⟩))
  all_goals
    have hne : (⟨g, 1, none⟩ : Addr) ≠ ⟨g', o', none⟩ := fun h => hgg (by injection h)
    have e2 : (w1.setCell ⟨g, 1, none⟩ (.slice A k c)).cell? ⟨g', o', none⟩ = some (.bool neg) := by rw [World.cell?_setCell_other (h := hne)]; exact d2
    go_wp2
    go_ret
    exact ⟨rfl, A, k, c, by simpa using (hb1.out.set_ 1 (.slice A k c)).set_ 0 (.bool neg), hr.out.keepInts (cU_int _) hb1.out noInt_new (only_setCell (p := ⟨g, 0, none⟩) (only_setCell (p := ⟨g, 1, none⟩) (World.grownBy.refl w1 _) (.inl rfl) _) (.inl rfl) _), ((hB.out.mono (Nat.le_of_lt hgl)).setCell (Nat.le_refl _) _).setCell (Nat.le_refl _) _⟩
theorem neg_fin {w1 : World} {g : Nat} {neg b : Bool} {A : Option Addr} {k c n : Nat} (hb : Blk w1 g 70 #[.bool neg, .slice A k c]) (hr : Rd w1 (.slice A k c) (cU (Dg.digs W64 n))) {b' : Bool} (e : b = b') : BigAt (w1.setCell ⟨g, 0, none⟩ (.bool b)) g 0 b' n := by
  subst e
  have hb2 := hb.set_ 0 (.bool b)
  refine ⟨hb2.cell 0, _, hb2.cell 1, hr.keepInts (cU_int _) hb ?_ (only_setCell (p := ⟨g, 0, none⟩) (World.grownBy.refl w1 _) (.inl rfl) _)⟩
  intro i y hy
  match i, hy with
  | 0, hy => simp at hy; subst hy; rfl
  | 1, hy => simp at hy; subst hy; rfl
set_option maxHeartbeats 800000 in
theorem neg_new (w : World) (g g' o' : Nat) (hgg : g ≠ g') (neg : Bool) (n : Nat) (hn : n < W64) (hb : Blk w g 70 #[.bool false, .slice none 0 0]) (h : BigAt w g' o' neg n) (t' : TypeId) (cs' : Array Value) (hb' : Blk w g' t' cs') :
    Calls Tryz.prog 47 #[.pointer (some ⟨g, 0, none⟩), .pointer (some ⟨g', o', none⟩)] w (fun e w' => e = .returned (.pointer (some ⟨g, 0, none⟩)) ∧ BigAt w' g 0 (decide (0 < n) && !neg) n ∧ Below g w w') := by
  have C := hide (set_new w g g' o' hgg neg n hn hb h t' cs' hb')
  clear h hb' hb
  go_enter Tryz.func47, Tryz.ntmps47
  go_wp2_with fail
  refine C.out.mono ?_
  rintro e w1 ⟨rfl, A, k, c, hb, hr, hB⟩
  have c0 := hb.cell 0
  have c1 := hb.cell 1
  have f0 := hb.frozen 0
  simp only [List.getElem?_toArray, List.getElem?_cons_zero, List.getElem?_cons_succ] at c0 c1
  have hk : k = (Dg.digs W64 n).length := by
    obtain ⟨_, _, e, _⟩ := hr.any
    injection e with _ e2 _
    rw [e2, cU_len]
  have hkn : decide (0 < (k : Int)) = decide (0 < n) := by
    rcases digs_le1 hn with ⟨h, h0⟩ | ⟨h, h0⟩
    · rw [hk, h, h0]; simp
    · rw [hk, h]; simp [h0]
  have Hr := hide hr
  have Hb := hide hb
  have HB := hide hB
  clear hr hb hB hk
  go_wp2_with fail
  · rename_i hk0
    go_ret
    have e : (!neg) = (decide (0 < n) && !neg) := by
      have : decide (0 < n) = true := by rw [← hkn]; simp; omega
      rw [this]; rfl
    exact ⟨rfl, neg_fin Hb.out Hr.out e, HB.out.setCell (Nat.le_refl _) _⟩
  · rename_i hk0
    go_ret
    have e : false = (decide (0 < n) && !neg) := by
      have : decide (0 < n) = false := by rw [← hkn]; simp; omega
      rw [this]; rfl
    exact ⟨rfl, neg_fin Hb.out Hr.out e, HB.out.setCell (Nat.le_refl _) _⟩
end Go.Proofs.YtgooioafmddneabGreatDoor
