/- The package's int of a number told by its words: wordsOf, of (SetBits, Neg on itself), Make, impl.whole. -/
import Derived.Test.YtgooioafmddneabGreatDoorBigB
import Derived.Test.YtgooioafmddneabGreatDoorSpecE
import Derived.Test.YtgooioafmddneabGreatDoorConstB
import Derived.WalkLawsBesides
import Derived.Lib.Builder
namespace Go.Proofs.YtgooioafmddneabGreatDoor
open Go.RowKit
theorem appW (w : World) {ops : Array Oper} {rest : List Oper} {o : Oper} {a : Act} {Q : Exit → Act → World → Prop} (hgd : o.guard = none) (s x : Operand)
    (ho : o.op = .call { callee := .builtin .append, args := #[s, x], argTypes := #[67, 67] })
    (base : Nat) (v : Value) (n : Nat) (l : List Nat) (d : Nat) (hs : a.eval s = v) (hx : a.eval x = .slice (some ⟨w.heap.size, 0, none⟩) 1 1)
    (hown : w.ownsRow base 110 1 v n (cU l)) (hn : n ≤ 1000000000000) (hbase : base ≤ w.heap.size)
    (h : ∀ v' w', w'.ownsRow base 110 1 v' (n + 1) (cU (l ++ [d])) → Below base w w' → wpList Tryz.prog ops Q rest (a.put o.dst v') w') : wpList Tryz.prog ops Q (o :: rest) a (w.alloc (.cells #[.int .u64 (d : Int)] 110)) := by
  obtain ⟨i0, hi, hz0, hz1, hz2⟩ := info_parts infoW
  refine wpList_app1 _ hgd s x 67 ho base 110 i0 (.int .u64 0) 8 Tryz.underlying67 hi hz0 hz1 hz2 rfl (by omega) v n (cU l) _ hs w.heap.size hx (cell_new1 _ _ _) rfl (hown.alloc _) hn (by simp; omega) ?_
  intro v' w' h1 h2
  rw [cU_snoc] at h1
  exact h v' w' h1 (below_alloc h2 hbase)
def WoIn (ws : List Nat) (w : World) (out _x i : Value) (wr : World) : Prop :=
  ∃ j : Nat, i = .int .i64 (j : Int) ∧ j ≤ ws.length ∧ wr.ownsRow w.heap.size 110 1 out j (cU (ws.take j)) ∧ Below w.heap.size w wr
theorem take_snoc {l : List Nat} {j : Nat} (h : j < l.length) : l.take j ++ [l.getD j 0] = l.take (j + 1) := by
  rw [List.take_succ_eq_append_getElem h]; simp [List.getD_eq_getElem?_getD, h]
set_option maxRecDepth 100000 in
set_option maxHeartbeats 800000 in
theorem wordsOf_any (ws : List Nat) (hlen : ws.length ≤ 1000000) (w : World) (v : Value) (hv : Rd w v (cU ws)) :
    Calls Tryz.prog 33 #[v] w (fun e w' => ∃ v', e = .returned v' ∧ Rd w' v' (cU ws) ∧ Below w.heap.size w w') := by
  obtain ⟨A, c, rfl, hlc, hcm, hcell⟩ := hv.any
  rw [cU_len] at *
  obtain ⟨n, hn⟩ : ∃ n, n = ws.length := ⟨_, rfl⟩
  rw [← hn] at hlc hcell hlen ⊢
  have Hn := hide hn
  have Hc := hide hcell
  clear hn hcell hv
  go_enter Tryz.func33, Tryz.ntmps33
  go_wp2_with fail
  go_loopw [3, 5, 8] (WoIn ws w) (fun _ _ i _ => n - (intOf i).toNat)
  case atStart => exact ⟨0, rfl, by omega, ⟨by simp [cU], .inl ⟨rfl, rfl⟩⟩, Below.refl _ _⟩
  case round =>
    obtain ⟨j, rfl, hj, hown, hbel⟩ := hrel
    rw [← Hn.out] at hj
    by_cases hlt : j < n
    · obtain ⟨b, o, rfl, hb, hcl⟩ := Hc.out (by omega)
      have hck := (hbel.cell (p := ⟨b, o + j, none⟩) hb).trans (hcl j _ (cU_at (l := ws) (j := j) (by rw [← Hn.out]; omega)))
      have hsz := hbel.size
      have hst := hide (take_snoc (l := ws) (j := j) (by rw [← Hn.out]; exact hlt))
      obtain ⟨x, hx⟩ : ∃ x, x = ws.getD j 0 := ⟨_, rfl⟩
      rw [← hx] at hck hst
      clear hx hcl
      go_wp2_with (at_builtin; refine appW _ rfl _ _ rfl w.heap.size u3 j (ws.take j) x rfl rfl hown ?c2 hsz ?_)
      case c2 => omega
      intro v1 w1 hown1 hb1
      rw [hst.out] at hown1
      go_wp2
      go_roundw
      case rel => exact ⟨j + 1, by go_num, by rw [← Hn.out]; omega, hown1, hbel.trans hb1⟩
      case measure => simp [intOf]; omega
    · have hje : j = n := by omega
      have HR : Hid (Rd wr u3 (cU ws)) := by
        have := Rd.of_own hown
        rw [List.take_of_length_le (by rw [← Hn.out]; omega)] at this
        exact this
      clear hown
      go_wp2
      go_ret
      exact ⟨_, rfl, HR.out, hbel⟩
theorem eqI (w : World) (a : Addr) : (binOp .neq 44 (.pointer (some a)) (.pointer (some a))).run Tryz.prog w = .ok (.bool false) w := by
  obtain ⟨j, hj, hs⟩ := Option.map_eq_some_iff.1 sizeI
  exact Go.Lib.run_neq_ptr_same w a Tryz.underlying44 hj
theorem setNew_blk (xs : List Nat) (h : ∀ d ∈ xs, d < W64) (w : World) (v : Value) (hv : Rd w v (cU xs)) (g : Nat) (hb : Blk w g 70 #[.bool false, .slice none 0 0]) :
    Calls Tryz.prog 32 #[.pointer (some ⟨g, 0, none⟩), v] w (fun e w' => e = .returned (.pointer (some ⟨g, 0, none⟩)) ∧ ∃ A k c, Blk w' g 70 #[.bool false, .slice A k c] ∧ Rd w' (.slice A k c) (cU (Dg.digs W64 (Dg.val W64 xs))) ∧ Below g w w') := by
  refine (setBits_any xs h w v hv g 0 false (.slice none 0 0) (hb.cell 0) (hb.cell 1) (hb.frozen 0) (hb.frozen 1)).mono ?_
  rintro e w' ⟨he, s, hs, rfl⟩
  obtain ⟨A, k, c, rfl⟩ := hs.shape
  have hg : w.grownBy ((w.setCell ⟨g, 0 + 1, none⟩ (.slice A k c)).setCell ⟨g, 0, none⟩ (.bool false)) (some g) :=
    only_setCell (p := ⟨g, 0, none⟩) (only_setCell (p := ⟨g, 1, none⟩) (World.grownBy.refl w _) (.inl rfl) _) (.inl rfl) _
  have hb2 := (hb.set_ 1 (.slice A k c)).set_ 0 (.bool false)
  exact ⟨he, A, k, c, by simpa using hb2, hs.keepInts (cU_int _) hb noInt_new hg, ((Below.refl g w).setCell (Nat.le_refl _) _).setCell (Nat.le_refl _) _⟩
set_option maxRecDepth 100000 in
set_option maxHeartbeats 800000 in
theorem set_self (w : World) (a : Addr) : Calls Tryz.prog 45 #[.pointer (some a), .pointer (some a)] w (fun e w' => e = .returned (.pointer (some a)) ∧ w' = w) := by
  have hq := eqI w a
  go_enter Tryz.func45, Tryz.ntmps45
  go_wp2
  go_ret
  exact ⟨rfl, rfl⟩
theorem len_pos_iff {n k : Nat} (hk : k = (Dg.digs W64 n).length) : decide (0 < (k : Int)) = decide (0 < n) := by
  rcases Nat.eq_zero_or_pos n with h | h
  · subst h; rw [hk, show Dg.digs W64 0 = [] by simp [Dg.digs]]; simp
  · have := Dg.digs_len_pos W64_two h
    simp [h]; omega
set_option maxHeartbeats 800000 in
theorem neg_self (w : World) (g n : Nat) (A : Option Addr) (k c : Nat) (hb : Blk w g 70 #[.bool false, .slice A k c]) (hr : Rd w (.slice A k c) (cU (Dg.digs W64 n))) :
    Calls Tryz.prog 47 #[.pointer (some ⟨g, 0, none⟩), .pointer (some ⟨g, 0, none⟩)] w (fun e w' => e = .returned (.pointer (some ⟨g, 0, none⟩)) ∧ BigAt w' g 0 (decide (0 < n)) n ∧ Below g w w' ∧ ∃ cs, Blk w' g 70 cs) := by
  have c0 := hb.cell 0
  have c1 := hb.cell 1
  have f0 := hb.frozen 0
  simp only [List.getElem?_toArray, List.getElem?_cons_zero, List.getElem?_cons_succ] at c0 c1
  have hk : k = (Dg.digs W64 n).length := by
    obtain ⟨_, _, e, _⟩ := hr.any
    injection e with _ e2 _
    rw [e2, cU_len]
  have hkn := len_pos_iff hk
  have Hr := hide hr
  have Hb := hide hb
  clear hr hb hk
  go_enter Tryz.func47, Tryz.ntmps47
  go_wp2_with fail
  refine (set_self w ⟨g, 0, none⟩).mono ?_
  rintro e w1 ⟨rfl, rfl⟩
  go_wp2_with fail
  · rename_i hk0
    go_ret
    have e : true = decide (0 < n) := by rw [← hkn]; simp; omega
    exact ⟨rfl, neg_fin Hb.out Hr.out e, (Below.refl g _).setCell (Nat.le_refl _) _, _, Hb.out.set_ 0 _⟩
  · rename_i hk0
    go_ret
    have e : false = decide (0 < n) := by rw [← hkn]; simp; omega
    exact ⟨rfl, neg_fin Hb.out Hr.out e, (Below.refl g _).setCell (Nat.le_refl _) _, _, Hb.out.set_ 0 _⟩
set_option maxHeartbeats 800000 in
theorem of_number (neg : Bool) (ws : List Nat) (hws : ∀ x ∈ ws, x < W64) (hlen : ws.length ≤ 1000000) (w : World) (A : Option Addr) (n c : Nat) (hv : Rd w (.slice A n c) (cU ws)) :
    Calls Tryz.prog 30 #[.agg #[.bool neg, .slice A n c]] w (fun e w' => ∃ g, e = .returned (.pointer (some ⟨g, 0, none⟩)) ∧ BigAt w' g 0 (neg && decide (0 < Dg.val W64 ws)) (Dg.val W64 ws) ∧ Below w.heap.size w w' ∧ ∃ cs, Blk w' g 70 cs) := by
  have C1 := hide fun (w1 : World) (hB : Below w.heap.size w w1) => wordsOf_any ws hlen w1 _ (hv.below hB)
  have C2 := hide (setNew_blk ws hws)
  generalize Dg.val W64 ws = V at *
  clear hv hws hlen
  go_enter Tryz.func30, Tryz.ntmps30
  go_wp2_with fail
  have hk := Blk.new (w.alloc (Obj.cells #[Value.bool neg, Value.slice A n c] 24)) 70 #[.bool false, .slice none 0 0]
  rw [World.size_alloc] at hk
  refine (C1.out _ ((below1 _ _).alloc (by simp) _)).mono ?_
  rintro e w1 ⟨v1, rfl, hr1, hb1⟩
  rw [World.size_alloc, World.size_alloc] at hb1
  have hk1 := hk.below hb1 (by omega)
  go_wp2_with fail
  refine (C2.out w1 v1 hr1 (w.heap.size + 1) hk1).mono ?_
  rintro e w2 ⟨rfl, A2, k2, c2, hk2, hr2, hb2⟩
  have hh := (Blk.new w 24 #[Value.bool neg, Value.slice A n c])
  have hh2 := ((hh.alloc (Obj.cells #[.bool false, .slice none 0 0] 70)).below hb1 (by omega)).below hb2 (by omega)
  have d0 := hh2.cell 0
  simp only [List.getElem?_toArray, List.getElem?_cons_zero] at d0
  have HB : Below w.heap.size w w2 := (((below1 w _).alloc (by simp) _).trans (hb1.mono (by omega))).trans (hb2.mono (by omega))
  have Hk2 := hide hk2
  have Hr2 := hide hr2
  have HB := hide HB
  clear hk hk1 hk2 hr2 hr1 hb1 hb2 hh hh2
  cases neg with
  | true =>
    go_wp2_with fail
    refine (neg_self w2 (w.heap.size + 1) V A2 k2 c2 Hk2.out Hr2.out).mono ?_
    rintro e w3 ⟨rfl, hbig, hb3, cs, hcs⟩
    have hcs := hide hcs
    have hbig := hide hbig
    go_wp2
    go_ret
    exact ⟨_, rfl, by simpa using hbig.out, HB.out.trans (hb3.mono (by omega)), cs, hcs.out⟩
  | false =>
    go_wp2
    go_ret
    exact ⟨_, rfl, ⟨Hk2.out.cell 0, _, Hk2.out.cell 1, Hr2.out⟩, HB.out, _, Hk2.out⟩
@[go_sem] theorem as_big_bool (v : Value) (w : World) : (Instr.typeAssert (.iface 44 v) 20 4 true).run Tryz.prog w = .ok (.tuple #[.bool false, .bool false]) w := by kernel_rfl
@[go_sem] theorem as_big_str (v : Value) (w : World) : (Instr.typeAssert (.iface 44 v) 20 9 true).run Tryz.prog w = .ok (.tuple #[.string ⟨#[]⟩, .bool false]) w := by kernel_rfl
@[go_sem] theorem as_big_i64 (v : Value) (w : World) : (Instr.typeAssert (.iface 44 v) 20 2 true).run Tryz.prog w = .ok (.tuple #[.int .i64 0, .bool false]) w := by kernel_rfl
@[go_sem] theorem as_big_big (v : Value) (w : World) : (Instr.typeAssert (.iface 44 v) 20 44 true).run Tryz.prog w = .ok (.tuple #[v, .bool true]) w := by kernel_rfl
set_option maxHeartbeats 800000 in
theorem make_big (w : World) (g : Nat) (neg : Bool) (n : Nat) (h : BigAt w g 0 neg n) (hlen : (Dg.digs W64 n).length ≤ 1000000) :
    Calls Tryz.prog 18 #[.iface 44 (.pointer (some ⟨g, 0, none⟩))] w (fun e w' => (∃ v, e = .returned v ∧ ConstInt w v (sgn neg n)) ∧ w = w') := by
  have C := hide (makeInt_any w g 0 neg n h hlen)
  clear h hlen
  go_enter Tryz.func18, Tryz.ntmps18
  go_wp2_with fail
  refine C.out.mono ?_
  rintro e w' ⟨⟨v, rfl, hci⟩, rfl⟩
  have hci := hide hci
  go_wp2
  go_ret
  exact ⟨⟨v, rfl, hci.out⟩, rfl⟩
theorem digs_len_val {ws : List Nat} (h : ∀ x ∈ ws, x < W64) (hlen : ws.length ≤ 1000000) : (Dg.digs W64 (Dg.val W64 ws)).length ≤ 1000000 := by
  have h2 := Dg.digs_len_le W64_two (Dg.val_lt ws h)
  omega
/-- A value of the laws' (nine cells in a row), by its number alone. -/
def valV (k : Int) (t : Bool) (s : ByteArray) (neg : Bool) (v den : Value) (ineg : Bool) (iw iden : Value) : Value := .agg #[.int .i64 k, .bool t, .string s, .bool neg, v, den, .bool ineg, iw, iden]
end Go.Proofs.YtgooioafmddneabGreatDoor
