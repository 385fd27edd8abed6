/- A value of the laws' (impl.Value), opened: its nine cells, its words as they read. -/
import Derived.Test.YtgooioafmddneabGreatDoorMem
import Derived.Test.YtgooioafmddneabGreatDoorChecked
import Derived.ProofKit
import Derived.OpenShut
import Derived.KernelRfl
namespace Go.Proofs.YtgooioafmddneabGreatDoor
open Go.RowKit Go.ChangeShapes Go.WideShapes
theorem rd_of_u64 {w : World} {a : Option Addr} {len cap : Nat} {zs : List Int} (hlt : ∀ x, a = some x → 0 < len → x.block < w.heap.size ∧ x.spot = none)
    (h : (a = none ∧ len = 0 ∧ cap = 0 ∧ zs = []) ∨ ∃ x, a = some x ∧ len ≤ cap ∧ cap ≤ maxLen ∧ zs.length = cap ∧ (∀ i, i < zs.length → w.cell? (x.add i) = some (.int .u64 (zs.getD i 0))) ∧ ∀ n ∈ zs, (Lit.int .u64 n).wf = true) :
    ∃ ws : List Nat, (∀ x ∈ ws, x < Dg.W64) ∧ Rd w (.slice a len cap) (cU ws) := by
  rcases h with ⟨rfl, rfl, rfl, rfl⟩ | ⟨x, rfl, hl, hm, hz, hc, hw⟩
  · exact ⟨[], by simp, by simpa [cU] using Rd.nil_ w none 0 (Nat.zero_le _)⟩
  · have hb : ∀ n ∈ zs, 0 ≤ n ∧ n ≤ 18446744073709551615 := fun n hn => bounds_u64 (hw n hn)
    have hlen : ((zs.take len).map Int.toNat).length = len := by simp; omega
    refine ⟨(zs.take len).map Int.toNat, ?_, some x, cap, by rw [cU_len, hlen], by rw [cU_len, hlen]; exact hl, hm, fun hp => ?_⟩
    · intro d hd
      obtain ⟨z, hz', rfl⟩ := List.mem_map.1 hd
      have := hb z (List.mem_of_mem_take hz')
      unfold Dg.W64
      omega
    · rw [cU_len, hlen] at hp
      obtain ⟨h1, h2⟩ := hlt x rfl hp
      obtain ⟨b, o, sp⟩ := x
      simp only at h1 h2
      subst h2
      refine ⟨b, o, rfl, h1, fun j u hu => ?_⟩
      simp only [cU, List.getElem?_map, List.getElem?_take] at hu
      split at hu
      · rename_i hj
        have hjz : j < zs.length := by omega
        rw [List.getElem?_eq_getElem hjz] at hu
        simp only [Option.map_some, Option.some.injEq] at hu
        have h1 := hb zs[j] (List.getElem_mem hjz)
        have h2 := hc j hjz
        rw [Addr.add_lit] at h2
        rw [h2, ← hu, List.getD_eq_getElem?_getD, List.getElem?_eq_getElem hjz, Option.getD_some, Int.toNat_of_nonneg h1.1]
      · simp at hu
theorem cells_spot {w : World} {x : Addr} {v : Value} (h : w.cell? x = some v) : x.block < w.heap.size ∧ x.spot = none := by
  refine ⟨World.block_lt_of_cell? _ _ h, ?_⟩
  unfold World.cell? at h
  split at h
  · split at h
    · cases h
    · rename_i hs
      simpa using hs
  · cases h
theorem rd_of_open {w : World} {c : Value} {H : Type} {enc : TypeId × Value → H} {fuel : Nat} {x : DataW H × List MemPlace} {held : Bool}
    (h : DataW.trod enc Tryz.prog w 0 (fun _ => true) held fuel 22 [c] = some x) : ∃ (A : Option Addr) (n k : Nat) (ws : List Nat), c = .slice A n k ∧ (∀ x ∈ ws, x < Dg.W64) ∧ Rd w (.slice A n k) (cU ws) := by
  rcases open_ints Tryz.underlying22 Tryz.underlying97 (by kernel_rfl) h with ⟨hcs, _⟩ | ⟨a, len, cap, zs, hcs, _, hl, hm, hz, _, hcell, hwz⟩
  · simp at hcs
    subst hcs
    obtain ⟨ws, h1, h2⟩ := rd_of_u64 (w := w) (a := none) (len := 0) (cap := 0) (zs := []) (fun _ h => by cases h) (.inl ⟨rfl, rfl, rfl, rfl⟩)
    exact ⟨none, 0, 0, ws, rfl, h1, h2⟩
  · simp at hcs
    subst hcs
    have hz' : zs.length = cap := by simpa using hz
    obtain ⟨ws, h1, h2⟩ := rd_of_u64 (w := w) (a := some a) (len := len) (cap := cap) (zs := zs) (fun y hy hp => by
      injection hy with hy
      subst hy
      have := cells_spot (hcell 0 (by omega))
      simpa [Addr.add] using this) (.inr ⟨a, rfl, hl, hm, hz', hcell, hwz⟩)
    exact ⟨some a, len, cap, ws, rfl, h1, h2⟩
theorem list9 {l : List Value} (h : l.length = 9) : ∃ a b c d e f g i j, l = [a, b, c, d, e, f, g, i, j] := by
  match l, h with
  | [a, b, c, d, e, f, g, i, j], _ => exact ⟨a, b, c, d, e, f, g, i, j, rfl⟩
theorem c9 : Tryz.prog.cellsOf 26 = 9 := by kernel_rfl
theorem c2 : Tryz.prog.cellsOf 24 = 2 := by kernel_rfl
theorem ci : Tryz.prog.cellsOf 3 = 1 := by kernel_rfl
theorem cb : Tryz.prog.cellsOf 4 = 1 := by kernel_rfl
theorem cst : Tryz.prog.cellsOf 9 = 1 := by kernel_rfl
theorem cs : Tryz.prog.cellsOf 22 = 1 := by kernel_rfl
set_option maxRecDepth 100000 in
set_option maxHeartbeats 1600000 in
theorem open_number {w : World} {c d : Value} {H : Type} {enc : TypeId × Value → H} {fuel : Nat} {x : DataW H × List MemPlace} {held : Bool}
    (h : DataW.trod enc Tryz.prog w 0 (fun _ => true) held fuel 24 [c, d] = some x) : ∃ (neg : Bool) (A : Option Addr) (n k : Nat) (ws : List Nat), c = .bool neg ∧ d = .slice A n k ∧ (∀ x ∈ ws, x < Dg.W64) ∧ Rd w (.slice A n k) (cU ws) := by
  obtain ⟨xs, n, _, _, _, hxl, hf⟩ := DataW.trod_struct Tryz.underlying24 h
  have hxl2 : xs.length = 2 := hxl
  have h0 := hf 0 _ rfl
  have h1 := hf 1 _ rfl
  simp only [List.getElem_toArray, List.getElem_cons_zero, List.getElem_cons_succ, cb, cs, List.drop_zero, List.drop_succ_cons, List.take_succ_cons, List.take_zero] at h0 h1
  rw [List.getElem?_eq_getElem (by omega)] at h0 h1
  obtain ⟨neg, e0, _⟩ := DataW.trod_bool Tryz.underlying4 h0
  obtain ⟨A, n, k, ws, rfl, hw, hr⟩ := rd_of_open h1
  simp at e0
  exact ⟨neg, A, n, k, ws, e0, rfl, hw, hr⟩
set_option maxRecDepth 100000 in
set_option maxHeartbeats 1600000 in
theorem open_value {w : World} {v : Value} {H : Type} {enc : TypeId × Value → H} {d : DataW H} {p : List MemPlace} {r : Reach} {base : Nat} {held : Bool} (hv : Value.okWide Tryz.prog w r base 26 v)
    (h : DataW.Trod enc Tryz.prog w 0 (fun _ => true) held 26 v d p) :
    ∃ (k : Int) (t : Bool) (s : ByteArray) (neg ineg : Bool) (A A2 A3 A4 : Option Addr) (n c n2 c2 n3 c3 n4 c4 : Nat) (ws den : List Nat),
      v = .agg #[.int .i64 k, .bool t, .string s, .bool neg, .slice A n c, .slice A2 n2 c2, .bool ineg, .slice A3 n3 c3, .slice A4 n4 c4] ∧
      (∀ x ∈ ws, x < Dg.W64) ∧ Rd w (.slice A n c) (cU ws) ∧ (∀ x ∈ den, x < Dg.W64) ∧ Rd w (.slice A2 n2 c2) (cU den) := by
  obtain ⟨cs0, rfl, hsz⟩ := okWide_struct Tryz.underlying26 hv
  rw [c9] at hsz
  obtain ⟨l, rfl⟩ : ∃ l : List Value, cs0 = l.toArray := ⟨cs0.toList, by simp⟩
  obtain ⟨a0, a1, a2, a3, a4, a5, a6, a7, a8, rfl⟩ := list9 (by simpa using hsz)
  obtain ⟨fuel, hf⟩ := h
  simp only [Value.cells] at hf
  obtain ⟨xs, n, _, _, _, hxl, hf⟩ := DataW.trod_struct Tryz.underlying26 hf
  have hxl2 : xs.length = 7 := hxl
  have h0 := hf 0 _ rfl
  have h1 := hf 1 _ rfl
  have h2 := hf 2 _ rfl
  have h3 := hf 3 _ rfl
  have h4 := hf 4 _ rfl
  have h5 := hf 5 _ rfl
  have h6 := hf 6 _ rfl
  simp only [List.getElem_toArray, List.getElem_cons_zero, List.getElem_cons_succ, ci, cb, cst, cs, c2, List.drop_zero, List.drop_succ_cons, List.take_succ_cons, List.take_zero] at h0 h1 h2 h3 h4 h5 h6
  rw [List.getElem?_eq_getElem (by omega)] at h0 h1 h2 h3 h4 h5 h6
  obtain ⟨k, e0, _⟩ := DataW.trod_int Tryz.underlying3 h0
  obtain ⟨t, e1, _⟩ := DataW.trod_bool Tryz.underlying4 h1
  obtain ⟨s, e2, _⟩ := DataW.trod_string Tryz.underlying9 h2
  obtain ⟨neg, A, n1, c1, ws, e3, e4, hw, hr⟩ := open_number h3
  obtain ⟨A2, n2, k2, den, e5, hw2, hr2⟩ := rd_of_open h4
  obtain ⟨ineg, A3, n3, k3, _, e6, e7, _, _⟩ := open_number h5
  obtain ⟨A4, n4, k4, _, e8, _, _⟩ := rd_of_open h6
  simp at e0 e1 e2
  subst e0 e1 e2 e3 e4 e5 e6 e7 e8
  exact ⟨k, t, s, neg, ineg, A, A2, A3, A4, n1, c1, n2, k2, n3, k3, n4, k4, ws, den, rfl, hw, hr, hw2, hr2⟩
end Go.Proofs.YtgooioafmddneabGreatDoor
