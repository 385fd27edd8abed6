/- The package's nat: set (copied) of more than one word. -/
import Derived.Test.YtgooioafmddneabGreatDoorNatB
namespace Go.Proofs.YtgooioafmddneabGreatDoor
open Go.RowKit
set_option maxHeartbeats 800000 in
theorem natSetK (l : List Nat) (n : Nat) (hn : n = l.length) (h2 : 2 ≤ n) (h3 : n ≤ 100000) (w : World) (A : Option Addr) (c : Nat) (hr : Rd w (.slice A n c) (cU l)) :
    Calls Tryz.prog 61 #[.slice none 0 0, .slice A n c] w (fun e w' => ∃ s, e = .returned s ∧ Rd w' s (cU l) ∧ Below w.heap.size w w') := by
  obtain ⟨b, o, c', hA, hlc, hcm, hb, hcl⟩ := hr.pos (by rw [cU_len]; omega)
  simp only [Value.slice.injEq] at hA
  obtain ⟨rfl, -, rfl⟩ := hA
  have C := hide (natMakeK n h2 (by omega) none 0 0 (by omega) w)
  have hml : (madeCells #[Value.int .u64 0] (n + 4)).size = n + 4 := by rw [made_list]; simp [cU]
  obtain ⟨mc, hmc⟩ : ∃ mc, mc = madeCells #[Value.int .u64 0] (n + 4) := ⟨_, rfl⟩
  rw [← hmc] at C hml
  have hk := heap_alloc_new w (.cells mc 110)
  have HS := hide fun (j : Nat) (v : Value) (hj : (cU l)[j]? = some v) => ((below1 w (.cells mc 110)).cell (p := ⟨b, o + j, none⟩) hb).trans (hcl j v hj)
  have Hn := hide hn
  have Hml := hide hml
  clear hr hcl hn hml hmc
  rw [cU_len] at hlc
  go_enter Tryz.func61, Tryz.ntmps61
  go_wp2_with fail
  refine C.out.mono ?_
  rintro e w' ⟨rfl, rfl⟩
  go_wp2_with (refine wpList_copy_own rfl _ _ _ _ rfl 110 Tryz.underlying68 sizeW' w.heap.size 0 n (n + 4) ⟨b, o, none⟩ n c rfl rfl mc 110 hk (cU l) (by rw [cU_len, ← Hn.out]; simp) (fun j v hj => by rw [Addr.add_lit]; exact HS.out j v hj) (by rw [cU_len, ← Hn.out, Hml.out]; omega) (cU_one' l) ?_)
  go_ret
  have hB := below_setRow (below1 w (.cells mc 110)) (Nat.le_refl _) (cU l ++ mc.toList.drop (cU l).length).toArray
  refine ⟨_, rfl, ?_, hB⟩
  refine rd_block (setRow_heap _ _ _ _ _ _ hk) (by rw [cU_len, Hn.out]) (by omega) (by simp only [maxLen]; omega) fun j u hu => ?_
  rw [List.getElem?_append_left]
  · exact hu
  · exact (List.getElem?_eq_some_iff.1 hu).1
end Go.Proofs.YtgooioafmddneabGreatDoor
