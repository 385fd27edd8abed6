/- The package's nat: make of more than one word, set (copied), shifted to the left. -/
import Derived.Test.YtgooioafmddneabGreatDoorBigA
import Derived.Test.YtgooioafmddneabGreatDoorMathW
import Derived.WalkLawsBesides
import Derived.Lib.SliceRun
import Derived.Laws.CopyOwn
import Derived.OwnWalk
namespace Go.Proofs.YtgooioafmddneabGreatDoor
open Go.RowKit
theorem wpList_make_cap {P : Program} (w : World) {ops : Array Oper} {rest : List Oper} {o : Oper} {a : Act} {Q : Exit → Act → World → Prop}
    (hg : o.guard = none) (l c : Operand) (t : TypeId) (hop : o.op = Op.makeSlice t l c)
    (e : TypeId) (i : TypeInfo) (z : Value) (ht : P.underlying t = some (.slice e)) (hi : P.info? e = some i) (hz : i.zero = some z) (hsize : i.size = 1) (hz1 : z.cells = #[z])
    (kl kc : IntKind) (L C : Int) (n m : Nat) (hl : a.eval l = .int kl L) (hc : a.eval c = .int kc C) (hL : L = (n : Int)) (hC : C = (m : Int)) (hnm : n ≤ m) (hbytes : i.bytes * m ≤ 281474976710656) (h63 : m ≤ 9223372036854775807)
    (hK : wpList P ops Q rest (a.put o.dst (.slice (some ⟨w.heap.size, 0, none⟩) n m)) (w.alloc (.cells (madeCells #[z] m) e))) :
    wpList P ops Q (o :: rest) a w := by
  refine wpList_plain hg fun K hK' => ?_
  have hb' : (i.bytes : Int) * (m : Int) ≤ 281474976710656 := by
    have h : ((i.bytes * m : Nat) : Int) ≤ 281474976710656 := by omega
    rwa [Int.natCast_mul] at h
  have hrun := run_make (P := P) w t e i z ht hi hz kl kc n m (by omega) (by omega) hb' (by omega)
  simp only [Int.toNat_natCast, hsize, Nat.mul_one, hz1] at hrun
  subst hL hC
  unfold Oper.wp
  simp [execOp, hop, hl, hc, hrun, Result.andThen]
  exact hK' _ _ hK
set_option maxRecDepth 100000 in
theorem natMakeK (n : Nat) (h2 : 2 ≤ n) (hn : n ≤ 1000000) (A : Option Addr) (k c : Nat) (hc : c < n) (w : World) :
    Calls Tryz.prog 62 #[.slice A k c, .int .i64 (n : Int)] w (fun e w' => e = .returned (.slice (some ⟨w.heap.size, 0, none⟩) n (n + 4)) ∧ w' = w.alloc (.cells (madeCells #[.int .u64 0] (n + 4)) 110)) := by
  obtain ⟨i0, hi, hz0, hz1, hz2⟩ := info_parts infoW
  go_enter Tryz.func62, Tryz.ntmps62
  go_wp2_with (at_make; refine wpList_make_cap _ rfl _ _ _ rfl 110 i0 (.int .u64 0) Tryz.underlying68 hi hz0 hz1 rfl .i64 .i64 _ _ n (n + 4) rfl rfl ?b1 ?b2 (by omega) ?b3 (by omega) ?_)
  case b1 => omega
  case b2 => omega
  case b3 => rw [hz2]; omega
  go_ret
  exact ⟨rfl, rfl⟩
theorem made_list (n : Nat) : madeCells #[Value.int .u64 0] n = (cU (List.replicate n 0)).toArray := by
  have := toList_madeCells_one (Value.int .u64 0) n
  rw [show cU (List.replicate n 0) = List.replicate n (Value.int .u64 0) by simp [cU], ← this]
theorem rd_block {w : World} {g : Nat} {t : TypeId} {cs : List Value} {n c : Nat} {xs : List Value} (hb : Blk w g t cs.toArray) (hx : xs.length = n) (hn : n ≤ c) (hc : c ≤ maxLen) (hp : ∀ (j : Nat) (u : Value), xs[j]? = some u → cs[j]? = some u) : Rd w (.slice (some ⟨g, 0, none⟩) n c) xs := by
  refine ⟨_, c, by rw [hx], by omega, hc, fun _ => ⟨g, 0, rfl, hb.lt, fun j u hu => ?_⟩⟩
  rw [Nat.zero_add, hb.cell]
  simpa using hp j u hu
theorem sizeW' : (Tryz.prog.info? 110).map (·.size) = some 1 := by kernel_rfl
theorem cU_one' (l : List Nat) : ∀ u ∈ cU l, u.oneCell' = true := by
  intro u hu
  obtain ⟨d, _, rfl⟩ := List.mem_map.1 hu
  rfl
end Go.Proofs.YtgooioafmddneabGreatDoor
