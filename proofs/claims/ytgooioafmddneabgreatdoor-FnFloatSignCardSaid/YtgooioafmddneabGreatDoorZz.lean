/- The laws' zzFits1: that it ends. -/
import Derived.Test.YtgooioafmddneabGreatDoorMem
import Derived.Test.YtgooioafmddneabGreatDoorSpecA
import Derived.BigQuiet
namespace Go.Proofs.YtgooioafmddneabGreatDoor
open Go.RowKit
theorem zzFits2_some (neg : Bool) (A : Option Addr) (n c : Nat) (w : World) :
    Calls Tryz.prog 8 #[.agg #[.bool neg, .slice A n c]] w (fun e w' => (∃ b : Bool, e = .returned (.bool b)) ∧ Below w.heap.size w w') := by
  go_enter Tryz.func8, Tryz.ntmps8
  go_wp2
  all_goals
    go_ret
    exact ⟨⟨_, rfl⟩, below1 _ _⟩
set_option maxRecDepth 100000 in
set_option maxHeartbeats 1600000 in
theorem zzFits1_some (k : Int) (t : Bool) (s : ByteArray) (neg ineg : Bool) (A A2 A3 A4 : Option Addr) (n c n2 c2 n3 c3 n4 c4 : Nat) (w : World) :
    Calls Tryz.prog 4 #[.agg #[.int .i64 k, .bool t, .string s, .bool neg, .slice A n c, .slice A2 n2 c2, .bool ineg, .slice A3 n3 c3, .slice A4 n4 c4]] w
      (fun e w' => (∃ b : Bool, e = .returned (.bool b)) ∧ Below w.heap.size w w') := by
  obtain ⟨box, hbox⟩ : ∃ box : Array Value, box = #[.int .i64 k, .bool t, .string s, .bool neg, .slice A n c, .slice A2 n2 c2, .bool ineg, .slice A3 n3 c3, .slice A4 n4 c4] := ⟨_, rfl⟩
  have HK := hide fun (w1 : World) (hb : Below (w.alloc (.cells box 26)).heap.size (w.alloc (.cells box 26)) w1) => And.intro ((Blk.new w 26 box).below hb (by simp)) (below_alloc (hb.mono (by simp)) (Nat.le_refl w.heap.size))
  rw [hbox] at HK
  clear hbox
  go_enter Tryz.func4, Tryz.ntmps4
  go_wp2_with (go_at_call 8; refine (zzFits2_some _ _ _ _ _).mono ?_; rintro e w2 ⟨⟨b1, rfl⟩, hb2⟩; (first | (obtain ⟨hk, HB⟩ := HK.out _ hb2; have c5 := hk.cell 5; have c6 := hk.cell 6; have c7 := hk.cell 7; have c8 := hk.cell 8; simp only [List.getElem?_toArray, List.getElem?_cons_zero, List.getElem?_cons_succ] at c5 c6 c7 c8) | (have hk' := hk.below hb2 hk.lt; have HB' := HB.trans (hb2.mono HB.size); have c8' := hk'.cell 8; simp only [List.getElem?_toArray, List.getElem?_cons_zero, List.getElem?_cons_succ] at c8')))
  all_goals
    go_ret
    first
    | exact ⟨⟨_, rfl⟩, HB'⟩
    | exact ⟨⟨_, rfl⟩, HB⟩
    | exact ⟨⟨_, rfl⟩, below1 _ _⟩
end Go.Proofs.YtgooioafmddneabGreatDoor
