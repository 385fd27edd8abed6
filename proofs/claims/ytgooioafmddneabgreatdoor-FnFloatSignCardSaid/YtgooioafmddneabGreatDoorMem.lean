/- What a slice in memory reads as; small laws for the walks. No program is named here. -/
import Derived.WalkKit
import Derived.WalkLawsBesides
import Derived.Deep.AppendLies
import Derived.Test.YtgooioafmddneabGreatDoorMath
namespace Go.Proofs.YtgooioafmddneabGreatDoor
open Go.RowKit

theorem hide {p : Prop} (h : p) : Hid p := h

/-- The slice value v reads as the cells xs. -/
def Rd (w : World) (v : Value) (xs : List Value) : Prop :=
  ∃ A c, v = .slice A xs.length c ∧ xs.length ≤ c ∧ c ≤ maxLen ∧
    (0 < xs.length → ∃ b o, A = some ⟨b, o, none⟩ ∧ b < w.heap.size ∧ ∀ j u, xs[j]? = some u → w.cell? ⟨b, o + j, none⟩ = some u)

def cI (l : List Nat) : List Value := l.map fun d : Nat => Value.int .i64 (d : Int)
def cU (l : List Nat) : List Value := l.map fun d : Nat => Value.int .u64 (d : Int)
def cB (l : List Nat) : List Value := l.map fun d : Nat => Value.int .u8 (d : Int)
theorem cI_len (l : List Nat) : (cI l).length = l.length := by simp [cI]
theorem cU_len (l : List Nat) : (cU l).length = l.length := by simp [cU]
theorem cB_len (l : List Nat) : (cB l).length = l.length := by simp [cB]
theorem cI_snoc (l : List Nat) (d : Nat) : cI l ++ [Value.int .i64 (d : Int)] = cI (l ++ [d]) := by simp [cI]
theorem cU_snoc (l : List Nat) (d : Nat) : cU l ++ [Value.int .u64 (d : Int)] = cU (l ++ [d]) := by simp [cU]
theorem cI_at {l : List Nat} {j : Nat} (h : j < l.length) : (cI l)[j]? = some (Value.int .i64 ((l.getD j 0 : Nat) : Int)) := by
  simp [cI, List.getElem?_map, List.getElem?_eq_getElem h, List.getD]
theorem cU_at {l : List Nat} {j : Nat} (h : j < l.length) : (cU l)[j]? = some (Value.int .u64 ((l.getD j 0 : Nat) : Int)) := by
  simp [cU, List.getElem?_map, List.getElem?_eq_getElem h, List.getD]
theorem cB_at {l : List Nat} {j : Nat} (h : j < l.length) : (cB l)[j]? = some (Value.int .u8 ((l.getD j 0 : Nat) : Int)) := by
  simp [cB, List.getElem?_map, List.getElem?_eq_getElem h, List.getD]

theorem Rd.keep {w w' : World} {v : Value} {xs : List Value} (h : Rd w v xs) (hs : w.heap.size ≤ w'.heap.size) (hk : ∀ p : Addr, p.block < w.heap.size → w'.cell? p = w.cell? p) : Rd w' v xs := by
  obtain ⟨A, c, hv, h1, h2, h3⟩ := h
  refine ⟨A, c, hv, h1, h2, fun hn => ?_⟩
  obtain ⟨b, o, hA, hb, hc⟩ := h3 hn
  exact ⟨b, o, hA, by omega, fun j u hu => (hk _ hb).trans (hc j u hu)⟩
theorem Rd.below {w w' : World} {v : Value} {xs : List Value} (h : Rd w v xs) (hb : Below w.heap.size w w') : Rd w' v xs := h.keep hb.size fun _ hp => hb.cell hp
theorem Rd.alloc {w : World} {v : Value} {xs : List Value} (h : Rd w v xs) (o : Obj) : Rd (w.alloc o) v xs := h.below ((Below.refl _ _).alloc (Nat.le_refl _) o)
theorem Rd.drew {w : World} {v : Value} {xs : List Value} (h : Rd w v xs) : Rd w.drew v xs := h
theorem Rd.drewN {w : World} {v : Value} {xs : List Value} (h : Rd w v xs) (n : Nat) : Rd (w.drewN n) v xs := h.keep (Nat.le_refl _) fun _ _ => rfl
theorem Rd.nil_ (w : World) (A : Option Addr) (c : Nat) (hc : c ≤ maxLen) : Rd w (.slice A 0 c) [] := ⟨A, c, rfl, by simp, hc, fun h => absurd h (by simp)⟩
theorem Rd.of_own {w : World} {base : Nat} {e : TypeId} {v : Value} {n : Nat} {xs : List Value} (h : w.ownsRow base e 1 v n xs) : Rd w v xs := by
  have hl := h.1
  rcases h.2 with ⟨rfl, rfl⟩ | ⟨g, cap, cur, rfl, hb, hg, hnc, hcm, hcs, ht⟩
  · have : xs = [] := List.eq_nil_of_length_eq_zero (by simpa using hl)
    subst this
    exact Rd.nil_ _ _ _ (by simp [maxLen])
  · rw [Nat.mul_one] at hl
    refine ⟨_, cap, by rw [hl], by omega, hcm, fun _ => ⟨g, 0, rfl, (Array.getElem?_eq_some_iff.1 hg).1, fun j u hu => ?_⟩⟩
    have := h.cells (g := g) rfl j u hu
    rw [Addr.add_lit] at this
    exact this
/-- A slice that is not empty: where it lies. -/
theorem Rd.pos {w : World} {v : Value} {xs : List Value} (h : Rd w v xs) (hn : 0 < xs.length) :
    ∃ b o c, v = .slice (some ⟨b, o, none⟩) xs.length c ∧ xs.length ≤ c ∧ c ≤ 9223372036854775807 ∧ b < w.heap.size ∧ ∀ j u, xs[j]? = some u → w.cell? ⟨b, o + j, none⟩ = some u := by
  obtain ⟨A, c, hv, h1, h2, h3⟩ := h
  obtain ⟨b, o, rfl, hb, hc⟩ := h3 hn
  exact ⟨b, o, c, hv, h1, by simpa [maxLen] using h2, hb, hc⟩
theorem Rd.shape {w : World} {v : Value} {xs : List Value} (h : Rd w v xs) : ∃ A n c, v = .slice A n c := by
  obtain ⟨A, c, hv, _⟩ := h
  exact ⟨A, _, c, hv⟩
/-- A slice that is empty. -/
theorem Rd.zero {w : World} {v : Value} (h : Rd w v []) : ∃ A c, v = .slice A 0 c ∧ c ≤ 9223372036854775807 := by
  obtain ⟨A, c, hv, _, h2, _⟩ := h
  exact ⟨A, c, hv, by simpa [maxLen] using h2⟩
/-- Whatever its length: the value, and its cells where there are any. -/
theorem Rd.any {w : World} {v : Value} {xs : List Value} (h : Rd w v xs) :
    ∃ A c, v = .slice A xs.length c ∧ xs.length ≤ c ∧ c ≤ 9223372036854775807 ∧
      (0 < xs.length → ∃ b o, A = some ⟨b, o, none⟩ ∧ b < w.heap.size ∧ ∀ j u, xs[j]? = some u → w.cell? ⟨b, o + j, none⟩ = some u) := by
  obtain ⟨A, c, hv, h1, h2, h3⟩ := h
  exact ⟨A, c, hv, h1, by simpa [maxLen] using h2, h3⟩

/-- 'append(out, x)', one element onto a row of the call's own. -/
theorem wpList_app1 {P : Program} (w : World) {ops : Array Oper} {rest : List Oper} {o : Oper} {a : Act} {Q : Exit → Act → World → Prop} (hgd : o.guard = none) (s x : Operand) (t : TypeId)
    (ho : o.op = .call { callee := .builtin .append, args := #[s, x], argTypes := #[t, t] })
    (base : Nat) (e : TypeId) (i : TypeInfo) (z : Value) (bytes : Nat) (ht : P.underlying t = some (.slice e)) (hi : P.info? e = some i) (hz : i.zero = some z)
    (hsize : i.size = 1) (hby : i.bytes = bytes) (hzs : z.cells.size = 1) (h8 : bytes ≤ 8)
    (v : Value) (n : Nat) (xs : List Value) (u : Value) (hs : a.eval s = v) (g : Nat) (hx : a.eval x = .slice (some ⟨g, 0, none⟩) 1 1) (hcell : w.cell? ⟨g, 0, none⟩ = some u) (hu : u.oneCell' = true)
    (hown : w.ownsRow base e 1 v n xs) (hn : n ≤ 1000000000000) (hbase : base ≤ w.heap.size)
    (h : ∀ v' w', w'.ownsRow base e 1 v' (n + 1) (xs ++ [u]) → Below base w w' → wpList P ops Q rest (a.put o.dst v') w') : wpList P ops Q (o :: rest) a w := by
  refine wpList_append_own w hgd s x t ho base e i z 1 bytes ht hi hz hsize hby hzs (by omega) v n xs hs hown ⟨g, 0, none⟩ 1 1 [u] hx rfl ?_ ?_ (by simp only [maxLen]; omega) ?_ hbase ?_
  · intro j u' hj
    match j, hj with
    | 0, hj => simp at hj; subst hj; simpa [Addr.add] using hcell
  · intro u' hu'; simp at hu'; subst hu'; exact hu
  · have : (n + 1) * bytes ≤ (n + 1) * 8 := Nat.mul_le_mul_left _ h8
    omega
  · intro v' w' hown' hg _
    refine h v' w' hown' ⟨hg.os, hg.tape, hg.output, hg.size, fun k hk => hg.block k (by omega) (fun e => ?_)⟩
    have := (hown.lt k e.symm).1
    omega

theorem cell_new1 (w : World) (u : Value) (t : TypeId) : (w.alloc (.cells #[u] t)).cell? ⟨w.heap.size, 0, none⟩ = some u := by simp [World.cell?_alloc_new]
theorem below_alloc {w w' : World} {o : Obj} {B : Nat} (h : Below B (w.alloc o) w') (hB : B ≤ w.heap.size) : Below B w w' := ((Below.refl B w).alloc hB o).trans h
theorem belowN {B : Nat} {a w : World} (h : Below B a w) (n : Nat) : Below B a (w.drewN n) := ⟨h.os, h.tape, h.output, h.size, h.block⟩
theorem below_of_grown {w w' : World} {row : Option Nat} {base : Nat} (hg : w.grownBy w' row) (hb : base ≤ w.heap.size) (hr : ∀ k, row = some k → base ≤ k) : Below base w w' :=
  (Below.refl _ _).grown hg hb hr
theorem of_digit {x : Nat} (hx : x ≤ 18446744073709551615) (j : Nat) : wrap64 (bits .and .u64 ((x : Int) / 2 ^ (16 * j)) 65535) = ((x / 65536 ^ j % 65536 : Nat) : Int) := by
  have e1 : ((x : Int) / 2 ^ (16 * j)) = ((x / 2 ^ (16 * j) : Nat) : Int) := by rw [Int.natCast_ediv, Int.natCast_pow]; rfl
  have h1 : x / 2 ^ (16 * j) ≤ x := Nat.div_le_self _ _
  rw [e1, show (65535 : Int) = ((65535 : Nat) : Int) from rfl, u64_and_nat _ _ (by omega) (by omega), show (65535 : Nat) = 2 ^ 16 - 1 from rfl, Nat.and_two_pow_sub_one_eq_mod, Dg.pow16, IntWalk.wrap64_in _ (by omega)]
theorem snoc_lt {B d : Nat} {l : List Nat} (h : ∀ x ∈ l, x < B) (hd : d < B) : ∀ x ∈ l ++ [d], x < B := by
  intro x hx
  rcases List.mem_append.1 hx with hx | hx
  · exact h x hx
  · rw [List.mem_singleton.1 hx]; exact hd
theorem own_le {g B : Nat} (h : g = B) : ∀ k, some g = some k → B ≤ k := by
  intro k hk
  injection hk with hk
  omega
theorem ret_bool {a b : Bool} (h : a = b) : Ending.returned (.bool a) = .returned (.bool b) := by rw [h]
theorem ret_int {k : IntKind} {a b : Int} (h : a = b) : Ending.returned (.int k a) = .returned (.int k b) := by rw [h]


/-- Block g is just the cells cs, none frozen. -/
def Blk (w : World) (g : Nat) (t : TypeId) (cs : Array Value) : Prop := w.heap[g]? = some (.cells cs t (0, 0))
section
variable {w w' : World} {g : Nat} {t : TypeId} {cs : Array Value}
theorem Blk.lt (h : Blk w g t cs) : g < w.heap.size := by
  rcases Nat.lt_or_ge g w.heap.size with hlt | hge
  · exact hlt
  · unfold Blk at h; rw [Array.getElem?_eq_none hge] at h; cases h
theorem Blk.cell (h : Blk w g t cs) (i : Nat) : w.cell? ⟨g, i, none⟩ = cs[i]? := cell_of_row w g i cs t (0, 0) h
theorem Blk.frozen (h : Blk w g t cs) (i : Nat) : w.frozen? ⟨g, i, none⟩ = false := by
  unfold Blk at h
  simp [World.frozen?, h]
theorem Blk.new (w : World) (t : TypeId) (cs : Array Value) : Blk (w.alloc (.cells cs t)) w.heap.size t cs := heap_alloc_new w _
theorem Blk.drew (h : Blk w g t cs) : Blk w.drew g t cs := h
theorem Blk.alloc (h : Blk w g t cs) (o : Obj) : Blk (w.alloc o) g t cs := (Below.heap_alloc w o g h.lt).trans h
theorem Blk.set_ (h : Blk w g t cs) (i : Nat) (u : Value) : Blk (w.setCell ⟨g, i, none⟩ u) g t (cs.setIfInBounds i u) := by
  unfold Blk at h ⊢
  simp [World.setCell, Array.getElem?_modify, h]
theorem Blk.far (h : Blk w g t cs) {p : Addr} (hp : g ≠ p.block) (u : Value) : Blk (w.setCell p u) g t cs := (Below.heap_setCell w p u g hp).trans h
theorem Blk.below {B : Nat} (h : Blk w g t cs) (hb : Below B w w') (hg : g < B) : Blk w' g t cs := (hb.block g hg).trans h
end

theorem only_setCell {a w : World} {g : Nat} (h : a.grownBy w (some g)) {p : Addr} (hp : p.block = g ∨ a.heap.size ≤ p.block) (u : Value) : a.grownBy (w.setCell p u) (some g) :=
  ⟨h.os, h.tape, h.output, by simpa [World.setCell] using h.size, fun i hi hne => (Below.heap_setCell w p u i (by
    rintro rfl
    rcases hp with hp | hp
    · exact hne (by rw [hp])
    · omega)).trans (h.block i hi hne)⟩
/-- A value that is no integer. -/
def noInt : Value → Bool | .int _ _ => false | _ => true
/-- What reads as integers does not lie in a block without integers: it is kept when that block is written. -/
theorem Rd.keepInts {w w' : World} {v : Value} {xs : List Value} (hx : ∀ u ∈ xs, noInt u = false) (h : Rd w v xs) {g : Nat} {t : TypeId} {cs : Array Value} (hk : Blk w g t cs) (hn : ∀ (i : Nat) (y : Value), cs[i]? = some y → noInt y = true) (hg : w.grownBy w' (some g)) : Rd w' v xs := by
  obtain ⟨A, c, hv, h1, h2, h3⟩ := h
  refine ⟨A, c, hv, h1, h2, fun hp => ?_⟩
  obtain ⟨b, o, hA, hb, hc⟩ := h3 hp
  have hbg : b ≠ g := by
    rintro rfl
    have h0 := hc 0 _ (List.getElem?_eq_getElem hp)
    rw [hk.cell] at h0
    have h4 := hn _ _ h0
    rw [hx _ (List.getElem_mem hp)] at h4
    cases h4
  exact ⟨b, o, hA, by have := hg.size; omega, fun j u hu => (World.cell?_of_block (hg.block b hb (fun e => hbg (by injection e)))).trans (hc j u hu)⟩
theorem cI_int (l : List Nat) : ∀ u ∈ cI l, noInt u = false := by
  intro u hu
  obtain ⟨d, _, rfl⟩ := List.mem_map.1 hu
  rfl
theorem cU_int (l : List Nat) : ∀ u ∈ cU l, noInt u = false := by
  intro u hu
  obtain ⟨d, _, rfl⟩ := List.mem_map.1 hu
  rfl

/-- How many elements a slot's slice has: for a loop's measure. -/
def lenOf : Value → Nat | .slice _ n _ => n | _ => 0
end Go.Proofs.YtgooioafmddneabGreatDoor
