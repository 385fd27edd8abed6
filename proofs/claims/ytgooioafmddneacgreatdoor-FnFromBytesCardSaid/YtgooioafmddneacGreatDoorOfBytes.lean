/- An argument of bytes; the thin package's ofBytes by contract. -/
import Derived.Test.YtgooioafmddneacGreatDoorBytes
import Derived.OpenShut
namespace Go.Proofs.YtgooioafmddneacGreatDoor
open Go.RowKit

/-- A slice of bytes that came in: nil, or at an address; it reads as the bytes bs. -/
def Raw (w : World) (A : Option Addr) (n c : Nat) (bs : List Nat) : Prop :=
  bs.length = n ∧ n ≤ c ∧ c ≤ maxLen ∧ (∀ d ∈ bs, d < 256) ∧ ((A = none ∧ n = 0 ∧ c = 0) ∨ ∃ x, A = some x ∧ ∀ j u, (cB bs)[j]? = some u → w.cell? (x.add j) = some u)
theorem Raw.rd {w : World} {A : Option Addr} {n c : Nat} {bs : List Nat} (h : Raw w A n c bs) : Rd w (.slice A n c) (cB bs) := by
  obtain ⟨hl, hnc, hcm, _, hA⟩ := h
  refine ⟨A, c, by rw [cB_len, hl], by rw [cB_len, hl]; exact hnc, hcm, fun hp => ?_⟩
  rw [cB_len] at hp
  rcases hA with ⟨_, h0, _⟩ | ⟨⟨b, o, s⟩, hx, hc⟩
  · omega
  · have h1 := hc 0 _ (cB_at (l := bs) hp)
    have hs : s = none := by simpa [Addr.add] using World.cell?_spot h1
    subst hs
    have hlt := World.block_lt_of_cell? w _ h1
    rw [Addr.add_lit] at hlt
    refine ⟨b, o, hx, hlt, fun j u hu => ?_⟩
    have := hc j u hu
    rw [Addr.add_lit] at this
    exact this
theorem Raw.below {w w' : World} {A : Option Addr} {n c : Nat} {bs : List Nat} (h : Raw w A n c bs) (hb : Below w.heap.size w w') : Raw w' A n c bs := by
  obtain ⟨hl, hnc, hcm, h2, hA⟩ := h
  refine ⟨hl, hnc, hcm, h2, ?_⟩
  rcases hA with h0 | ⟨x, hx, hc⟩
  · exact .inl h0
  · refine .inr ⟨x, hx, fun j u hu => ?_⟩
    have h1 := hc j u hu
    exact (hb.cell (World.block_lt_of_cell? w _ h1)).trans h1

theorem infoB : (Tryz.prog.info? 5).map (fun i => (i.zero, i.size, i.bytes)) = some (some (.int .u8 0), 1, 1) := by kernel_rfl
theorem cB_one (l : List Nat) : ∀ u ∈ cB l, u.oneCell' = true := by
  intro u hu
  obtain ⟨d, _, rfl⟩ := List.mem_map.1 hu
  rfl
/-- The bytes of a row that came in. -/
theorem raw_of {w : World} {a : Option Addr} {len cap : Nat} {zs : List Int}
    (h : (a = none ∧ len = 0 ∧ cap = 0 ∧ zs = []) ∨ ∃ x, a = some x ∧ len ≤ cap ∧ cap ≤ maxLen ∧ zs.length = cap ∧ (∀ i, i < zs.length → w.cell? (x.add i) = some (.int .u8 (zs.getD i 0))) ∧ ∀ n ∈ zs, (Lit.int .u8 n).wf = true) :
    ∃ bs, Raw w a len cap bs := by
  rcases h with ⟨rfl, rfl, rfl, rfl⟩ | ⟨x, rfl, hl, hm, hz, hc, hw⟩
  · exact ⟨[], rfl, by omega, by simp [maxLen], by simp, .inl ⟨rfl, rfl, rfl⟩⟩
  · have hb : ∀ n ∈ zs, 0 ≤ n ∧ n ≤ 255 := fun n hn => bounds_u8 (hw n hn)
    refine ⟨(zs.take len).map Int.toNat, by simp; omega, hl, hm, ?_, .inr ⟨x, rfl, ?_⟩⟩
    · intro d hd
      obtain ⟨z, hz', rfl⟩ := List.mem_map.1 hd
      have := hb z (List.mem_of_mem_take hz')
      omega
    · intro j u hu
      simp only [cB, List.getElem?_map, List.getElem?_take] at hu
      split at hu
      · rename_i hj
        have hjz : j < zs.length := by omega
        rw [List.getElem?_eq_getElem hjz] at hu
        simp only [Option.map_some, Option.some.injEq] at hu
        have h1 := hb zs[j] (List.getElem_mem hjz)
        rw [hc j hjz, ← hu, List.getD_eq_getElem?_getD, List.getElem?_eq_getElem hjz, Option.getD_some, Int.toNat_of_nonneg h1.1]
      · simp at hu
end Go.Proofs.YtgooioafmddneacGreatDoor
