/-
  WHAT ALL WALKS OF THIS SEAT SHARE: a slice of bytes that can be read ('Bytes'), and how that fact is carried from world to world.
-/
import Derived.Test.Qxb6603877aRows
import Derived.WalkKit
import Derived.WalkSpells
import Derived.WalkLawsBesides
import Derived.ProofKit
import Derived.OpenShut
namespace Go.Proofs.Qxb6603877a
open Go.RowKit Go.WideShapes

/-- The slice (address a, length len) holds the bytes zs in the world w. -/
def Bytes (w : World) (a : Option Addr) (len : Nat) (zs : List Nat) : Prop :=
  zs.length = len ∧ (∀ z ∈ zs, z < 256) ∧ (0 < len → ∃ b o, a = some ⟨b, o, none⟩ ∧ b < w.heap.size ∧ ∀ i, i < len → w.cell? ⟨b, o + i, none⟩ = some (.int .u8 ((zs.getD i 0 : Nat) : Int)))

theorem Bytes.below {w w' : World} {a : Option Addr} {len : Nat} {zs : List Nat} (h : Bytes w a len zs) (hb : Below w.heap.size w w') : Bytes w' a len zs := by
  refine ⟨h.1, h.2.1, fun hp => ?_⟩
  obtain ⟨b, o, rfl, hlt, hc⟩ := h.2.2 hp
  exact ⟨b, o, rfl, Nat.lt_of_lt_of_le hlt hb.size, fun i hi => (hb.cell (by exact hlt)).trans (hc i hi)⟩

theorem Bytes.lt {w : World} {a : Option Addr} {len : Nat} {zs : List Nat} (h : Bytes w a len zs) (k : Nat) : zs.getD k 0 < 256 := by
  by_cases hk : k < zs.length
  · rw [List.getD_eq_getElem?_getD, List.getElem?_eq_getElem hk]; exact h.2.1 _ (List.getElem_mem _)
  · simp [List.getD_eq_getElem?_getD, List.getElem?_eq_none (by omega : zs.length ≤ k)]

/-- What the shell tells of a slice of bytes that came in, as 'Bytes'. -/
theorem Bytes.ofRow {w : World} {a : Option Addr} {len cap : Nat} {zs : List Int}
    (h : (a = none ∧ len = 0 ∧ cap = 0 ∧ zs = []) ∨ ∃ x, a = some x ∧ len ≤ cap ∧ cap ≤ maxLen ∧ zs.length = cap ∧ (∀ i, i < zs.length → w.cell? (x.add i) = some (.int .u8 (zs.getD i 0))) ∧ ∀ n ∈ zs, (Lit.int .u8 n).wf = true) :
    ∃ bs, Bytes w a len bs := by
  rcases h with ⟨rfl, rfl, rfl, rfl⟩ | ⟨x, rfl, hl, hm, hz, hc, hwf⟩
  · exact ⟨[], rfl, by simp, fun h => absurd h (by omega)⟩
  · have hb : ∀ n ∈ zs, 0 ≤ n ∧ n < 256 := fun n hn => by
      have := bounds_u8 (hwf n hn)
      omega
    refine ⟨(zs.take len).map Int.toNat, by simp; omega, ?_, fun hp => ?_⟩
    · intro z hzm
      obtain ⟨n, hn, rfl⟩ := List.mem_map.1 hzm
      have := hb n (List.mem_of_mem_take hn)
      omega
    · obtain ⟨b, o, sp⟩ := x
      have h0 := hc 0 (by omega)
      have hsp : sp = none := by simpa [Addr.add] using World.cell?_spot h0
      subst hsp
      have hlt : b < w.heap.size := by simpa [Addr.add] using World.block_lt_of_cell? w _ h0
      refine ⟨b, o, rfl, hlt, fun i hi => ?_⟩
      have h1 := hc i (by omega)
      have hi2 : i < zs.length := by omega
      rw [add_plain] at h1
      rw [h1]
      have h3 := hb zs[i] (List.getElem_mem _)
      simp only [List.getD_eq_getElem?_getD, List.getElem?_map, List.getElem?_take, if_pos hi, List.getElem?_eq_getElem hi2, Option.map_some, Option.getD_some]
      rw [Int.toNat_of_nonneg h3.1]

theorem row_len {w : World} {a : Option Addr} {len cap : Nat} {zs : List Int}
    (h : (a = none ∧ len = 0 ∧ cap = 0 ∧ zs = []) ∨ ∃ x, a = some x ∧ len ≤ cap ∧ cap ≤ maxLen ∧ zs.length = cap ∧ (∀ i, i < zs.length → w.cell? (x.add i) = some (.int .u8 (zs.getD i 0))) ∧ ∀ n ∈ zs, (Lit.int .u8 n).wf = true) :
    len ≤ 9223372036854775807 := by
  rcases h with ⟨_, rfl, _, _⟩ | ⟨x, _, hl, hm, _⟩
  · omega
  · unfold maxLen at hm; omega

end Go.Proofs.Qxb6603877a
