/-
  THE WALKS OF bchStep (16), bchPack (18).
-/
import Derived.Test.Qxb6603877aField
import Derived.Deep.RegionWith
namespace Go.Proofs.Qxb6603877a
open Go.RowKit

/-- Six coefficients as a value. -/
def six (c0 c1 c2 c3 c4 c5 : Nat) : Array Value := #[.int .u8 (c0 : Int), .int .u8 (c1 : Int), .int .u8 (c2 : Int), .int .u8 (c3 : Int), .int .u8 (c4 : Int), .int .u8 (c5 : Int)]

/-- The remainder times x, the value added; then, coefficient by coefficient, what replaces x^6. -/
def nst (b : List Nat) (t k : Nat) : List Nat := (List.range 6).map fun i => if i < k then b.getD i 0 ^^^ gmul t (gco i) else b.getD i 0
theorem nst_len (b : List Nat) (t k : Nat) : (nst b t k).length = 6 := by simp [nst]
theorem nst_get (b : List Nat) (t k i : Nat) (h : i < 6) : (nst b t k).getD i 0 = if i < k then b.getD i 0 ^^^ gmul t (gco i) else b.getD i 0 := by
  simp [nst, h]
theorem nst_set (b : List Nat) (t k : Nat) (_h : k < 6) : (nst b t k).set k (b.getD k 0 ^^^ gmul t (gco k)) = nst b t (k + 1) := by
  apply List.ext_getElem (by simp [nst])
  intro i h1 h2
  rw [List.getElem_set]
  simp only [nst, List.getElem_map, List.getElem_range]
  by_cases e : k = i
  · subst e; rw [if_pos rfl, if_pos (by omega)]
  · rw [if_neg e]
    by_cases hi : i < k
    · rw [if_pos hi, if_pos (by omega)]
    · rw [if_neg hi, if_neg (by omega)]

theorem xor8 (x y : Nat) (hx : x < 32) (hy : y < 32) : bits BinOp.xor IntKind.u8 (x : Int) (y : Int) = ((x ^^^ y : Nat) : Int) := u8_xor_nat x y (by omega) (by omega)
theorem gmul_lt (a b : Nat) (ha : a < 32) : gmul a b < 32 := mulR_lt a b 5 ha
theorem gco_lt : ∀ j < 6, gco j < 32 := by decide

set_option maxHeartbeats 1000000 in
theorem step_any (c0 c1 c2 c3 c4 c5 v : Nat) (h0 : c0 < 32) (h1 : c1 < 32) (h2 : c2 < 32) (h3 : c3 < 32) (h4 : c4 < 32) (h5 : c5 < 32) (hv : v < 32) (w : World) :
    Calls Try.prog 16 #[.agg #[.int .u8 (c0 : Int), .int .u8 (c1 : Int), .int .u8 (c2 : Int), .int .u8 (c3 : Int), .int .u8 (c4 : Int), .int .u8 (c5 : Int)], .int .u8 (v : Int)] w fun e w' =>
      e = .returned (.agg #[.int .u8 ((v ^^^ gmul c5 18 : Nat) : Int), .int .u8 ((c0 ^^^ gmul c5 29 : Nat) : Int), .int .u8 ((c1 ^^^ gmul c5 21 : Nat) : Int), .int .u8 ((c2 ^^^ gmul c5 20 : Nat) : Int), .int .u8 ((c3 ^^^ gmul c5 22 : Nat) : Int), .int .u8 ((c4 ^^^ gmul c5 29 : Nat) : Int)]) ∧ Below w.heap.size w w' := by
  go_enter Try.func16, Try.ntmps16
  go_wp2
  rw [show (v : Int) % 32 = (v : Int) by omega, show (v : Int) / 32 = 0 by omega, show bits BinOp.xor IntKind.u8 (c0 : Int) 0 = (c0 : Int) from by rw [show (0 : Int) = ((0 : Nat) : Int) from rfl, xor8 c0 0 h0 (by omega), Nat.xor_zero]]
  obtain ⟨bs, HBS⟩ : ∃ bs, Hid (bs = [v, c0, c1, c2, c3, c4]) := ⟨_, rfl⟩
  have hbl : Hid (∀ i, i < 6 → bs.getD i 0 < 32) := by
    show ∀ i, i < 6 → bs.getD i 0 < 32
    intro i hi
    rw [HBS.out]
    rcases (by omega : i = 0 ∨ i = 1 ∨ i = 2 ∨ i = 3 ∨ i = 4 ∨ i = 5) with rfl | rfl | rfl | rfl | rfl | rfl <;> assumption
  generalize hW1 : World.alloc (w.alloc (Obj.cells #[.int .u8 (c0 : Int), .int .u8 (c1 : Int), .int .u8 (c2 : Int), .int .u8 (c3 : Int), .int .u8 (c4 : Int), .int .u8 (c5 : Int)] 32)) (Obj.cells #[.int .u8 0, .int .u8 0, .int .u8 0, .int .u8 0, .int .u8 0, .int .u8 0] 32) = W1
  have hs1 : W1.heap.size = w.heap.size + 1 + 1 := by rw [← hW1]; simp
  have hbel1 : Below w.heap.size w W1 := by
    rw [← hW1]; exact ((Below.refl _ _).alloc (Nat.le_refl _) _).alloc (by simp) _
  have hW1c : Hid (W1.heap[w.heap.size + 1]? = some (Obj.cells #[.int .u8 0, .int .u8 0, .int .u8 0, .int .u8 0, .int .u8 0, .int .u8 0] 32 (0, 0))) := by
    show _ = _
    rw [← hW1]; exact heap_alloc2_new _ _ _
  have hown0 := World.ownsRow_lit (base := w.heap.size) (e := 32) (size := 1) W1 #[.int .u8 (v : Int), .int .u8 (c0 : Int), .int .u8 (c1 : Int), .int .u8 (c2 : Int), .int .u8 (c3 : Int), .int .u8 (c4 : Int)] 6 (by omega) (by decide) (by rfl)
  have hbel0 := (Below.refl W1.heap.size W1).alloc (Nat.le_refl _) (Obj.cells #[.int .u8 (v : Int), .int .u8 (c0 : Int), .int .u8 (c1 : Int), .int .u8 (c2 : Int), .int .u8 (c3 : Int), .int .u8 (c4 : Int)] 32)
  have HS1 : Hid (W1.heap.size = w.heap.size + 1 + 1) := hs1
  clear hW1 hs1
  obtain ⟨N, HN⟩ : ∃ N, Hid (N = W1.heap.size) := ⟨_, rfl⟩
  rw [show w.heap.size + 1 + 1 = N by rw [HN.out, HS1.out]]
  rw [← HN.out] at hown0 hbel0
  go_loopw [7] (fun i wr => ∃ k : Nat, k ≤ 6 ∧ i = .int .i64 (k : Int) ∧ wr.ownsRow w.heap.size 32 1 (.slice (some ⟨N, 0, none⟩) 6 6) 6 (cellsOf (nst bs c5 k)) ∧ Below N W1 wr) (fun i _ => 6 - (intOf i).toNat)
  case atStart => exact ⟨0, Nat.zero_le _, rfl, by rw [HBS.out]; exact hown0, hbel0⟩
  case round =>
    obtain ⟨k, hk, rfl, hown, hb⟩ := hrel
    clear hown0 hbel0
    by_cases hlt : k < 6
    · obtain ⟨x, Hx⟩ : ∃ x, Hid (x = bs.getD k 0) := ⟨_, rfl⟩
      have hx32 : x < 32 := by rw [Hx.out]; exact hbl.out k hlt
      obtain ⟨g, Hg⟩ : ∃ g, Hid (g = gco k) := ⟨_, rfl⟩
      have hg32 : g < 32 := by rw [Hg.out]; exact gco_lt k hlt
      obtain ⟨y, Hy⟩ : ∃ y, Hid (y = gmul c5 g) := ⟨_, rfl⟩
      have hy32 : y < 32 := by rw [Hy.out]; exact gmul_lt c5 g h5
      have hcell : wr.cell? ⟨N, k, none⟩ = some (.int .u8 (x : Int)) := by
        rw [hown.cellAt k (by omega), cellsOf_get _ k (by rw [nst_len]; omega), nst_get _ _ _ _ hlt, if_neg (by omega), Hx.out]
      have hfr := hown.frozenAt k
      have hst := hown.stored k (.int .u8 ((x ^^^ y : Nat) : Int))
      have R1 : (wr.setCell ⟨N, k, none⟩ (.int .u8 ((x ^^^ y : Nat) : Int))).ownsRow w.heap.size 32 1 (.slice (some ⟨N, 0, none⟩) 6 6) 6 (cellsOf (nst bs c5 (k + 1))) := by
        rw [← nst_set bs c5 k hlt, ← Hx.out, ← Hg.out, ← Hy.out, ← cellsOf_set]; exact hst.1
      have R2 : Below N W1 (wr.setCell ⟨N, k, none⟩ (.int .u8 ((x ^^^ y : Nat) : Int))) := hb.setCell (Nat.le_refl _) _
      have hxor := xor8 x y hx32 hy32
      have hmulc : Hid (∀ w0, Calls Try.prog 23 #[.int .u8 (c5 : Int), .int .u8 (g : Int)] w0 fun e w' => e = .returned (.int .u8 (y : Int)) ∧ w0 = w') := by
        show ∀ w0, _
        intro w0; rw [Hy.out]; exact mul_any c5 g h5 hg32 w0
      have hgenc : Hid (∀ w0, Calls Try.prog 24 #[.int .i64 (k : Int)] w0 fun e w' => e = .returned (.int .u8 (g : Int)) ∧ w0 = w') := by
        show ∀ w0, _
        intro w0; rw [Hg.out]; exact bchgen_at k hlt w0
      clear hst hown hb hbel1
      go_wp2
      go_region_with (first | (go_at_call 24; refine (hgenc.out _).mono ?_; rintro e w' ⟨rfl, rfl⟩) | (go_at_call 23; refine (hmulc.out _).mono ?_; rintro e w' ⟨rfl, rfl⟩))
      all_goals go_wp2
      all_goals
        go_roundw
        case rel => exact ⟨k + 1, by omega, by go_num, R1.drew, R2.drew⟩
        case measure => simp [intOf]; omega
    · obtain rfl : k = 6 := by omega
      have e6 : nst bs c5 6 = [v ^^^ gmul c5 18, c0 ^^^ gmul c5 29, c1 ^^^ gmul c5 21, c2 ^^^ gmul c5 20, c3 ^^^ gmul c5 22, c4 ^^^ gmul c5 29] := by
        rw [HBS.out]; rfl
      have hrow : wr.heap[w.heap.size + 1]? = some (Obj.cells #[.int .u8 0, .int .u8 0, .int .u8 0, .int .u8 0, .int .u8 0, .int .u8 0] 32 (0, 0)) := by
        rw [hb.block _ (by rw [HN.out, HS1.out]; omega)]; exact hW1c.out
      have a0 := hown.cellAt 0 (by omega)
      have a1 := hown.cellAt 1 (by omega)
      have a2 := hown.cellAt 2 (by omega)
      have a3 := hown.cellAt 3 (by omega)
      have a4 := hown.cellAt 4 (by omega)
      have a5 := hown.cellAt 5 (by omega)
      rw [e6] at a0 a1 a2 a3 a4 a5
      obtain ⟨r0, H0⟩ : ∃ r, Hid (r = v ^^^ gmul c5 18) := ⟨_, rfl⟩
      obtain ⟨r1, H1⟩ : ∃ r, Hid (r = c0 ^^^ gmul c5 29) := ⟨_, rfl⟩
      obtain ⟨r2, H2⟩ : ∃ r, Hid (r = c1 ^^^ gmul c5 21) := ⟨_, rfl⟩
      obtain ⟨r3, H3⟩ : ∃ r, Hid (r = c2 ^^^ gmul c5 20) := ⟨_, rfl⟩
      obtain ⟨r4, H4⟩ : ∃ r, Hid (r = c3 ^^^ gmul c5 22) := ⟨_, rfl⟩
      obtain ⟨r5, H5⟩ : ∃ r, Hid (r = c4 ^^^ gmul c5 29) := ⟨_, rfl⟩
      rw [← H0.out, ← H1.out, ← H2.out, ← H3.out, ← H4.out, ← H5.out] at a0 a1 a2 a3 a4 a5
      have b0 : wr.cell? ⟨N, 0, none⟩ = some (.int .u8 (r0 : Int)) := a0
      have b1 : wr.cell? ⟨N, 1, none⟩ = some (.int .u8 (r1 : Int)) := a1
      have b2 : wr.cell? ⟨N, 2, none⟩ = some (.int .u8 (r2 : Int)) := a2
      have b3 : wr.cell? ⟨N, 3, none⟩ = some (.int .u8 (r3 : Int)) := a3
      have b4 : wr.cell? ⟨N, 4, none⟩ = some (.int .u8 (r4 : Int)) := a4
      have b5 : wr.cell? ⟨N, 5, none⟩ = some (.int .u8 (r5 : Int)) := a5
      have d0 : wr.cell? ⟨w.heap.size + 1, 0, none⟩ = some (.int .u8 0) := cell_of_row wr _ 0 _ _ _ hrow
      have d1 : wr.cell? ⟨w.heap.size + 1, 1, none⟩ = some (.int .u8 0) := cell_of_row wr _ 1 _ _ _ hrow
      have d2 : wr.cell? ⟨w.heap.size + 1, 2, none⟩ = some (.int .u8 0) := cell_of_row wr _ 2 _ _ _ hrow
      have d3 : wr.cell? ⟨w.heap.size + 1, 3, none⟩ = some (.int .u8 0) := cell_of_row wr _ 3 _ _ _ hrow
      have d4 : wr.cell? ⟨w.heap.size + 1, 4, none⟩ = some (.int .u8 0) := cell_of_row wr _ 4 _ _ _ hrow
      have d5 : wr.cell? ⟨w.heap.size + 1, 5, none⟩ = some (.int .u8 0) := cell_of_row wr _ 5 _ _ _ hrow
      have f0 := frozen_of_row wr _ 0 _ _ hrow
      have f1 := frozen_of_row wr _ 1 _ _ hrow
      have f2 := frozen_of_row wr _ 2 _ _ hrow
      have f3 := frozen_of_row wr _ 3 _ _ hrow
      have f4 := frozen_of_row wr _ 4 _ _ hrow
      have f5 := frozen_of_row wr _ 5 _ _ hrow
      have hbw : Below w.heap.size w wr := hbel1.trans (hb.mono (by rw [HN.out, HS1.out]; omega))
      clear a0 a1 a2 a3 a4 a5 e6 hrow hown hb hbel1 hbl HBS
      go_wp2
      refine bodyPost_ret (v := .agg #[.int .u8 (r0 : Int), .int .u8 (r1 : Int), .int .u8 (r2 : Int), .int .u8 (r3 : Int), .int .u8 (r4 : Int), .int .u8 (r5 : Int)]) ?_ rfl ⟨?_, ?_⟩
      · simp [results, Try.results16, go_sem, d0, d1, d2, d3, d4, d5]
      · rw [H0.out, H1.out, H2.out, H3.out, H4.out, H5.out]
      · exact ((((((hbw.setCell (by simp) _).setCell (by simp) _).setCell (by simp) _).setCell (by simp) _).setCell (by simp) _).setCell (by simp) _)

end Go.Proofs.Qxb6603877a
