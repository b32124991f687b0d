/-
  THE WALKS OF cloneBytes (9), ZZpolymod (10).
-/
import Derived.Test.Qxb6603877aPoly
namespace Go.Proofs.Qxb6603877a
open Go.RowKit

theorem Try.info5 : (Try.prog.info? 5).map (fun i => (i.zero, i.size, i.bytes)) = some (some (.int .u8 0), 1, 1) := by kernel_rfl

/-- A list of bytes as cells. -/
def cellsOf (zs : List Nat) : List Value := zs.map fun z : Nat => Value.int .u8 (z : Int)

theorem cellsOf_get (zs : List Nat) (i : Nat) (h : i < zs.length) : (cellsOf zs)[i]? = some (.int .u8 ((zs.getD i 0 : Nat) : Int)) := by
  simp [cellsOf, h]
theorem cellsOf_len (zs : List Nat) : (cellsOf zs).length = zs.length := by simp [cellsOf]
theorem cellsOf_set (zs : List Nat) (i z : Nat) : (cellsOf zs).set i (.int .u8 (z : Int)) = cellsOf (zs.set i z) := by
  simp [cellsOf, List.map_set]

/-- The first k of zs, then noughts. -/
def part (zs : List Nat) (k : Nat) : List Nat := zs.take k ++ List.replicate (zs.length - k) 0
theorem part_zero (zs : List Nat) : part zs 0 = List.replicate zs.length 0 := by simp [part]
theorem part_full (zs : List Nat) (k : Nat) (h : zs.length ≤ k) : part zs k = zs := by simp [part, List.take_of_length_le h, Nat.sub_eq_zero_of_le h]
theorem part_len (zs : List Nat) (k : Nat) (h : k ≤ zs.length) : (part zs k).length = zs.length := by simp [part]; omega
theorem part_set (zs : List Nat) (k : Nat) (h : k < zs.length) : (part zs k).set k (zs.getD k 0) = part zs (k + 1) := by
  unfold part
  rw [List.set_append, if_neg (by simp; omega), List.length_take, Nat.min_eq_left (by omega), Nat.sub_self, List.take_succ_eq_append_getElem h]
  obtain ⟨m, hm⟩ : ∃ m, zs.length - k = m + 1 := ⟨zs.length - k - 1, by omega⟩
  rw [hm, List.replicate_succ, List.set_cons_zero, show zs.length - (k + 1) = m by omega, List.getD_eq_getElem?_getD, List.getElem?_eq_getElem h, List.append_assoc]
  rfl
theorem made_u8 (n : Nat) : (madeCells #[Value.int .u8 0] n).toList = cellsOf (List.replicate n 0) := by
  rw [toList_madeCells_one]
  simp [cellsOf]

/-- A row of the call's own is a slice of bytes that can be read. -/
theorem Bytes.ofOwn {w : World} {base g n cap : Nat} {zs : List Nat} (h : w.ownsRow base 5 1 (.slice (some ⟨g, 0, none⟩) n cap) n (cellsOf zs)) (hz : ∀ z ∈ zs, z < 256) : Bytes w (some ⟨g, 0, none⟩) n zs := by
  have hl : zs.length = n := by have := h.1; rw [cellsOf_len] at this; omega
  refine ⟨hl, hz, fun _ => ⟨g, 0, rfl, (h.lt g rfl).2, fun i hi => ?_⟩⟩
  rw [Nat.zero_add, h.cellAt i (by omega)]
  exact cellsOf_get zs i (by omega)

set_option maxHeartbeats 400000 in
theorem clone_some (x : Addr) (len cap : Nat) (zs : List Nat) (w : World) (hB : Bytes w (some x) len zs) (hm : len ≤ 1000000000) :
    Calls Try.prog 9 #[.slice (some x) len cap] w fun e w' => e = .returned (.slice (some ⟨w.heap.size, 0, none⟩) len len) ∧ w'.ownsRow w.heap.size 5 1 (.slice (some ⟨w.heap.size, 0, none⟩) len len) len (cellsOf zs) ∧ Below w.heap.size w w' := by
  obtain ⟨i0, hi, hz0, hz1, hz2⟩ := info_parts Try.info5
  have hnil : ∀ W, (binOp .eql 22 (.slice (some x) len cap) (.slice none 0 0)).run Try.prog W = .ok (.bool false) W := fun W => Lib.run_eql_slice_nil W _ _ _ _ _ _ _ Try.underlying22
  have hz := hB.lt
  have hl := hB.1
  go_enter Try.func9, Try.ntmps9
  go_wp2_with (at_make; refine wpList_make_full _ rfl _ _ 22 rfl w.heap.size 5 i0 (.int .u8 0) 1 Try.underlying22 hi hz0 hz1 _ _ _ _ len rfl rfl rfl rfl (by rw [hz2]; omega) (by unfold maxLen; omega) (Nat.le_refl _) ?_)
  intro w0 hown0 hgrow0
  rw [made_u8] at hown0
  have hb0 : Below w.heap.size w w0 := (Below.refl _ _).grown hgrow0 (Nat.le_refl _) (fun k h => by cases h)
  clear hgrow0 hi hz0 hz1 hz2 i0 hnil
  go_wp2
  go_loopw [4] (fun i wr => ∃ k : Nat, k ≤ len ∧ i = .int .i64 k ∧ wr.ownsRow w.heap.size 5 1 (.slice (some ⟨w.heap.size, 0, none⟩) len len) len (cellsOf (part zs k)) ∧ Below w.heap.size w wr) (fun i _ => len - (intOf i).toNat)
  case atStart => exact ⟨0, Nat.zero_le _, rfl, by rw [part_zero, hl]; exact hown0, hb0⟩
  case round =>
    obtain ⟨k, hk, rfl, hown, hb⟩ := hrel
    clear hown0 hb0
    by_cases hlt : k < len
    · obtain ⟨z, HZ⟩ : ∃ z, Hid (z = zs.getD k 0) := ⟨_, rfl⟩
      have hz8 : z < 256 := by rw [HZ.out]; exact hz k
      obtain ⟨b, o, hx, _, hcW⟩ := (hB.below hb).2.2 (by omega)
      obtain rfl : x = ⟨b, o, none⟩ := Option.some.inj hx
      have hcell : wr.cell? ⟨b, o + k, none⟩ = some (.int .u8 (z : Int)) := by rw [HZ.out]; exact hcW k hlt
      have hdst : wr.cell? ⟨w.heap.size, k, none⟩ = some (.int .u8 (((part zs k).getD k 0 : Nat) : Int)) := by
        rw [hown.cellAt k (by omega)]; exact cellsOf_get _ k (by rw [part_len zs k (by omega)]; omega)
      have hfr := hown.frozenAt k
      have hst := hown.stored k (.int .u8 (z : Int))
      have R1 : (wr.setCell ⟨w.heap.size, k, none⟩ (.int .u8 (z : Int))).ownsRow w.heap.size 5 1 (.slice (some ⟨w.heap.size, 0, none⟩) len len) len (cellsOf (part zs (k + 1))) := by
        rw [← part_set zs k (by omega), ← HZ.out, ← cellsOf_set]; exact hst.1
      have R2 : Below w.heap.size w (wr.setCell ⟨w.heap.size, k, none⟩ (.int .u8 (z : Int))) := hb.setCell (Nat.le_refl _) _
      clear hx hcW hz hB hst hown hb
      go_wp2
      go_roundw
      case rel => exact ⟨k + 1, by omega, by go_num, R1, R2⟩
      case measure => simp [intOf]; omega
    · go_wp2
      go_ret
      rw [part_full zs k (by omega)] at hown
      exact ⟨rfl, hown, hb⟩

set_option maxHeartbeats 400000 in
theorem clone_none (len cap : Nat) (w : World) :
    Calls Try.prog 9 #[.slice none len cap] w fun e w' => e = .returned (.slice none 0 0) ∧ w' = w := by
  have hnil : ∀ W, (binOp .eql 22 (.slice none len cap) (.slice none 0 0)).run Try.prog W = .ok (.bool true) W := fun W => Lib.run_eql_slice_nil W _ _ _ _ _ _ _ Try.underlying22
  go_enter Try.func9, Try.ntmps9
  go_wp2
  go_ret
  exact ⟨rfl, rfl⟩

/-- cloneBytes: whatever slice of bytes: a slice of the same bytes. -/
theorem clone_any (a : Option Addr) (len cap : Nat) (zs : List Nat) (w : World) (hB : Bytes w a len zs) (hm : len ≤ 1000000000) :
    Calls Try.prog 9 #[.slice a len cap] w fun e w' => ∃ a' cap', e = .returned (.slice a' len cap') ∧ Bytes w' a' len zs ∧ Below w.heap.size w w' := by
  cases a with
  | none =>
    have h0 : len = 0 := by
      rcases Nat.eq_zero_or_pos len with h | h
      · exact h
      · obtain ⟨b, o, h, _⟩ := hB.2.2 h; cases h
    subst h0
    refine (clone_none 0 cap w).mono fun e w' ⟨he, hw⟩ => ?_
    subst he; subst hw
    exact ⟨none, 0, rfl, hB, Below.refl _ _⟩
  | some x =>
    refine (clone_some x len cap zs w hB hm).mono fun e w' ⟨he, hown, hb⟩ => ?_
    subst he
    exact ⟨_, _, rfl, Bytes.ofOwn hown hB.2.1, hb⟩

set_option maxHeartbeats 400000 in
/-- ZZpolymod: polymod by another name. -/
theorem zzpoly_any (a : Option Addr) (len cap : Nat) (zs : List Nat) (w : World) (hB : Bytes w a len zs) (hm : len ≤ 1000000000) :
    Calls Try.prog 10 #[.slice a len cap] w fun e w' => e = .returned (.int .u32 (Plain.poly zs : Nat)) ∧ Below w.heap.size w w' := by
  go_enter Try.func10, Try.ntmps10
  go_wp2_with (go_at_call 20; refine (poly_any a len cap zs _ hB hm).mono ?_; rintro e w1 ⟨rfl, hb1⟩)
  go_ret
  exact ⟨rfl, by assumption⟩

end Go.Proofs.Qxb6603877a
