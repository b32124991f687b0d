/-
  THE WALK OF FnEncodeIsHrpSeparatorDataAndValidChecksum (6): the ways that return early; small facts.
-/
import Derived.Test.Qxb6603877aPack
import Derived.Test.Qxb6603877aDecodeMain
namespace Go.Proofs.Qxb6603877a
open Go.RowKit

set_option maxHeartbeats 400000 in
theorem zz14_yes (s : ByteArray) (a : Option Addr) (len cap : Nat) (w : World) (h : s.size + len ≤ 1048576) :
    Calls Try.prog 14 #[.string s, .slice a len cap] w fun e w' => e = .returned (.bool true) ∧ w = w' := by
  go_enter Try.func14, Try.ntmps14
  go_wp2
  go_ret
  exact ⟨rfl, rfl⟩

set_option maxHeartbeats 400000 in
theorem zz14_no (s : ByteArray) (a : Option Addr) (len cap : Nat) (w : World) (h : 1048576 < s.size + len) (h0 : s.size ≤ 9223372036854775807) (h2 : len ≤ 9223372036854775807) :
    Calls Try.prog 14 #[.string s, .slice a len cap] w fun e w' => e = .returned (.bool false) ∧ w = w' := by
  go_enter Try.func14, Try.ntmps14
  go_wp2
  all_goals go_ret
  all_goals exact ⟨rfl, rfl⟩

set_option maxRecDepth 10000 in
set_option maxHeartbeats 400000 in
theorem val_long (s : ByteArray) (a : Option Addr) (len cap : Nat) (w : World) (h : 1048576 < s.size + len) (h0 : s.size ≤ 9223372036854775807) (h2 : len ≤ 9223372036854775807) :
    Calls Try.prog 6 #[.string s, .slice a len cap] w fun e w' => e = .returned (.bool true) ∧ Below w.heap.size w w' := by
  go_enter Try.func6, Try.ntmps6
  go_wp2_with (go_at_call 14; refine (zz14_no s a len cap _ h h0 h2).mono ?_; rintro e w' ⟨rfl, rfl⟩)
  go_ret
  exact ⟨rfl, Below.refl _ _⟩

set_option maxRecDepth 10000 in
set_option maxHeartbeats 400000 in
theorem val_out (s : ByteArray) (a : Option Addr) (len cap : Nat) (w : World) (h : s.size + len ≤ 1048576) (h2 : 524288 < s.size ∨ (s.size ≤ 524288 ∧ 1048576 < 2 * s.size + len)) :
    Calls Try.prog 6 #[.string s, .slice a len cap] w fun e w' => e = .returned (.bool true) ∧ Below w.heap.size w w' := by
  rcases h2 with h1 | ⟨h1, h2⟩
  all_goals
    go_enter Try.func6, Try.ntmps6
    go_wp2_with (go_at_call 14; refine (zz14_yes s a len cap _ h).mono ?_; rintro e w' ⟨rfl, rfl⟩)
    go_ret
    exact ⟨rfl, Below.refl _ _⟩

theorem out_pre {s out : ByteArray} {ds : List Nat} {m : Nat} (h : sbytes out = encB s ds m 6) (k : Nat) (hk : k < s.size) : sb out k = sb s k := by
  rw [sb, sb, h, encB_split, List.append_assoc, List.getD_eq_getElem?_getD, List.getElem?_append_left (by rw [sbytes_len]; exact hk), List.getD_eq_getElem?_getD]
theorem hi_next (s : ByteArray) (k : Nat) (h : k < s.size) : hiPart s k ++ [sb s k / 32] = hiPart s (k + 1) := by
  unfold hiPart
  rw [map_snoc _ _ _ (by rw [sbytes_len]; exact h)]
  rfl
theorem hi_last (s : ByteArray) (k : Nat) (h : s.size ≤ k) : hiPart s k ++ [0] = loPart s 0 := by
  unfold hiPart loPart
  rw [List.take_of_length_le (by rw [sbytes_len]; exact h), List.take_zero, List.map_nil, List.append_nil]
theorem lo_next (s : ByteArray) (k : Nat) (h : k < s.size) : loPart s k ++ [sb s k % 32] = loPart s (k + 1) := by
  unfold loPart
  rw [map_snoc _ _ _ (by rw [sbytes_len]; exact h), ← List.append_assoc]
  rfl
theorem lo_last (s : ByteArray) (ds : List Nat) (k : Nat) (h : s.size ≤ k) : loPart s k = decP s ds 0 := by
  rw [lo_all s k h, decP, List.take_zero, List.append_nil]
theorem dec_next (s : ByteArray) (ds : List Nat) (j : Nat) (h : j < ds.length + 6) : decP s ds j ++ [(ds ++ cks (modW s ds)).getD j 0] = decP s ds (j + 1) := by
  have hl : j < (ds ++ cks (modW s ds)).length := by rw [List.length_append, cks_len]; exact h
  unfold decP
  rw [List.take_succ_eq_append_getElem hl, ← List.append_assoc, List.getD_eq_getElem?_getD, List.getElem?_eq_getElem hl]
  rfl
theorem hi_zero (s : ByteArray) : hiPart s 0 = [] := by simp [hiPart]

theorem step_nought (c0 c1 c2 c3 c4 c5 : Nat) (h0 : c0 < 32) (h1 : c1 < 32) (h2 : c2 < 32) (h3 : c3 < 32) (h4 : c4 < 32) (h5 : c5 < 32) (w : World) :
    Calls Try.prog 16 #[.agg #[.int .u8 (c0 : Int), .int .u8 (c1 : Int), .int .u8 (c2 : Int), .int .u8 (c3 : Int), .int .u8 (c4 : Int), .int .u8 (c5 : Int)], .int .u8 0] w fun e w' =>
      e = .returned (.agg #[.int .u8 ((0 ^^^ gmul c5 18 : Nat) : Int), .int .u8 ((c0 ^^^ gmul c5 29 : Nat) : Int), .int .u8 ((c1 ^^^ gmul c5 21 : Nat) : Int), .int .u8 ((c2 ^^^ gmul c5 20 : Nat) : Int), .int .u8 ((c3 ^^^ gmul c5 22 : Nat) : Int), .int .u8 ((c4 ^^^ gmul c5 29 : Nat) : Int)]) ∧ Below w.heap.size w w' :=
  step_any c0 c1 c2 c3 c4 c5 0 h0 h1 h2 h3 h4 h5 (by omega) w

/-- A step, the six numbers that come out named: for a walk that goes on. -/
theorem step_rem (c0 c1 c2 c3 c4 c5 v : Nat) (vs : List Nat) (h : IsRem c0 c1 c2 c3 c4 c5 vs) (hv : v < 32) (w : World) :
    Calls Try.prog 16 #[.agg #[.int .u8 (c0 : Int), .int .u8 (c1 : Int), .int .u8 (c2 : Int), .int .u8 (c3 : Int), .int .u8 (c4 : Int), .int .u8 (c5 : Int)], .int .u8 (v : Int)] w fun e w' =>
      ∃ r0 r1 r2 r3 r4 r5 : Nat, e = .returned (.agg #[.int .u8 (r0 : Int), .int .u8 (r1 : Int), .int .u8 (r2 : Int), .int .u8 (r3 : Int), .int .u8 (r4 : Int), .int .u8 (r5 : Int)]) ∧ IsRem r0 r1 r2 r3 r4 r5 (vs ++ [v]) ∧ Below w.heap.size w w' := by
  obtain ⟨h0, h1, h2, h3, h4, h5, hw⟩ := h
  refine (step_any c0 c1 c2 c3 c4 c5 v h0 h1 h2 h3 h4 h5 hv w).mono fun e w' ⟨he, hb⟩ => ?_
  exact ⟨_, _, _, _, _, _, he, IsRem.next ⟨h0, h1, h2, h3, h4, h5, hw⟩ v hv, hb⟩
theorem step_rem0 (c0 c1 c2 c3 c4 c5 : Nat) (vs : List Nat) (h : IsRem c0 c1 c2 c3 c4 c5 vs) (w : World) :
    Calls Try.prog 16 #[.agg #[.int .u8 (c0 : Int), .int .u8 (c1 : Int), .int .u8 (c2 : Int), .int .u8 (c3 : Int), .int .u8 (c4 : Int), .int .u8 (c5 : Int)], .int .u8 0] w fun e w' =>
      ∃ r0 r1 r2 r3 r4 r5 : Nat, e = .returned (.agg #[.int .u8 (r0 : Int), .int .u8 (r1 : Int), .int .u8 (r2 : Int), .int .u8 (r3 : Int), .int .u8 (r4 : Int), .int .u8 (r5 : Int)]) ∧ IsRem r0 r1 r2 r3 r4 r5 (vs ++ [0]) ∧ Below w.heap.size w w' := step_rem c0 c1 c2 c3 c4 c5 0 vs h (by omega) w
/-- The end: the word is 1. -/
theorem pack_rem (c0 c1 c2 c3 c4 c5 : Nat) (vs : List Nat) (h : IsRem c0 c1 c2 c3 c4 c5 vs) (w : World) :
    Calls Try.prog 18 #[.agg #[.int .u8 (c0 : Int), .int .u8 (c1 : Int), .int .u8 (c2 : Int), .int .u8 (c3 : Int), .int .u8 (c4 : Int), .int .u8 (c5 : Int)]] w fun e w' =>
      e = .returned (.int .u32 ((Plain.run 1 vs : Nat) : Int)) ∧ Below w.heap.size w w' := by
  obtain ⟨h0, h1, h2, h3, h4, h5, hw⟩ := h
  rw [← hw]
  exact pack_any c0 c1 c2 c3 c4 c5 h0 h1 h2 h3 h4 h5 w

end Go.Proofs.Qxb6603877a
