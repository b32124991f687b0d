/-
  THE WALK OF FnEncodeDecodesBackAndVerifiesByPolymod (7).
-/
import Derived.Test.Qxb6603877aIndex
namespace Go.Proofs.Qxb6603877a
open Go.RowKit

/-! ### The plain law: what Encode writes, polymod accepts -/
/-- The checksum's six values. -/
def cks (m : Nat) : List Nat := (List.range 6).map (ck m)
theorem cks_len (m : Nat) : (cks m).length = 6 := by simp [cks]
theorem cks_lt (m : Nat) : ∀ d ∈ cks m, d < 32 := by
  intro d hd
  obtain ⟨i, _, rfl⟩ := List.mem_map.1 hd
  unfold ck; omega
theorem digits_cks (m : Nat) (hm : m < 1073741824) : Plain.digits 0 (cks m) = m := by
  show Plain.digits 0 [ck m 0, ck m 1, ck m 2, ck m 3, ck m 4, ck m 5] = m
  simp only [Plain.digits, List.foldl_cons, List.foldl_nil, ck]
  simp only [Nat.reduceSub, Nat.reduceMul, Nat.reducePow]
  omega
theorem modW_lt (s : ByteArray) (ds : List Nat) (h : ∀ z ∈ ds, z < 32) : modW s ds < 1073741824 := by
  refine Plain.xor_lt30 (Plain.run_lt _ _ (by omega) ?_) (by omega)
  intro v hv
  rcases List.mem_append.1 hv with hv | hv
  · have := vals_lt s ds h v hv; omega
  · simp at hv; omega
theorem poly_valid (s : ByteArray) (ds : List Nat) (h : ∀ z ∈ ds, z < 32) : Plain.poly (vals s ds ++ cks (modW s ds)) = 1 := by
  have hv : ∀ z ∈ vals s ds, z < 1073741824 := fun z hz => by have := vals_lt s ds h z hz; omega
  have hc := Plain.run_lt 1 (vals s ds) (by omega) hv
  have e1 := Plain.run_tail (Plain.run 1 (vals s ds)) (cks (modW s ds)) hc (by rw [cks_len]; omega) (cks_lt _)
  rw [digits_cks _ (modW_lt s ds h), cks_len] at e1
  unfold Plain.poly
  rw [Plain.run_append, e1, modW, Plain.poly, Plain.run_append]
  show Plain.run (Plain.run 1 (vals s ds)) [0, 0, 0, 0, 0, 0] ^^^ (Plain.run (Plain.run 1 (vals s ds)) [0, 0, 0, 0, 0, 0] ^^^ 1) = 1
  rw [← Nat.xor_assoc, Nat.xor_self, Nat.zero_xor]

/-! ### What Encode's string reads as -/
theorem encB_split (s : ByteArray) (ds : List Nat) (m : Nat) : encB s ds m 6 = sbytes s ++ [49] ++ (ds ++ cks m).map chr := by
  simp [encB, cks, List.map_map]
theorem out_size {s out : ByteArray} {ds : List Nat} {m : Nat} (h : sbytes out = encB s ds m 6) : out.size = s.size + ds.length + 7 := by
  have := congrArg List.length h
  rw [sbytes_len, encB_len] at this
  omega
theorem out_one {s out : ByteArray} {ds : List Nat} {m : Nat} (h : sbytes out = encB s ds m 6) : sb out s.size = 49 := by
  rw [sb, h, encB_split, List.getD_eq_getElem?_getD, List.getElem?_append_left (by simp [sbytes_len]), List.getElem?_append_right (Nat.le_of_eq (sbytes_len s)), sbytes_len, Nat.sub_self]
  rfl
theorem out_chr {s out : ByteArray} {ds : List Nat} {m : Nat} (h : sbytes out = encB s ds m 6) (j : Nat) (hj : j < ds.length + 6) : sb out (s.size + 1 + j) = chr ((ds ++ cks m).getD j 0) := by
  have hl : j < (ds ++ cks m).length := by rw [List.length_append, cks_len]; exact hj
  rw [sb, h, encB_split, List.getD_eq_getElem?_getD, List.getElem?_append_right (by simp [sbytes_len])]
  have e : s.size + 1 + j - (sbytes s ++ [49]).length = j := by simp [sbytes_len]
  rw [e, List.getElem?_map, List.getElem?_eq_getElem hl, List.getD_eq_getElem?_getD, List.getElem?_eq_getElem hl]
  rfl
theorem sbytes_inj {a b : ByteArray} (h : sbytes a = sbytes b) : a = b := by
  have h2 : a.data.toList = b.data.toList := by
    have hl := congrArg List.length h
    rw [sbytes, sbytes, List.length_map, List.length_map] at hl
    apply List.ext_getElem hl
    intro i h1 h3
    have hh := congrArg (·[i]?) h
    simp only [sbytes, List.getElem?_map, List.getElem?_eq_getElem h1, List.getElem?_eq_getElem h3, Option.map_some, Option.some.injEq] at hh
    exact UInt8.toNat_inj.1 hh
  cases a; cases b
  simp only [ByteArray.mk.injEq]
  exact Array.toList_inj.1 h2
theorem out_head {s out : ByteArray} {ds : List Nat} {m : Nat} (h : sbytes out = encB s ds m 6) : out.extract 0 s.size = s := by
  apply sbytes_inj
  have e : sbytes (out.extract 0 s.size) = (sbytes out).take s.size := by
    simp only [sbytes, ByteArray.data_extract, Array.toList_extract, List.extract_eq_take_drop, Nat.sub_zero, List.drop_zero, List.map_take]
  rw [e, h, encB_split, List.append_assoc, List.take_append_of_le_length (by rw [sbytes_len]; omega), List.take_of_length_le (by rw [sbytes_len]; omega)]

/-! ### The ways that return early -/
set_option maxHeartbeats 400000 in
theorem zz19_yes (s : ByteArray) (a : Option Addr) (len cap : Nat) (w : World) (h : s.size + len ≤ 1048576) :
    Calls Try.prog 19 #[.string s, .slice a len cap] w fun e w' => e = .returned (.bool true) ∧ w = w' := by
  go_enter Try.func19, Try.ntmps19
  go_wp2
  go_ret
  exact ⟨rfl, rfl⟩

set_option maxHeartbeats 400000 in
theorem zz19_no (s : ByteArray) (a : Option Addr) (len cap : Nat) (w : World) (h : 1048576 < s.size + len) (h0 : s.size ≤ 9223372036854775807) (h2 : len ≤ 9223372036854775807) :
    Calls Try.prog 19 #[.string s, .slice a len cap] w fun e w' => e = .returned (.bool false) ∧ w = w' := by
  go_enter Try.func19, Try.ntmps19
  go_wp2
  all_goals go_ret
  all_goals exact ⟨rfl, rfl⟩

set_option maxHeartbeats 400000 in
theorem dec_long (s : ByteArray) (a : Option Addr) (len cap : Nat) (w : World) (h : 1048576 < s.size + len) (h0 : s.size ≤ 9223372036854775807) (h2 : len ≤ 9223372036854775807) :
    Calls Try.prog 7 #[.string s, .slice a len cap] w fun e w' => e = .returned (.bool true) ∧ Below w.heap.size w w' := by
  go_enter Try.func7, Try.ntmps7
  go_wp2_with (go_at_call 19; refine (zz19_no s a len cap _ h h0 h2).mono ?_; rintro e w' ⟨rfl, rfl⟩)
  go_ret
  exact ⟨rfl, Below.refl _ _⟩

set_option maxHeartbeats 400000 in
theorem dec_out (s : ByteArray) (a : Option Addr) (len cap : Nat) (w : World) (h : s.size + len ≤ 1048576) (h2 : 524288 < s.size ∨ (s.size ≤ 524288 ∧ 1048576 < 2 * s.size + len)) :
    Calls Try.prog 7 #[.string s, .slice a len cap] w fun e w' => e = .returned (.bool true) ∧ Below w.heap.size w w' := by
  rcases h2 with h1 | ⟨h1, h2⟩
  all_goals
    go_enter Try.func7, Try.ntmps7
    go_wp2_with (go_at_call 19; refine (zz19_yes s a len cap _ h).mono ?_; rintro e w' ⟨rfl, rfl⟩)
    go_ret
    exact ⟨rfl, Below.refl _ _⟩

end Go.Proofs.Qxb6603877a
