import Derived.Test.Qxb6603877aBase
import Derived.Test.Qxb6603877aPlain
namespace Go.Proofs.Qxb6603877a
open Go.RowKit

def genBlock : Obj := .cells #[.int .u32 996825010, .int .u32 642813549, .int .u32 513874426, .int .u32 1027748829, .int .u32 705979059] 40

theorem start_eq (c z : Nat) (hc : c < 1073741824) (hz : z < 256) : bits BinOp.xor IntKind.u32 (bits BinOp.and IntKind.u32 (c : Int) 33554431 * 32 % 4294967296) (z : Int) = ((c % 33554432 * 32 ^^^ z : Nat) : Int) := by
  rw [show (33554431 : Int) = ((33554431 : Nat) : Int) from rfl, u32_and_nat c 33554431 (by omega) (by omega), nat_mask25]
  rw [show ((c % 33554432 : Nat) : Int) * 32 % 4294967296 = ((c % 33554432 * 32 : Nat) : Int) by omega]
  exact u32_xor_nat _ _ (by omega) (by omega)

theorem bit_eq (c j : Nat) (hc : c < 4294967296) : bits BinOp.and IntKind.u32 ((c : Int) / 33554432 / 2 ^ j) 1 = ((c / 33554432 / 2 ^ j % 2 : Nat) : Int) := by
  have e : ((c : Int) / 33554432 / 2 ^ j) = ((c / 33554432 / 2 ^ j : Nat) : Int) := by simp
  rw [e, show (1 : Int) = ((1 : Nat) : Int) from rfl, u32_and_nat _ 1 (Nat.lt_of_le_of_lt (Nat.div_le_self _ _) (by omega)) (by omega), nat_mask1]
theorem bit_yes {c j : Nat} (hc : c < 4294967296) (h : (bits BinOp.and IntKind.u32 ((c : Int) / 33554432 / 2 ^ j) 1 == 1) = true) : c / 33554432 / 2 ^ j % 2 = 1 := by
  rw [bit_eq c j hc] at h
  have := eq_of_beq h
  omega
theorem bit_no {c j : Nat} (hc : c < 4294967296) (h : (bits BinOp.and IntKind.u32 ((c : Int) / 33554432 / 2 ^ j) 1 == 1) = false) : ¬ c / 33554432 / 2 ^ j % 2 = 1 := by
  rw [bit_eq c j hc] at h
  intro e
  rw [e] at h
  simp at h
theorem inner_yes {x t j d : Nat} (hd : d = Plain.inner x t j) (h : t / 2 ^ j % 2 = 1) : d ^^^ Plain.gen j = Plain.inner x t (j + 1) := by
  subst hd; unfold Plain.inner; rw [if_pos h]; cases j <;> rfl
theorem inner_no {x t j d : Nat} (hd : d = Plain.inner x t j) (h : ¬ t / 2 ^ j % 2 = 1) : d = Plain.inner x t (j + 1) := by
  subst hd; rw [Plain.inner, if_neg h]
theorem run_snoc (c : Nat) (zs : List Nat) (k : Nat) (h : k < zs.length) : Plain.run c (zs.take (k + 1)) = Plain.step (Plain.run c (zs.take k)) (zs.getD k 0) := by
  rw [List.take_succ_eq_append_getElem h, Plain.run_append]
  simp [Plain.run, h]

theorem gen_cell (w : World) (j : Nat) (hj : j < 5) : (w.alloc genBlock).cell? ⟨w.heap.size, j, none⟩ = some (.int .u32 ((Plain.gen j : Nat) : Int)) := by
  rcases (by omega : j = 0 ∨ j = 1 ∨ j = 2 ∨ j = 3 ∨ j = 4) with rfl | rfl | rfl | rfl | rfl <;> simp [genBlock, Plain.gen]

set_option maxHeartbeats 400000 in
/-- polymod: whatever slice of bytes (nil too). -/
theorem poly_any (a : Option Addr) (len cap : Nat) (zs : List Nat) (w : World) (hB : Bytes w a len zs) (hm : len ≤ 1000000000) :
    Calls Try.prog 20 #[.slice a len cap] w fun e w' => e = .returned (.int .u32 (Plain.poly zs : Nat)) ∧ Below w.heap.size w w' := by
  have HW : Below w.heap.size w (w.alloc genBlock) := (Below.refl _ _).alloc (Nat.le_refl _) _
  have hBW := hB.below HW
  have hz := hB.lt
  have hl := hB.1
  have hgW := gen_cell w
  clear hB
  go_enter Try.func20, Try.ntmps20
  go_wp2
  generalize hW : w.alloc (Obj.cells _ 40) = W
  rw [show w.alloc genBlock = W from hW] at hBW hgW HW
  clear hW
  go_loop [4, 12] (fun ck i => ∃ k c : Nat, k ≤ len ∧ c < 1073741824 ∧ Hid (c = Plain.run 1 (zs.take k)) ∧ i = .int .i64 k ∧ ck = .int .u32 (c : Int)) (fun _ i => len - (intOf i).toNat)
  case atStart => exact ⟨0, 1, Nat.zero_le _, by omega, rfl, rfl, rfl⟩
  case round =>
    obtain ⟨k, c, hk, hc30, HC, rfl, rfl⟩ := hrel
    by_cases hlt : k < len
    · obtain ⟨z, HZ⟩ : ∃ z, Hid (z = zs.getD k 0) := ⟨_, rfl⟩
      have hz8 : z < 256 := by rw [HZ.out]; exact hz k
      obtain ⟨b, o, rfl, _, hcW⟩ := hBW.2.2 (by omega)
      have hcell : W.cell? ⟨b, o + k, none⟩ = some (.int .u8 (z : Int)) := by rw [HZ.out]; exact hcW k hlt
      clear hcW hz hBW
      go_wp2
      go_loop [4, 8] (fun ck i => ∃ j d : Nat, j ≤ 5 ∧ d < 1073741824 ∧ Hid (d = Plain.inner (c % 33554432 * 32 ^^^ z) (c / 33554432) j) ∧ i = .int .i64 j ∧ ck = .int .u32 (d : Int)) (fun _ i => 5 - (intOf i).toNat)
      case atStart => exact ⟨0, _, Nat.zero_le _, Plain.inner_lt _ _ 0 (Plain.xor_lt30 (by omega) (by omega)), rfl, rfl, congrArg _ (start_eq c z hc30 hz8)⟩
      case round =>
        obtain ⟨j, d, hj, hd, HD, rfl, rfl⟩ := hrel
        by_cases hj5 : j < 5
        · have hg := hgW j hj5
          clear hgW
          go_wp2
          · have ht := bit_yes (c := c) (j := j) (by omega) (by assumption)
            go_round
            case rel => exact ⟨j + 1, d ^^^ Plain.gen j, by omega, Plain.xor_lt30 hd (Plain.gen_lt j), inner_yes HD.out ht, by go_num, congrArg _ (u32_xor_nat _ _ (by omega) (by have := Plain.gen_lt j; omega))⟩
            case measure => simp [intOf]; omega
          · have ht := bit_no (c := c) (j := j) (by omega) (by assumption)
            go_round
            case rel => exact ⟨j + 1, d, by omega, hd, inner_no HD.out ht, by go_num, rfl⟩
            case measure => simp [intOf]; omega
        · obtain rfl : j = 5 := by omega
          go_wp2
          go_round
          case rel => exact ⟨k + 1, d, by omega, hd, by rw [run_snoc 1 zs k (by omega), ← HC.out, ← HZ.out]; exact HD.out, by go_num, rfl⟩
          case measure => simp [intOf]; omega
    · go_wp2
      go_ret
      refine ⟨?_, HW⟩
      rw [HC.out, List.take_of_length_le (by omega)]
      rfl
end Go.Proofs.Qxb6603877a
