/-
  THE WALK OF bchIndex (17) at a character of the table.
-/
import Derived.Test.Qxb6603877aEncode
namespace Go.Proofs.Qxb6603877a
open Go.RowKit

theorem chr_ne : ∀ v < 32, ∀ k < v, ((chr k : Nat) : Int) ≠ ((chr v : Nat) : Int) := by decide

set_option maxHeartbeats 400000 in
theorem index_chr (v : Nat) (hv : v < 32) (w : World) :
    Calls Try.prog 17 #[.int .u8 ((chr v : Nat) : Int)] w fun e w' => e = .returned (.tuple #[.int .u8 (v : Int), .bool true]) ∧ w = w' := by
  have hch := chars_at
  obtain ⟨c, Hc⟩ : ∃ c, Hid (c = chr v) := ⟨_, rfl⟩
  rw [← Hc.out]
  go_enter Try.func17, Try.ntmps17
  go_wp2
  go_loop [4] (fun i => ∃ k : Nat, k ≤ v ∧ i = .int .i64 k) (fun i => 32 - (intOf i).toNat)
  case atStart => exact ⟨0, Nat.zero_le _, rfl⟩
  case round =>
    obtain ⟨k, hk, rfl⟩ := hrel
    by_cases hlt : k < v
    · have hne : (((chr k : Nat) : Int) == (c : Int)) = false := by
        rw [Hc.out]; exact beq_eq_false_iff_ne.2 (chr_ne v hv k hlt)
      go_wp2
      go_round
      case rel => exact ⟨k + 1, by omega, by go_num⟩
      case measure => simp [intOf]; omega
    · obtain rfl : v = k := by omega
      have heq : (((chr v : Nat) : Int) == (c : Int)) = true := by
        rw [Hc.out]; exact beq_self_eq_true _
      go_wp2
      go_ret2
      exact ⟨rfl, rfl⟩

end Go.Proofs.Qxb6603877a
