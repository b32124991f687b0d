/-
  THE WALK OF FnPolymodDetectsEveryBurstOfSix (3).
-/
import Derived.Test.Qxb6603877aClone
import Derived.Deep.QuietTactic
import Derived.BigQuiet
namespace Go.Proofs.Qxb6603877a
open Go.RowKit

set_option maxHeartbeats 400000 in
theorem zz8_yes (a0 : Option Addr) (len0 cap0 : Nat) (s : Int) (a2 : Option Addr) (len2 cap2 : Nat) (w : World) (h : len0 + len2 ≤ 1048576) :
    Calls Try.prog 8 #[.slice a0 len0 cap0, .int .i64 s, .slice a2 len2 cap2] w fun e w' => e = .returned (.bool true) ∧ w = w' := by
  go_enter Try.func8, Try.ntmps8
  go_wp2
  go_ret
  exact ⟨rfl, rfl⟩

set_option maxHeartbeats 400000 in
theorem zz8_no (a0 : Option Addr) (len0 cap0 : Nat) (s : Int) (a2 : Option Addr) (len2 cap2 : Nat) (w : World) (h : 1048576 < len0 + len2) (h0 : len0 ≤ 9223372036854775807) (h2 : len2 ≤ 9223372036854775807) :
    Calls Try.prog 8 #[.slice a0 len0 cap0, .int .i64 s, .slice a2 len2 cap2] w fun e w' => e = .returned (.bool false) ∧ w = w' := by
  go_enter Try.func8, Try.ntmps8
  go_wp2
  all_goals go_ret
  all_goals exact ⟨rfl, rfl⟩

set_option maxHeartbeats 400000 in
theorem burst_long (a0 : Option Addr) (len0 cap0 : Nat) (s : Int) (a2 : Option Addr) (len2 cap2 : Nat) (w : World) (h : 1048576 < len0 + len2) (h0 : len0 ≤ 9223372036854775807) (h2 : len2 ≤ 9223372036854775807) :
    Calls Try.prog 3 #[.slice a0 len0 cap0, .int .i64 s, .slice a2 len2 cap2] w fun e w' => e = .returned (.bool true) ∧ Below w.heap.size w w' := by
  go_enter Try.func3, Try.ntmps3
  go_wp2_with (go_at_call 8; refine (zz8_no a0 len0 cap0 s a2 len2 cap2 _ h h0 h2).mono ?_; rintro e w' ⟨rfl, rfl⟩)
  go_ret
  exact ⟨rfl, Below.refl _ _⟩

set_option maxHeartbeats 400000 in
theorem burst_six (a0 : Option Addr) (len0 cap0 : Nat) (s : Int) (a2 : Option Addr) (len2 cap2 : Nat) (w : World) (h : len0 + len2 ≤ 1048576) (h6 : 6 < len2) :
    Calls Try.prog 3 #[.slice a0 len0 cap0, .int .i64 s, .slice a2 len2 cap2] w fun e w' => e = .returned (.bool true) ∧ Below w.heap.size w w' := by
  go_enter Try.func3, Try.ntmps3
  go_wp2_with (go_at_call 8; refine (zz8_yes a0 len0 cap0 s a2 len2 cap2 _ h).mono ?_; rintro e w' ⟨rfl, rfl⟩)
  go_ret
  exact ⟨rfl, Below.refl _ _⟩

set_option maxHeartbeats 400000 in
theorem burst_neg (a0 : Option Addr) (len0 cap0 : Nat) (s : Int) (a2 : Option Addr) (len2 cap2 : Nat) (w : World) (h : len0 + len2 ≤ 1048576) (h6 : len2 ≤ 6) (hs : s < 0) :
    Calls Try.prog 3 #[.slice a0 len0 cap0, .int .i64 s, .slice a2 len2 cap2] w fun e w' => e = .returned (.bool true) ∧ Below w.heap.size w w' := by
  go_enter Try.func3, Try.ntmps3
  go_wp2_with (go_at_call 8; refine (zz8_yes a0 len0 cap0 s a2 len2 cap2 _ h).mono ?_; rintro e w' ⟨rfl, rfl⟩)
  go_ret
  exact ⟨rfl, Below.refl _ _⟩

set_option maxHeartbeats 400000 in
theorem burst_off (a0 : Option Addr) (len0 cap0 : Nat) (s : Int) (a2 : Option Addr) (len2 cap2 : Nat) (w : World) (h : len0 + len2 ≤ 1048576) (h6 : len2 ≤ 6) (hs : 0 ≤ s) (hs2 : (len0 : Int) - (len2 : Int) < s) :
    Calls Try.prog 3 #[.slice a0 len0 cap0, .int .i64 s, .slice a2 len2 cap2] w fun e w' => e = .returned (.bool true) ∧ Below w.heap.size w w' := by
  go_enter Try.func3, Try.ntmps3
  go_wp2_with (go_at_call 8; refine (zz8_yes a0 len0 cap0 s a2 len2 cap2 _ h).mono ?_; rintro e w' ⟨rfl, rfl⟩)
  go_ret
  exact ⟨rfl, Below.refl _ _⟩

end Go.Proofs.Qxb6603877a
