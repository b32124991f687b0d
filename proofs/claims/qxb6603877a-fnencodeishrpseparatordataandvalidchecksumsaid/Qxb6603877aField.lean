/-
  THE FIELD GF(32): plain functions; THE WALKS OF bchGen (24), gf32Mul (23).
-/
import Derived.Test.Qxb6603877aIndex
namespace Go.Proofs.Qxb6603877a
open Go.RowKit

/-- The generator's coefficient of x^j. -/
def gco (j : Nat) : Nat := [18, 29, 21, 20, 22, 29].getD j 0

/-- Times x. -/
def xt (a : Nat) : Nat := if 16 ≤ a then a * 2 ^^^ 41 else a * 2
def mulA (a : Nat) : Nat → Nat
  | 0 => a
  | k + 1 => xt (mulA a k)
def mulR (a b : Nat) : Nat → Nat
  | 0 => 0
  | k + 1 => if b / 2 ^ k % 2 = 1 then mulR a b k ^^^ mulA a k else mulR a b k
/-- The product. -/
def gmul (a b : Nat) : Nat := mulR a b 5

theorem xt_lt : ∀ a < 32, xt a < 32 := by decide
theorem mulA_lt (a k : Nat) (ha : a < 32) : mulA a k < 32 := by
  induction k with
  | zero => exact ha
  | succ k ih => exact xt_lt _ ih
theorem mulR_lt (a b k : Nat) (ha : a < 32) : mulR a b k < 32 := by
  induction k with
  | zero => show 0 < 32; omega
  | succ k ih =>
    unfold mulR
    split
    · exact Nat.xor_lt_two_pow (n := 5) ih (mulA_lt a k ha)
    · exact ih

set_option maxHeartbeats 400000 in
theorem bchgen_at (j : Nat) (hj : j < 6) (w : World) :
    Calls Try.prog 24 #[.int .i64 (j : Int)] w fun e w' => e = .returned (.int .u8 ((gco j : Nat) : Int)) ∧ w = w' := by
  rcases (by omega : j = 0 ∨ j = 1 ∨ j = 2 ∨ j = 3 ∨ j = 4 ∨ j = 5) with rfl | rfl | rfl | rfl | rfl | rfl
  all_goals
    go_enter Try.func24, Try.ntmps24
    go_wp2
    go_ret
    exact ⟨rfl, rfl⟩

theorem u8_bit (b k : Nat) (hb : b < 256) : bits BinOp.and IntKind.u8 ((b : Int) / 2 ^ k) 1 = ((b / 2 ^ k % 2 : Nat) : Int) := by
  have e : ((b : Int) / 2 ^ k) = ((b / 2 ^ k : Nat) : Int) := by simp
  rw [e, show (1 : Int) = ((1 : Nat) : Int) from rfl, u8_and_nat _ 1 (Nat.lt_of_le_of_lt (Nat.div_le_self _ _) hb) (by omega), nat_mask1]

theorem and32 (x : Nat) (hx : x < 32) : bits BinOp.and IntKind.u8 ((x : Int) * 2) 32 = ((if 16 ≤ x then 32 else 0 : Nat) : Int) := by
  rw [show (x : Int) * 2 = ((x * 2 : Nat) : Int) by omega, show (32 : Int) = ((32 : Nat) : Int) from rfl, u8_and_nat _ 32 (by omega) (by omega)]
  congr 1
  have : ∀ x < 32, x * 2 &&& 32 = if 16 ≤ x then 32 else 0 := by decide
  exact this x hx
theorem and32_yes (x : Nat) (hx : x < 32) (h : 16 ≤ x) : (bits BinOp.and IntKind.u8 ((x : Int) * 2) 32 != 0) = true := by
  rw [and32 x hx, if_pos h]; rfl
theorem and32_no (x : Nat) (hx : x < 32) (h : ¬ 16 ≤ x) : (bits BinOp.and IntKind.u8 ((x : Int) * 2) 32 != 0) = false := by
  rw [and32 x hx, if_neg h]; rfl
theorem bit8_yes (b k : Nat) (hb : b < 256) (h : b / 2 ^ k % 2 = 1) : (bits BinOp.and IntKind.u8 ((b : Int) / 2 ^ k) 1 == 1) = true := by
  rw [u8_bit b k hb, h]; rfl
theorem bit8_no (b k : Nat) (hb : b < 256) (h : ¬ b / 2 ^ k % 2 = 1) : (bits BinOp.and IntKind.u8 ((b : Int) / 2 ^ k) 1 == 1) = false := by
  rw [u8_bit b k hb, show b / 2 ^ k % 2 = 0 by omega]; rfl
theorem xor41 (x : Nat) (hx : x < 32) : bits BinOp.xor IntKind.u8 ((x : Int) * 2) 41 = ((x * 2 ^^^ 41 : Nat) : Int) := by
  rw [show (x : Int) * 2 = ((x * 2 : Nat) : Int) by omega, show (41 : Int) = ((41 : Nat) : Int) from rfl, u8_xor_nat _ 41 (by omega) (by omega)]

set_option maxHeartbeats 400000 in
theorem mul_any (a b : Nat) (ha : a < 32) (hb : b < 32) (w : World) :
    Calls Try.prog 23 #[.int .u8 (a : Int), .int .u8 (b : Int)] w fun e w' => e = .returned (.int .u8 ((gmul a b : Nat) : Int)) ∧ w = w' := by
  go_enter Try.func23, Try.ntmps23
  go_wp2
  rw [show (a : Int) % 32 = (a : Int) by omega, show (b : Int) % 32 = (b : Int) by omega]
  go_loop [0, 5, 6] (fun sa sr si => ∃ k x r : Nat, k ≤ 5 ∧ x < 32 ∧ r < 32 ∧ Hid (x = mulA a k) ∧ Hid (r = mulR a b k) ∧ sa = .int .u8 (x : Int) ∧ sr = .int .u8 (r : Int) ∧ si = .int .i64 (k : Int)) (fun _ _ i => 5 - (intOf i).toNat)
  case atStart => exact ⟨0, a, 0, Nat.zero_le _, ha, by omega, rfl, rfl, rfl, rfl, rfl⟩
  case round =>
    obtain ⟨k, x, r, hk, hx, hr, HX, HR, rfl, rfl, rfl⟩ := hrel
    by_cases hlt : k < 5
    · have e1 : ∀ h : 16 ≤ x, x * 2 ^^^ 41 = mulA a (k + 1) := fun h => by rw [mulA, ← HX.out, xt, if_pos h]
      have e2 : ∀ h : ¬ 16 ≤ x, x * 2 = mulA a (k + 1) := fun h => by rw [mulA, ← HX.out, xt, if_neg h]
      have e3 : ∀ h : b / 2 ^ k % 2 = 1, r ^^^ x = mulR a b (k + 1) := fun h => by rw [mulR, if_pos h, ← HX.out, ← HR.out]
      have e4 : ∀ h : ¬ b / 2 ^ k % 2 = 1, r = mulR a b (k + 1) := fun h => by rw [mulR, if_neg h, ← HR.out]
      have e5 : bits BinOp.xor IntKind.u8 (r : Int) (x : Int) = ((r ^^^ x : Nat) : Int) := u8_xor_nat r x (by omega) (by omega)
      have e6 : r ^^^ x < 32 := Nat.xor_lt_two_pow (n := 5) hr hx
      have e7 := xt_lt x hx
      have E1 : Hid (∀ h : 16 ≤ x, x * 2 ^^^ 41 = mulA a (k + 1)) := e1
      have E2 : Hid (∀ h : ¬ 16 ≤ x, x * 2 = mulA a (k + 1)) := e2
      have E3 : Hid (∀ h : b / 2 ^ k % 2 = 1, r ^^^ x = mulR a b (k + 1)) := e3
      have E4 : Hid (∀ h : ¬ b / 2 ^ k % 2 = 1, r = mulR a b (k + 1)) := e4
      have E5 : Hid (bits BinOp.xor IntKind.u8 (r : Int) (x : Int) = ((r ^^^ x : Nat) : Int)) := e5
      have E7 : Hid (xt x < 32) := e7
      clear e1 e2 e3 e4 e5 e7
      by_cases h16 : 16 ≤ x
      · have h1 := and32_yes x hx h16
        have e7 : x * 2 ^^^ 41 < 32 := by have := E7.out; rwa [xt, if_pos h16] at this
        by_cases hb1 : b / 2 ^ k % 2 = 1
        · have h2 := bit8_yes b k (by omega) hb1
          have HB1 : Hid (b / 2 ^ k % 2 = 1) := hb1
          clear hb1
          go_wp2
          go_round
          case rel => exact ⟨k + 1, x * 2 ^^^ 41, r ^^^ x, by omega, e7, e6, E1.out h16, E3.out HB1.out, congrArg _ (xor41 x hx), congrArg _ E5.out, by go_num⟩
          case measure => simp [intOf]; omega
        · have h2 := bit8_no b k (by omega) hb1
          have HB1 : Hid (¬ b / 2 ^ k % 2 = 1) := hb1
          clear hb1
          go_wp2
          go_round
          case rel => exact ⟨k + 1, x * 2 ^^^ 41, r, by omega, e7, hr, E1.out h16, E4.out HB1.out, congrArg _ (xor41 x hx), rfl, by go_num⟩
          case measure => simp [intOf]; omega
      · have h1 := and32_no x hx h16
        by_cases hb1 : b / 2 ^ k % 2 = 1
        · have h2 := bit8_yes b k (by omega) hb1
          have HB1 : Hid (b / 2 ^ k % 2 = 1) := hb1
          clear hb1
          go_wp2
          go_round
          case rel => exact ⟨k + 1, x * 2, r ^^^ x, by omega, by omega, e6, E2.out h16, E3.out HB1.out, by go_num, congrArg _ E5.out, by go_num⟩
          case measure => simp [intOf]; omega
        · have h2 := bit8_no b k (by omega) hb1
          have HB1 : Hid (¬ b / 2 ^ k % 2 = 1) := hb1
          clear hb1
          go_wp2
          go_round
          case rel => exact ⟨k + 1, x * 2, r, by omega, by omega, hr, E2.out h16, E4.out HB1.out, by go_num, rfl, by go_num⟩
          case measure => simp [intOf]; omega
    · obtain rfl : k = 5 := by omega
      go_wp2
      go_ret
      refine ⟨?_, rfl⟩
      rw [HR.out]; rfl

end Go.Proofs.Qxb6603877a
