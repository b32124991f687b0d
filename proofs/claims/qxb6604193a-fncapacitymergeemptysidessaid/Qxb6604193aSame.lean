/-
  THE WALKS OF zzSameFloat (7), zzInDomain (8).
-/
import Derived.Test.Qxb6604193aOrd
namespace Go.Proofs.Qxb6604193a
open Go.RowKit

/-- What zzSameFloat answers where its first operand is no NaN and a zero: reckoned by the two quotients' bits. -/
theorem beq_true {a b : Nat} {o : Ordering} (h : FloatKind.f64.format.order a b = some o) : (FloatKind.f64.format.order a b == some o) = true := by rw [h]; exact beq_self_eq_true _

set_option maxHeartbeats 400000 in
theorem same_nan (a b : Nat) (w : World) (h : (FloatKind.f64.format.order a a != some .eq) = true) :
    Calls Try.prog 7 #[.float .f64 a, .float .f64 b] w fun e w' => e = .returned (.bool (FloatKind.f64.format.order b b != some .eq)) ∧ w = w' := by
  go_enter Try.func7, Try.ntmps7
  go_wp2
  go_ret
  exact ⟨rfl, rfl⟩

set_option maxHeartbeats 400000 in
theorem same_ne (a b : Nat) (w : World) (h : (FloatKind.f64.format.order a a != some .eq) = false) (h2 : (FloatKind.f64.format.order a b != some .eq) = true) :
    Calls Try.prog 7 #[.float .f64 a, .float .f64 b] w fun e w' => e = .returned (.bool false) ∧ w = w' := by
  go_enter Try.func7, Try.ntmps7
  go_wp2
  go_ret
  exact ⟨rfl, rfl⟩

set_option maxHeartbeats 400000 in
theorem same_eq (a b : Nat) (w : World) (h : (FloatKind.f64.format.order a a != some .eq) = false) (h2 : (FloatKind.f64.format.order a b != some .eq) = false) (h3 : (FloatKind.f64.format.order a 0 == some .eq) = false) :
    Calls Try.prog 7 #[.float .f64 a, .float .f64 b] w fun e w' => e = .returned (.bool true) ∧ w = w' := by
  go_enter Try.func7, Try.ntmps7
  go_wp2
  go_ret
  exact ⟨rfl, rfl⟩

set_option maxHeartbeats 400000 in
theorem same_zero (a b r q : Nat) (w : World) (h : (FloatKind.f64.format.order a a != some .eq) = false) (h2 : (FloatKind.f64.format.order a b != some .eq) = false) (h3 : (FloatKind.f64.format.order a 0 == some .eq) = true)
    (hr : ∀ W, (binOp .quo 22 (.float .f64 4607182418800017408) (.float .f64 a)).run Try.prog W = .ok (.float .f64 r) W) (hq : ∀ W, (binOp .quo 22 (.float .f64 4607182418800017408) (.float .f64 b)).run Try.prog W = .ok (.float .f64 q) W) :
    Calls Try.prog 7 #[.float .f64 a, .float .f64 b] w fun e w' => e = .returned (.bool ((FloatKind.f64.format.order r 0 == some .gt) == (FloatKind.f64.format.order q 0 == some .gt))) ∧ w = w' := by
  go_enter Try.func7, Try.ntmps7
  go_wp2
  go_ret
  exact ⟨rfl, rfl⟩

/-- Whatever two floats: some answer; the same float: true. -/
theorem same_any (a b : Nat) (w : World) :
    Calls Try.prog 7 #[.float .f64 a, .float .f64 b] w fun e w' => ∃ t : Bool, e = .returned (.bool t) ∧ (a = b → t = true) ∧ w = w' := by
  by_cases h : (FloatKind.f64.format.order a a != some .eq) = true
  · refine (same_nan a b w h).mono fun e w' ⟨he, hw⟩ => ⟨_, he, fun hab => ?_, hw⟩
    rw [← hab]; exact h
  · have h' : (FloatKind.f64.format.order a a != some .eq) = false := by simpa using h
    by_cases h2 : (FloatKind.f64.format.order a b != some .eq) = true
    · refine (same_ne a b w h' h2).mono fun e w' ⟨he, hw⟩ => ⟨_, he, fun hab => ?_, hw⟩
      subst hab; exact absurd h2 h
    · have h2' : (FloatKind.f64.format.order a b != some .eq) = false := by simpa using h2
      have e2 : FloatKind.f64.format.order a b = some .eq := by simpa using h2
      by_cases h3 : (FloatKind.f64.format.order a 0 == some .eq) = true
      · have ha := isZ_of a (eq_of_beq h3)
        obtain ⟨r, hr⟩ := quo_zero a ha
        obtain ⟨q, hq⟩ := quo_zero b (isZ_eq ha e2)
        refine (same_zero a b r q w h' h2' h3 (fun W => run_float_arith W .quo 22 .f64 _ _ r hr) (fun W => run_float_arith W .quo 22 .f64 _ _ q hq)).mono fun e w' ⟨he, hw⟩ => ⟨_, he, fun hab => ?_, hw⟩
        subst hab
        have : r = q := by rw [hr] at hq; exact Option.some.inj hq
        subst this
        exact beq_self_eq_true _
      · refine (same_eq a b w h' h2' (by simpa using h3)).mono fun e w' ⟨he, hw⟩ => ⟨_, he, fun _ => rfl, hw⟩

theorem same_self (a : Nat) (w : World) : Calls Try.prog 7 #[.float .f64 a, .float .f64 a] w fun e w' => e = .returned (.bool true) ∧ w = w' := by
  refine (same_any a a w).mono fun e w' ⟨t, he, ht, hw⟩ => ⟨?_, hw⟩
  rw [he, ht rfl]

end Go.Proofs.Qxb6604193a
