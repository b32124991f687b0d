/-
  PLAIN FACTS on the order of floats (Ieee's own), with no Go in sight.
-/
import Derived.Test.Qxb6604193aMerge
import Derived.Laws.FloatArith
namespace Go.Proofs.Qxb6604193a
open Go.RowKit

theorem swap_compare (x y : Int) : compare y x = (compare x y).swap := by
  simp only [compare, compareOfLessAndEq]
  by_cases h1 : x < y
  · have h2 : ¬ y < x := by omega
    have h3 : ¬ y = x := by omega
    simp [h1, h2, h3]
  · by_cases h4 : x = y
    · subst h4; simp
    · have h2 : y < x := by omega
      simp [h1, h2, h4]
theorem swap_compareN (x y : Nat) : compare y x = (compare x y).swap := by
  simp only [compare, compareOfLessAndEq]
  by_cases h1 : x < y
  · have h2 : ¬ y < x := by omega
    have h3 : ¬ y = x := by omega
    simp [h1, h2, h3]
  · by_cases h4 : x = y
    · subst h4; simp
    · have h2 : y < x := by omega
      simp [h1, h2, h4]

theorem dord_self (d : Ieee.Datum) : d.order d = some .eq ∨ d.order d = none := by
  cases d with
  | number s m i => left; simp [Ieee.Datum.order]
  | infinity s => left; simp [Ieee.Datum.order]
  | nan s t => right; simp [Ieee.Datum.order]

theorem dord_swap (a b : Ieee.Datum) : b.order a = (a.order b).map Ordering.swap := by
  cases a with
  | nan s t => cases b <;> simp [Ieee.Datum.order]
  | infinity s =>
    cases b with
    | nan => simp [Ieee.Datum.order]
    | infinity t => simp only [Ieee.Datum.order, Option.map_some]; rw [swap_compareN]
    | number => cases s <;> simp [Ieee.Datum.order]
  | number s m i =>
    cases b with
    | nan => simp [Ieee.Datum.order]
    | infinity t => cases t <;> simp [Ieee.Datum.order]
    | number t n j => simp only [Ieee.Datum.order, Option.map_some]; rw [swap_compare, Int.min_comm]

theorem dord_none (a b : Ieee.Datum) (h : a.order b = none) : a.order a = none ∨ b.order b = none := by
  cases a <;> cases b <;> simp [Ieee.Datum.order] at h ⊢

theorem signed_zero {s : Bool} {m up : Nat} (h : Ieee.signed s m up = 0) : m = 0 := by
  unfold Ieee.signed at h
  rw [Nat.shiftLeft_eq] at h
  have h2 : m * 2 ^ up = 0 := by split at h <;> omega
  rcases Nat.mul_eq_zero.1 h2 with h3 | h3
  · exact h3
  · have := Nat.two_pow_pos up; omega
theorem signed_of (s : Bool) (up : Nat) : Ieee.signed s 0 up = 0 := by
  unfold Ieee.signed; simp

theorem compare_eq {x y : Int} (h : compare x y = .eq) : x = y := by
  simp only [compare, compareOfLessAndEq] at h
  split at h
  · cases h
  · split at h
    · assumption
    · cases h

/-- A zero, of either sign. -/
def isZ (a : Nat) : Prop := ∃ s i, FloatKind.f64.format.read a = .number s 0 i
theorem dzero_eq {s : Bool} {i : Int} {d : Ieee.Datum} (h : (Ieee.Datum.number s 0 i).order d = some .eq) : ∃ t j, d = .number t 0 j := by
  cases d with
  | nan => simp [Ieee.Datum.order] at h
  | infinity t => cases t <;> simp [Ieee.Datum.order] at h
  | number t n j =>
    simp only [Ieee.Datum.order, Option.some.injEq] at h
    have h2 := compare_eq h
    rw [signed_of] at h2
    exact ⟨t, j, by rw [signed_zero h2.symm]⟩
theorem read_zero : FloatKind.f64.format.read 0 = .number false 0 (FloatKind.f64.format.leastPlace) := by decide +kernel
theorem isZ_zero : isZ 0 := ⟨_, _, read_zero⟩
theorem isZ_eq {a b : Nat} (ha : isZ a) (h : FloatKind.f64.format.order a b = some .eq) : isZ b := by
  obtain ⟨s, i, e⟩ := ha
  unfold Ieee.Format.order at h
  rw [e] at h
  obtain ⟨t, j, e2⟩ := dzero_eq h
  exact ⟨t, j, e2⟩

theorem ord_self (a : Nat) : FloatKind.f64.format.order a a = some .eq ∨ FloatKind.f64.format.order a a = none := dord_self _
theorem ord_swap (a b : Nat) : FloatKind.f64.format.order b a = (FloatKind.f64.format.order a b).map Ordering.swap := dord_swap _ _
theorem ord_none (a b : Nat) (h : FloatKind.f64.format.order a b = none) : FloatKind.f64.format.order a a = none ∨ FloatKind.f64.format.order b b = none := dord_none _ _ h
theorem ord_eq_symm {a b : Nat} (h : FloatKind.f64.format.order a b = some .eq) : FloatKind.f64.format.order b a = some .eq := by rw [ord_swap a b, h]; rfl
theorem isZ_of (a : Nat) (h : FloatKind.f64.format.order a 0 = some .eq) : isZ a := isZ_eq isZ_zero (ord_eq_symm h)
theorem ord_zeros {a b : Nat} (ha : isZ a) (hb : isZ b) : FloatKind.f64.format.order a b = some .eq := by
  obtain ⟨s, i, e⟩ := ha
  obtain ⟨t, j, e2⟩ := hb
  unfold Ieee.Format.order
  rw [e, e2]
  simp only [Ieee.Datum.order, signed_of]
  rfl

/-- One over a zero is an infinity: no NaN is asked for. -/
theorem quo_zero (a : Nat) (ha : isZ a) : ∃ r, floatBits .quo .f64 4607182418800017408 a = some r := by
  obtain ⟨s, i, e⟩ := ha
  have e1 : FloatKind.f64.format.read 4607182418800017408 = .number false 4503599627370496 (-52) := by decide +kernel
  refine ⟨FloatKind.f64.format.write (.infinity (false ^^ s)), ?_⟩
  show (((FloatKind.f64.format.read 4607182418800017408).quotient _ (FloatKind.f64.format.read a)).map _) = _
  rw [e, e1]
  simp [Ieee.Datum.quotient]

end Go.Proofs.Qxb6604193a
