/-
  THE WALKS OF THE THREE LAWS (3, 4, 5).
-/
import Derived.Test.Qxb6604193aSame
namespace Go.Proofs.Qxb6604193a
open Go.RowKit

theorem mM_none (cM : Int) : mM cM 0 = cM := rfl
theorem mR_none (cM : Int) (cR oR : Nat) : mR cM cR 0 oR = cR := rfl

set_option maxHeartbeats 400000 in
theorem empty_any (cM : Int) (cR : Nat) (oM : Int) (oR : Nat) (w : World) :
    Calls Try.prog 3 #[.int .i64 cM, .float .f64 cR, .int .i64 oM, .float .f64 oR] w fun e w' => e = .returned (.bool true) ∧ Below w.heap.size w w' := by
  by_cases ho : (oM == 0) = true
  · obtain rfl : oM = 0 := eq_of_beq ho
    go_enter Try.func3, Try.ntmps3
    go_wp2_with fail
    refine (zzmerge_any cM cR 0 oR _).mono ?_
    rintro e w1 ⟨rfl, hb1⟩
    rw [mM_none, mR_none]
    go_wp2_with (go_at_call 7; refine (same_self cR _).mono ?_; rintro e w' ⟨rfl, rfl⟩)
    go_ret
    exact ⟨rfl, hb1⟩
  · have ho' : (oM == 0) = false := by simpa using ho
    by_cases hc : (cM == 0) = true
    · obtain rfl : cM = 0 := eq_of_beq hc
      have e1 : mM 0 oM = mx 0 oM := by unfold mM; rw [if_neg ho]
      have e2 : mR 0 cR oM oR = oR := by unfold mR; rw [if_neg ho, if_pos hc]
      by_cases hp : 0 < oM
      · have e3 : mx 0 oM = oM := by unfold mx; rw [if_pos hp]
        go_enter Try.func3, Try.ntmps3
        go_wp2_with fail
        refine (zzmerge_any 0 cR oM oR _).mono ?_
        rintro e w1 ⟨rfl, hb1⟩
        rw [e1, e2, e3]
        clear e1 e2 e3
        go_wp2_with (go_at_call 7; refine (same_self oR _).mono ?_; rintro e w' ⟨rfl, rfl⟩)
        go_ret
        exact ⟨rfl, hb1⟩
      · have e3 : mx 0 oM = 0 := by unfold mx; rw [if_neg hp]
        go_enter Try.func3, Try.ntmps3
        go_wp2_with fail
        refine (zzmerge_any 0 cR oM oR _).mono ?_
        rintro e w1 ⟨rfl, hb1⟩
        rw [e1, e2, e3]
        clear e1 e2 e3
        go_wp2_with (go_at_call 7; refine (same_self oR _).mono ?_; rintro e w' ⟨rfl, rfl⟩)
        go_ret
        exact ⟨rfl, hb1⟩
    · have hc' : (cM == 0) = false := by simpa using hc
      go_enter Try.func3, Try.ntmps3
      go_wp2_with fail
      refine (zzmerge_any cM cR oM oR _).mono ?_
      rintro e w1 ⟨rfl, hb1⟩
      go_wp2
      go_ret
      exact ⟨rfl, hb1⟩

set_option maxHeartbeats 4000000 in
theorem bounds_core (cM : Int) (cR : Nat) (oM : Int) (oR : Nat) (M : Int) (R : Nat) (w : World) (hM : Hid (mM cM oM = M)) (hR : Hid (mR cM cR oM oR = R))
    (h1 : (M != cM) = false ∨ ((M != cM) = true ∧ (M != oM) = false)) (h2 : Hid (R = cR ∨ R = oR))
    (h34 : ((oM != 0) = false ∧ (cM != 0) = false) ∨ ((oM != 0) = false ∧ (cM != 0) = true) ∨
      ((oM != 0) = true ∧ cM ≤ M ∧ oM ≤ M ∧ (cM != 0) = false) ∨
      ((oM != 0) = true ∧ cM ≤ M ∧ oM ≤ M ∧ (cM != 0) = true ∧ (FloatKind.f64.format.order cR cR == some .eq) = false) ∨
      ((oM != 0) = true ∧ cM ≤ M ∧ oM ≤ M ∧ (cM != 0) = true ∧ (FloatKind.f64.format.order cR cR == some .eq) = true ∧ (FloatKind.f64.format.order oR oR == some .eq) = false) ∨
      ((oM != 0) = true ∧ cM ≤ M ∧ oM ≤ M ∧ (cM != 0) = true ∧ (FloatKind.f64.format.order cR cR == some .eq) = true ∧ (FloatKind.f64.format.order oR oR == some .eq) = true ∧ (FloatKind.f64.format.order R cR == some .gt) = false ∧ (FloatKind.f64.format.order R oR == some .gt) = false)) :
    Calls Try.prog 4 #[.int .i64 cM, .float .f64 cR, .int .i64 oM, .float .f64 oR] w fun e w' => e = .returned (.bool true) ∧ Below w.heap.size w w' := by
  rcases h1 with a1 | ⟨a1, a2⟩
  · rcases h34 with ⟨b1, b2⟩ | ⟨b1, b2⟩ | ⟨b1, b3, b4, b2⟩ | ⟨b1, b3, b4, b2, b5⟩ | ⟨b1, b3, b4, b2, b5, b6⟩ | ⟨b1, b3, b4, b2, b5, b6, b7, b8⟩
    all_goals
      go_enter Try.func4, Try.ntmps4
      go_wp2_with fail
      refine (zzmerge_any cM cR oM oR _).mono ?_
      rintro e w1 ⟨rfl, hb1⟩
      rw [hM.out, hR.out]
      go_wp2_with fail
      refine (same_any R cR _).mono ?_
      rintro e w' ⟨t, rfl, ht, rfl⟩
      have HT : Hid (R = cR → t = true) := ht
      clear ht
      cases t with
      | true =>
        clear HT
        go_wp2
        go_ret
        exact ⟨rfl, hb1⟩
      | false =>
        have hRo : R = oR := by
          rcases h2.out with e | e
          · exact absurd (HT.out e) (by simp)
          · exact e
        have HRo : Hid (R = oR) := hRo
        clear HT hRo
        go_wp2_with fail
        refine (same_any R oR _).mono ?_
        rintro e w' ⟨t, rfl, ht, rfl⟩
        obtain rfl : t = true := ht HRo.out
        clear ht HRo
        go_wp2
        go_ret
        exact ⟨rfl, hb1⟩
  · rcases h34 with ⟨b1, b2⟩ | ⟨b1, b2⟩ | ⟨b1, b3, b4, b2⟩ | ⟨b1, b3, b4, b2, b5⟩ | ⟨b1, b3, b4, b2, b5, b6⟩ | ⟨b1, b3, b4, b2, b5, b6, b7, b8⟩
    all_goals
      go_enter Try.func4, Try.ntmps4
      go_wp2_with fail
      refine (zzmerge_any cM cR oM oR _).mono ?_
      rintro e w1 ⟨rfl, hb1⟩
      rw [hM.out, hR.out]
      go_wp2_with fail
      refine (same_any R cR _).mono ?_
      rintro e w' ⟨t, rfl, ht, rfl⟩
      have HT : Hid (R = cR → t = true) := ht
      clear ht
      cases t with
      | true =>
        clear HT
        go_wp2
        go_ret
        exact ⟨rfl, hb1⟩
      | false =>
        have hRo : R = oR := by
          rcases h2.out with e | e
          · exact absurd (HT.out e) (by simp)
          · exact e
        have HRo : Hid (R = oR) := hRo
        clear HT hRo
        go_wp2_with fail
        refine (same_any R oR _).mono ?_
        rintro e w' ⟨t, rfl, ht, rfl⟩
        obtain rfl : t = true := ht HRo.out
        clear ht HRo
        go_wp2
        go_ret
        exact ⟨rfl, hb1⟩

theorem neF {a b : Int} (h : a = b) : (a != b) = false := by subst h; simp
theorem neT {a b : Int} (h : a ≠ b) : (a != b) = true := by simpa using h

theorem bounds_any (cM : Int) (cR : Nat) (oM : Int) (oR : Nat) (w : World) :
    Calls Try.prog 4 #[.int .i64 cM, .float .f64 cR, .int .i64 oM, .float .f64 oR] w fun e w' => e = .returned (.bool true) ∧ Below w.heap.size w w' := by
  by_cases ho : (oM == 0) = true
  · obtain rfl : oM = 0 := eq_of_beq ho
    refine bounds_core cM cR 0 oR cM cR w rfl rfl (.inl (neF rfl)) (.inl rfl) ?_
    by_cases hc : cM = 0
    · exact .inl ⟨by simp, neF hc⟩
    · exact .inr (.inl ⟨by simp, neT hc⟩)
  · have ho0 : oM ≠ 0 := fun e => ho (by rw [e]; rfl)
    have eM : mM cM oM = mx cM oM := by unfold mM; rw [if_neg ho]
    have h1 : (mx cM oM != cM) = false ∨ ((mx cM oM != cM) = true ∧ (mx cM oM != oM) = false) := by
      unfold mx
      by_cases hlt : cM < oM
      · rw [if_pos hlt]; exact .inr ⟨neT (by omega), neF rfl⟩
      · rw [if_neg hlt]; exact .inl (neF rfl)
    have hle : cM ≤ mx cM oM ∧ oM ≤ mx cM oM := by unfold mx; split <;> omega
    by_cases hc : (cM == 0) = true
    · have eR : mR cM cR oM oR = oR := by unfold mR; rw [if_neg ho, if_pos hc]
      exact bounds_core cM cR oM oR _ _ w eM eR h1 (.inr rfl) (.inr (.inr (.inl ⟨neT ho0, hle.1, hle.2, neF (eq_of_beq hc)⟩)))
    · have hc0 : cM ≠ 0 := fun e => hc (by rw [e]; rfl)
      have rest : ∀ R, mR cM cR oM oR = R → (R = cR ∨ R = oR) → ((FloatKind.f64.format.order R cR == some .gt) = false ∧ (FloatKind.f64.format.order R oR == some .gt) = false) →
          Calls Try.prog 4 #[.int .i64 cM, .float .f64 cR, .int .i64 oM, .float .f64 oR] w fun e w' => e = .returned (.bool true) ∧ Below w.heap.size w w' := by
        intro R eR hR hgt
        refine bounds_core cM cR oM oR _ R w eM eR h1 hR (.inr (.inr (.inr ?_)))
        by_cases q1 : (FloatKind.f64.format.order cR cR == some .eq) = true
        · by_cases q2 : (FloatKind.f64.format.order oR oR == some .eq) = true
          · exact .inr (.inr ⟨neT ho0, hle.1, hle.2, neT hc0, q1, q2, hgt.1, hgt.2⟩)
          · exact .inr (.inl ⟨neT ho0, hle.1, hle.2, neT hc0, q1, by simpa using q2⟩)
        · exact .inl ⟨neT ho0, hle.1, hle.2, neT hc0, by simpa using q1⟩
      have self : ∀ a, (FloatKind.f64.format.order a a == some .gt) = false := fun a => by rcases ord_self a with h | h <;> rw [h] <;> rfl
      by_cases hlt : (FloatKind.f64.format.order oR cR == some .lt) = true
      · refine rest oR (by unfold mR; rw [if_neg ho, if_neg hc, if_pos hlt]) (.inr rfl) ⟨?_, self oR⟩
        rw [eq_of_beq hlt]; rfl
      · refine rest cR (by unfold mR; rw [if_neg ho, if_neg hc, if_neg hlt]) (.inl rfl) ⟨self cR, ?_⟩
        rw [ord_swap oR cR]
        cases h : FloatKind.f64.format.order oR cR with
        | none => rfl
        | some o =>
          cases o with
          | lt => rw [h] at hlt; exact absurd rfl hlt
          | eq => rfl
          | gt => rfl

/-! ### The third law -/
/-- zzInDomain's answer. -/
def inDom (m : Int) (r : Nat) : Bool := decide (0 ≤ m) && (FloatKind.f64.format.order r r == some .eq) && (m != 0 || FloatKind.f64.format.order r 0 == some .eq)

set_option maxHeartbeats 1000000 in
theorem indom_any (m : Int) (r : Nat) (w : World) :
    Calls Try.prog 8 #[.int .i64 m, .float .f64 r] w fun e w' => e = .returned (.bool (inDom m r)) ∧ w = w' := by
  have hb : ∀ x y : Option Ordering, (x != y) = !(x == y) := fun _ _ => rfl
  by_cases h0 : m < 0
  · have e : inDom m r = false := by unfold inDom; rw [decide_eq_false (by omega)]; rfl
    rw [e]
    clear e hb
    go_enter Try.func8, Try.ntmps8
    go_wp2
    go_ret
    exact ⟨rfl, rfl⟩
  · by_cases h1 : (FloatKind.f64.format.order r r == some .eq) = true
    · have h1' : (FloatKind.f64.format.order r r != some .eq) = false := by rw [hb, h1]; rfl
      by_cases hm : m = 0
      · subst hm
        by_cases h2 : (FloatKind.f64.format.order r 0 == some .eq) = true
        · have h2' : (FloatKind.f64.format.order r 0 != some .eq) = false := by rw [hb, h2]; rfl
          have e : inDom 0 r = true := by unfold inDom; rw [h1, h2]; rfl
          rw [e]
          clear e hb h1 h2
          go_enter Try.func8, Try.ntmps8
          go_wp2
          go_ret
          exact ⟨rfl, rfl⟩
        · have h2f : (FloatKind.f64.format.order r 0 == some .eq) = false := by simpa using h2
          have h2' : (FloatKind.f64.format.order r 0 != some .eq) = true := by rw [hb, h2f]; rfl
          have e : inDom 0 r = false := by unfold inDom; rw [h1, h2f]; rfl
          rw [e]
          clear e hb h1 h2 h2f
          go_enter Try.func8, Try.ntmps8
          go_wp2
          go_ret
          exact ⟨rfl, rfl⟩
      · have hm' : (m == 0) = false := by simpa using hm
        have e : inDom m r = true := by
          unfold inDom; rw [h1, decide_eq_true (by omega : 0 ≤ m), neT hm]; rfl
        rw [e]
        clear e hb h1
        go_enter Try.func8, Try.ntmps8
        go_wp2
        go_ret
        exact ⟨rfl, rfl⟩
    · have h1f : (FloatKind.f64.format.order r r == some .eq) = false := by simpa using h1
      have h1' : (FloatKind.f64.format.order r r != some .eq) = true := by rw [hb, h1f]; rfl
      have e : inDom m r = false := by unfold inDom; rw [h1f]; simp
      rw [e]
      clear e hb h1 h1f
      go_enter Try.func8, Try.ntmps8
      go_wp2
      go_ret
      exact ⟨rfl, rfl⟩

end Go.Proofs.Qxb6604193a
