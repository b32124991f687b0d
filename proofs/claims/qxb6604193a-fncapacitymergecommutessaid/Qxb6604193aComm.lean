/-
  THE WALK OF FnCapacityMergeCommutes (5).
-/
import Derived.Test.Qxb6604193aLaws
namespace Go.Proofs.Qxb6604193a
open Go.RowKit

theorem dom_parts {m : Int} {r : Nat} (h : inDom m r = true) : 0 ≤ m ∧ FloatKind.f64.format.order r r = some .eq ∧ (m = 0 → FloatKind.f64.format.order r 0 = some .eq) := by
  unfold inDom at h
  simp only [Bool.and_eq_true, Bool.or_eq_true, decide_eq_true_eq, beq_iff_eq, bne_iff_ne] at h
  exact ⟨h.1.1, h.1.2, fun e => h.2.resolve_left (fun hne => hne e)⟩

theorem comm_count (cM oM : Int) (hc : 0 ≤ cM) (ho : 0 ≤ oM) : mM cM oM = mM oM cM := by
  have z : ∀ x : Int, x = 0 → (x == 0) = true := fun x h => by rw [h]; rfl
  have n : ∀ x : Int, x ≠ 0 → ¬ (x == 0) = true := fun x h => by simpa using h
  unfold mM mx
  by_cases h1 : oM = 0
  · by_cases h2 : cM = 0
    · rw [if_pos (z _ h1), if_pos (z _ h2), h1, h2]
    · rw [if_pos (z _ h1), if_neg (n _ h2), if_pos (by omega)]
  · by_cases h2 : cM = 0
    · rw [if_neg (n _ h1), if_pos (z _ h2), if_pos (by omega)]
    · rw [if_neg (n _ h1), if_neg (n _ h2)]
      by_cases h3 : cM < oM
      · rw [if_pos h3, if_neg (by omega)]
      · rw [if_neg h3]
        by_cases h4 : oM < cM
        · rw [if_pos h4]
        · rw [if_neg h4]; omega

theorem comm_time (cM : Int) (cR : Nat) (oM : Int) (oR : Nat) (hc : inDom cM cR = true) (ho : inDom oM oR = true) : FloatKind.f64.format.order (mR cM cR oM oR) (mR oM oR cM cR) = some .eq := by
  obtain ⟨hc0, hcR, hcZ⟩ := dom_parts hc
  obtain ⟨ho0, hoR, hoZ⟩ := dom_parts ho
  unfold mR
  by_cases h1 : oM = 0
  · have b1 : (oM == 0) = true := by rw [h1]; rfl
    rw [if_pos b1, if_pos b1]
    by_cases h2 : cM = 0
    · have b2 : (cM == 0) = true := by rw [h2]; rfl
      rw [if_pos b2]
      exact ord_zeros (isZ_of _ (hcZ h2)) (isZ_of _ (hoZ h1))
    · rw [if_neg (by simpa using h2)]
      exact hcR
  · have b1 : ¬ (oM == 0) = true := by simpa using h1
    rw [if_neg b1, if_neg b1]
    by_cases h2 : cM = 0
    · have b2 : (cM == 0) = true := by rw [h2]; rfl
      rw [if_pos b2, if_pos b2]
      exact hoR
    · have b2 : ¬ (cM == 0) = true := by simpa using h2
      rw [if_neg b2, if_neg b2, ord_swap oR cR]
      cases h : FloatKind.f64.format.order oR cR with
      | none => rcases ord_none _ _ h with e | e
                · rw [hoR] at e; cases e
                · rw [hcR] at e; cases e
      | some o =>
        cases o with
        | lt => exact hoR
        | eq => exact ord_eq_symm h
        | gt => exact hcR

set_option maxHeartbeats 1000000 in
theorem comm_out1 (cM : Int) (cR : Nat) (oM : Int) (oR : Nat) (w : World) (hc : inDom cM cR = false) :
    Calls Try.prog 5 #[.int .i64 cM, .float .f64 cR, .int .i64 oM, .float .f64 oR] w fun e w' => e = .returned (.bool true) ∧ Below w.heap.size w w' := by
  have H := indom_any cM cR
  rw [hc] at H
  have HH : Hid (∀ w, Calls Try.prog 8 #[.int .i64 cM, .float .f64 cR] w fun e w' => e = .returned (.bool false) ∧ w = w') := H
  clear H hc
  go_enter Try.func5, Try.ntmps5
  go_wp2_with fail
  refine (HH.out _).mono ?_
  rintro e w' ⟨rfl, rfl⟩
  go_wp2
  go_ret
  exact ⟨rfl, Below.refl _ _⟩

set_option maxHeartbeats 1000000 in
theorem comm_out2 (cM : Int) (cR : Nat) (oM : Int) (oR : Nat) (w : World) (hc : inDom cM cR = true) (ho : inDom oM oR = false) :
    Calls Try.prog 5 #[.int .i64 cM, .float .f64 cR, .int .i64 oM, .float .f64 oR] w fun e w' => e = .returned (.bool true) ∧ Below w.heap.size w w' := by
  have H := indom_any cM cR
  rw [hc] at H
  have HH : Hid (∀ w, Calls Try.prog 8 #[.int .i64 cM, .float .f64 cR] w fun e w' => e = .returned (.bool true) ∧ w = w') := H
  have K := indom_any oM oR
  rw [ho] at K
  have HK : Hid (∀ w, Calls Try.prog 8 #[.int .i64 oM, .float .f64 oR] w fun e w' => e = .returned (.bool false) ∧ w = w') := K
  clear H hc K ho
  go_enter Try.func5, Try.ntmps5
  go_wp2_with fail
  refine (HH.out _).mono ?_
  rintro e w' ⟨rfl, rfl⟩
  go_wp2_with fail
  refine (HK.out _).mono ?_
  rintro e w' ⟨rfl, rfl⟩
  go_wp2
  go_ret
  exact ⟨rfl, Below.refl _ _⟩

set_option maxHeartbeats 1000000 in
theorem comm_in (cM : Int) (cR : Nat) (oM : Int) (oR : Nat) (w : World) (hc : inDom cM cR = true) (ho : inDom oM oR = true) :
    Calls Try.prog 5 #[.int .i64 cM, .float .f64 cR, .int .i64 oM, .float .f64 oR] w fun e w' => e = .returned (.bool true) ∧ Below w.heap.size w w' := by
  have hcount := comm_count cM oM (dom_parts hc).1 (dom_parts ho).1
  have htime := comm_time cM cR oM oR hc ho
  have H := indom_any cM cR
  rw [hc] at H
  have HH : Hid (∀ w, Calls Try.prog 8 #[.int .i64 cM, .float .f64 cR] w fun e w' => e = .returned (.bool true) ∧ w = w') := H
  have K := indom_any oM oR
  rw [ho] at K
  have HK : Hid (∀ w, Calls Try.prog 8 #[.int .i64 oM, .float .f64 oR] w fun e w' => e = .returned (.bool true) ∧ w = w') := K
  obtain ⟨M, HM⟩ : ∃ M, Hid (mM cM oM = M) := ⟨_, rfl⟩
  obtain ⟨R, HR⟩ : ∃ R, Hid (mR cM cR oM oR = R) := ⟨_, rfl⟩
  obtain ⟨R2, HR2⟩ : ∃ R2, Hid (mR oM oR cM cR = R2) := ⟨_, rfl⟩
  have HM2 : Hid (mM oM cM = M) := hcount.symm.trans HM.out
  rw [HR.out, HR2.out] at htime
  have hq : (FloatKind.f64.format.order R R2 == some .eq) = true := by rw [htime]; rfl
  clear H hc K ho hcount htime
  go_enter Try.func5, Try.ntmps5
  go_wp2_with fail
  refine (HH.out _).mono ?_
  rintro e w' ⟨rfl, rfl⟩
  go_wp2_with fail
  refine (HK.out _).mono ?_
  rintro e w' ⟨rfl, rfl⟩
  go_wp2_with fail
  refine (zzmerge_any cM cR oM oR _).mono ?_
  rintro e w1 ⟨rfl, hb1⟩
  rw [HM.out, HR.out]
  go_wp2_with fail
  refine (zzmerge_any oM oR cM cR _).mono ?_
  rintro e w2 ⟨rfl, hb2⟩
  rw [HM2.out, HR2.out]
  go_wp2
  go_ret
  exact ⟨rfl, hb1.trans (hb2.mono hb1.size)⟩

theorem comm_any (cM : Int) (cR : Nat) (oM : Int) (oR : Nat) (w : World) :
    Calls Try.prog 5 #[.int .i64 cM, .float .f64 cR, .int .i64 oM, .float .f64 oR] w fun e w' => e = .returned (.bool true) ∧ Below w.heap.size w w' := by
  cases hc : inDom cM cR with
  | false => exact comm_out1 cM cR oM oR w hc
  | true =>
    cases ho : inDom oM oR with
    | false => exact comm_out2 cM cR oM oR w hc ho
    | true => exact comm_in cM cR oM oR w hc ho

end Go.Proofs.Qxb6604193a
