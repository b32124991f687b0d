/-
  THE WALKS OF merge (9), ZZMerge (6).
-/
import Derived.Test.Qxb6604193aRows
import Derived.WalkKit
import Derived.WalkSpells
import Derived.WalkLawsBesides
import Derived.Deep.QuietTactic
import Derived.BigQuiet
namespace Go.Proofs.Qxb6604193a
open Go.RowKit

/-- How two floats stand to each other. -/
def ord (a b : Nat) : Option Ordering := FloatKind.f64.format.order a b

/-- A float is stored as any value of one cell (a law that the kit lacks). -/
theorem run_store_float {P : Program} (w : World) (a : Addr) (m : Mode) (k : FloatKind) (b : Nat) : (store a (.float k b) m).run P w = stored P w a (.float k b) m := run_store P w a _ m rfl
attribute [local go_sem] run_store_float

set_option maxHeartbeats 400000 in
theorem merge_none (B : Nat) (oR : Nat) (w : World) :
    Calls Try.prog 9 #[.pointer (some ⟨B, 0, none⟩), .agg #[.int .i64 0, .float .f64 oR]] w fun e w' => e = .returned (.tuple #[]) ∧ w' = w.alloc (.cells #[.int .i64 0, .float .f64 oR] 29) := by
  go_enter Try.func9, Try.ntmps9
  go_wp2
  exact bodyPost_ret (results_none rfl _ _ _) rfl ⟨rfl, rfl⟩

/-- Go's max of two counts. -/
def mx (c o : Int) : Int := if c < o then o else c

theorem set_two (W : World) (B : Nat) (u0 u1 r m : Value) (h0 : W.cell? ⟨B, 0, none⟩ = some u0) (h1 : W.cell? ⟨B, 1, none⟩ = some u1) :
    ((W.setCell ⟨B, 1, none⟩ r).setCell ⟨B, 0, none⟩ m).cell? ⟨B, 0, none⟩ = some m ∧ ((W.setCell ⟨B, 1, none⟩ r).setCell ⟨B, 0, none⟩ m).cell? ⟨B, 1, none⟩ = some r := by
  have e0 : (W.setCell ⟨B, 1, none⟩ r).cell? ⟨B, 0, none⟩ = some u0 := by
    rw [World.cell?_setCell_other _ _ _ _ (by simp)]; exact h0
  exact ⟨World.cell?_setCell_same _ _ _ e0, by rw [World.cell?_setCell_other _ _ _ _ (by simp)]; exact World.cell?_setCell_same _ _ _ h1⟩
theorem set_one (W : World) (B : Nat) (u0 u1 m : Value) (h0 : W.cell? ⟨B, 0, none⟩ = some u0) (h1 : W.cell? ⟨B, 1, none⟩ = some u1) :
    (W.setCell ⟨B, 0, none⟩ m).cell? ⟨B, 0, none⟩ = some m ∧ (W.setCell ⟨B, 0, none⟩ m).cell? ⟨B, 1, none⟩ = some u1 :=
  ⟨World.cell?_setCell_same _ _ _ h0, by rw [World.cell?_setCell_other _ _ _ _ (by simp)]; exact h1⟩

set_option maxHeartbeats 400000 in
theorem merge_take (B : Nat) (cM : Int) (cR : Nat) (oM : Int) (oR : Nat) (w : World) (hB : B < w.heap.size) (hoM : (oM == 0) = false) (hcM : (cM == 0) = true) (c0 : w.cell? ⟨B, 0, none⟩ = some (.int .i64 cM)) (c1 : w.cell? ⟨B, 1, none⟩ = some (.float .f64 cR)) (f0 : w.frozen? ⟨B, 0, none⟩ = false) (f1 : w.frozen? ⟨B, 1, none⟩ = false) :
    Calls Try.prog 9 #[.pointer (some ⟨B, 0, none⟩), .agg #[.int .i64 oM, .float .f64 oR]] w fun e w' => e = .returned (.tuple #[]) ∧ w'.cell? ⟨B, 0, none⟩ = some (.int .i64 (mx cM oM)) ∧ w'.cell? ⟨B, 1, none⟩ = some (.float .f64 oR) ∧ Below B w w' := by
  go_enter Try.func9, Try.ntmps9
  go_wp2
  go_quiet (fail)
  go_wp2
  go_region
  go_end0
  have h0 : ((w.alloc (Obj.cells #[Value.int IntKind.i64 oM, Value.float FloatKind.f64 oR] 29)).drewN nq).cell? ⟨B, 0, none⟩ = some (.int .i64 cM) := (World.cell?_alloc_lt _ _ _ hB).trans c0
  have h1 : ((w.alloc (Obj.cells #[Value.int IntKind.i64 oM, Value.float FloatKind.f64 oR] 29)).drewN nq).cell? ⟨B, 1, none⟩ = some (.float .f64 cR) := (World.cell?_alloc_lt _ _ _ hB).trans c1
  have hs := set_two _ B _ _ (.float .f64 oR) (.int .i64 (mx cM oM)) h0 h1
  exact ⟨rfl, hs.1, hs.2, ((below_drewN (((Below.refl B w).alloc (Nat.le_of_lt hB) _)) nq).setCell (Nat.le_refl _) _ |>.setCell (Nat.le_refl _) _).drew⟩

set_option maxHeartbeats 400000 in
theorem merge_less (B : Nat) (cM : Int) (cR : Nat) (oM : Int) (oR : Nat) (w : World) (hB : B < w.heap.size) (hoM : (oM == 0) = false) (hcM : (cM == 0) = false) (hlt : (FloatKind.f64.format.order oR cR == some .lt) = true) (c0 : w.cell? ⟨B, 0, none⟩ = some (.int .i64 cM)) (c1 : w.cell? ⟨B, 1, none⟩ = some (.float .f64 cR)) (f0 : w.frozen? ⟨B, 0, none⟩ = false) (f1 : w.frozen? ⟨B, 1, none⟩ = false) :
    Calls Try.prog 9 #[.pointer (some ⟨B, 0, none⟩), .agg #[.int .i64 oM, .float .f64 oR]] w fun e w' => e = .returned (.tuple #[]) ∧ w'.cell? ⟨B, 0, none⟩ = some (.int .i64 (mx cM oM)) ∧ w'.cell? ⟨B, 1, none⟩ = some (.float .f64 oR) ∧ Below B w w' := by
  go_enter Try.func9, Try.ntmps9
  go_wp2
  go_quiet (fail)
  go_wp2
  go_region
  go_end0
  have h0 : ((w.alloc (Obj.cells #[Value.int IntKind.i64 oM, Value.float FloatKind.f64 oR] 29)).drewN nq).cell? ⟨B, 0, none⟩ = some (.int .i64 cM) := (World.cell?_alloc_lt _ _ _ hB).trans c0
  have h1 : ((w.alloc (Obj.cells #[Value.int IntKind.i64 oM, Value.float FloatKind.f64 oR] 29)).drewN nq).cell? ⟨B, 1, none⟩ = some (.float .f64 cR) := (World.cell?_alloc_lt _ _ _ hB).trans c1
  have hs := set_two _ B _ _ (.float .f64 oR) (.int .i64 (mx cM oM)) h0 h1
  exact ⟨rfl, hs.1, hs.2, ((below_drewN (((Below.refl B w).alloc (Nat.le_of_lt hB) _)) nq).setCell (Nat.le_refl _) _ |>.setCell (Nat.le_refl _) _).drew⟩

set_option maxHeartbeats 400000 in
theorem merge_keep (B : Nat) (cM : Int) (cR : Nat) (oM : Int) (oR : Nat) (w : World) (hB : B < w.heap.size) (hoM : (oM == 0) = false) (hcM : (cM == 0) = false) (hlt : (FloatKind.f64.format.order oR cR == some .lt) = false) (c0 : w.cell? ⟨B, 0, none⟩ = some (.int .i64 cM)) (c1 : w.cell? ⟨B, 1, none⟩ = some (.float .f64 cR)) (f0 : w.frozen? ⟨B, 0, none⟩ = false) :
    Calls Try.prog 9 #[.pointer (some ⟨B, 0, none⟩), .agg #[.int .i64 oM, .float .f64 oR]] w fun e w' => e = .returned (.tuple #[]) ∧ w'.cell? ⟨B, 0, none⟩ = some (.int .i64 (mx cM oM)) ∧ w'.cell? ⟨B, 1, none⟩ = some (.float .f64 cR) ∧ Below B w w' := by
  go_enter Try.func9, Try.ntmps9
  go_wp2
  go_quiet (fail)
  go_wp2
  go_region
  go_end0
  have h0 : ((w.alloc (Obj.cells #[Value.int IntKind.i64 oM, Value.float FloatKind.f64 oR] 29)).drewN nq).cell? ⟨B, 0, none⟩ = some (.int .i64 cM) := (World.cell?_alloc_lt _ _ _ hB).trans c0
  have h1 : ((w.alloc (Obj.cells #[Value.int IntKind.i64 oM, Value.float FloatKind.f64 oR] 29)).drewN nq).cell? ⟨B, 1, none⟩ = some (.float .f64 cR) := (World.cell?_alloc_lt _ _ _ hB).trans c1
  have hs := set_one _ B _ _ (.int .i64 (mx cM oM)) h0 h1
  exact ⟨rfl, hs.1, hs.2, ((below_drewN (((Below.refl B w).alloc (Nat.le_of_lt hB) _)) nq).setCell (Nat.le_refl _) _).drew⟩

/-- The count and the time that merge leaves. -/
def mM (cM oM : Int) : Int := if (oM == 0) = true then cM else mx cM oM
def mR (cM : Int) (cR : Nat) (oM : Int) (oR : Nat) : Nat := if (oM == 0) = true then cR else if (cM == 0) = true then oR else if (FloatKind.f64.format.order oR cR == some .lt) = true then oR else cR

theorem merge_any (B : Nat) (cM : Int) (cR : Nat) (oM : Int) (oR : Nat) (w : World) (hB : B < w.heap.size) (c0 : w.cell? ⟨B, 0, none⟩ = some (.int .i64 cM)) (c1 : w.cell? ⟨B, 1, none⟩ = some (.float .f64 cR)) (f0 : w.frozen? ⟨B, 0, none⟩ = false) (f1 : w.frozen? ⟨B, 1, none⟩ = false) :
    Calls Try.prog 9 #[.pointer (some ⟨B, 0, none⟩), .agg #[.int .i64 oM, .float .f64 oR]] w fun e w' => e = .returned (.tuple #[]) ∧ w'.cell? ⟨B, 0, none⟩ = some (.int .i64 (mM cM oM)) ∧ w'.cell? ⟨B, 1, none⟩ = some (.float .f64 (mR cM cR oM oR)) ∧ Below B w w' := by
  unfold mM mR
  by_cases ho : (oM == 0) = true
  · rw [if_pos ho, if_pos ho]
    obtain rfl : oM = 0 := eq_of_beq ho
    refine (merge_none B oR w).mono fun e w' ⟨he, hw⟩ => ?_
    subst he; subst hw
    exact ⟨rfl, (World.cell?_alloc_lt _ _ _ hB).trans c0, (World.cell?_alloc_lt _ _ _ hB).trans c1, (Below.refl B w).alloc (Nat.le_of_lt hB) _⟩
  · rw [if_neg ho, if_neg ho]
    have ho' : (oM == 0) = false := by simpa using ho
    by_cases hc : (cM == 0) = true
    · rw [if_pos hc]
      exact merge_take B cM cR oM oR w hB ho' hc c0 c1 f0 f1
    · rw [if_neg hc]
      have hc' : (cM == 0) = false := by simpa using hc
      by_cases hlt : (FloatKind.f64.format.order oR cR == some .lt) = true
      · rw [if_pos hlt]
        exact merge_less B cM cR oM oR w hB ho' hc' hlt c0 c1 f0 f1
      · rw [if_neg hlt]
        exact merge_keep B cM cR oM oR w hB ho' hc' (by simpa using hlt) c0 c1 f0

set_option maxHeartbeats 400000 in
theorem zzmerge_any (cM : Int) (cR : Nat) (oM : Int) (oR : Nat) (w : World) :
    Calls Try.prog 6 #[.int .i64 cM, .float .f64 cR, .int .i64 oM, .float .f64 oR] w fun e w' => e = .returned (.tuple #[.int .i64 (mM cM oM), .float .f64 (mR cM cR oM oR)]) ∧ Below w.heap.size w w' := by
  go_enter Try.func6, Try.ntmps6
  go_wp2_with fail
  refine (merge_any w.heap.size cM cR oM oR _ (by simp) (by simp) (by simp) (by simp) (by simp)).mono ?_
  rintro e w1 ⟨rfl, d0, d1, hb1⟩
  obtain ⟨M, HM⟩ : ∃ M, Hid (M = mM cM oM) := ⟨_, rfl⟩
  obtain ⟨R, HR⟩ : ∃ R, Hid (R = mR cM cR oM oR) := ⟨_, rfl⟩
  rw [← HM.out] at d0
  rw [← HR.out] at d1
  go_wp2
  go_quiet (fail)
  go_wp2
  go_ret2
  refine ⟨?_, below_drewN (((Below.refl w.heap.size w).alloc (Nat.le_refl _) _).trans hb1) _⟩
  show Ending.returned (Value.tuple #[Value.int .i64 M, Value.float .f64 R]) = _
  rw [HM.out, HR.out]

end Go.Proofs.Qxb6604193a
