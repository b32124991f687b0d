/-
  THE WALK OF bchPack (18); the six coefficients and polymod's word.
-/
import Derived.Test.Qxb6603877aStep
namespace Go.Proofs.Qxb6603877a
open Go.RowKit

theorem or5 (x c : Nat) (hx : x < 33554432) (hc : c < 32) : bits BinOp.or IntKind.u32 ((x : Int) * 32 % 4294967296) ((c : Int) % 32) = ((x * 32 + c : Nat) : Int) := by
  rw [show (x : Int) * 32 % 4294967296 = ((x * 32 : Nat) : Int) by omega, show (c : Int) % 32 = (c : Int) by omega, u32_or_nat _ _ (by omega) (by omega)]
  congr 1
  exact nat_join 5 _ _ (by omega) hc
theorem or0 (c : Nat) (hc : c < 32) : bits BinOp.or IntKind.u32 0 ((c : Int) % 32) = (c : Int) := by
  rw [show (0 : Int) = ((0 : Nat) : Int) from rfl, show (c : Int) % 32 = (c : Int) by omega, u32_or_nat _ _ (by omega) (by omega), Nat.zero_or]

set_option maxHeartbeats 1000000 in
theorem pack_any (c0 c1 c2 c3 c4 c5 : Nat) (h0 : c0 < 32) (h1 : c1 < 32) (h2 : c2 < 32) (h3 : c3 < 32) (h4 : c4 < 32) (h5 : c5 < 32) (w : World) :
    Calls Try.prog 18 #[.agg #[.int .u8 (c0 : Int), .int .u8 (c1 : Int), .int .u8 (c2 : Int), .int .u8 (c3 : Int), .int .u8 (c4 : Int), .int .u8 (c5 : Int)]] w fun e w' =>
      e = .returned (.int .u32 ((Plain.digits 0 [c5, c4, c3, c2, c1, c0] : Nat) : Int)) ∧ Below w.heap.size w w' := by
  have hbel := (Below.refl w.heap.size w).alloc (Nat.le_refl _) (Obj.cells #[.int .u8 (c0 : Int), .int .u8 (c1 : Int), .int .u8 (c2 : Int), .int .u8 (c3 : Int), .int .u8 (c4 : Int), .int .u8 (c5 : Int)] 32)
  go_enter Try.func18, Try.ntmps18
  go_wp2
  refine wp_loop_rounds 7 ?_
  rw [rounds_succ]
  go_wp2
  rw [rounds_succ]
  go_wp2
  rw [rounds_succ]
  go_wp2
  rw [rounds_succ]
  go_wp2
  rw [rounds_succ]
  go_wp2
  rw [rounds_succ]
  go_wp2
  rw [rounds_succ]
  go_wp2
  go_ret
  refine ⟨?_, hbel⟩
  show Ending.returned (Value.int IntKind.u32 _) = _
  rw [or0 c5 h5, or5 c5 c4 (by omega) h4, or5 _ c3 (by omega) h3, or5 _ c2 (by omega) h2, or5 _ c1 (by omega) h1, or5 _ c0 (by omega) h0]
  congr 3
  simp only [Plain.digits, List.foldl_cons, List.foldl_nil]
  omega

/-! ### The six coefficients and polymod's word -/
/-- The word of six coefficients. -/
def word (c0 c1 c2 c3 c4 c5 : Nat) : Nat := Plain.digits 0 [c5, c4, c3, c2, c1, c0]
theorem word_eq (c0 c1 c2 c3 c4 c5 : Nat) : word c0 c1 c2 c3 c4 c5 = ((((c5 * 32 + c4) * 32 + c3) * 32 + c2) * 32 + c1) * 32 + c0 := by
  simp only [word, Plain.digits, List.foldl_cons, List.foldl_nil]
  omega

/-- What replaces x^6, as a word. -/
theorem G_word : ∀ t < 32, Plain.G t = word (gmul t 18) (gmul t 29) (gmul t 21) (gmul t 20) (gmul t 22) (gmul t 29) := by decide +kernel

theorem word_xor (a0 a1 a2 a3 a4 a5 b0 b1 b2 b3 b4 b5 : Nat) (h0 : a0 < 32) (h1 : a1 < 32) (h2 : a2 < 32) (h3 : a3 < 32) (h4 : a4 < 32) (k0 : b0 < 32) (k1 : b1 < 32) (k2 : b2 < 32) (k3 : b3 < 32) (k4 : b4 < 32) :
    word a0 a1 a2 a3 a4 a5 ^^^ word b0 b1 b2 b3 b4 b5 = word (a0 ^^^ b0) (a1 ^^^ b1) (a2 ^^^ b2) (a3 ^^^ b3) (a4 ^^^ b4) (a5 ^^^ b5) := by
  rw [word_eq, word_eq, word_eq, Plain.xor_digit _ _ _ _ h0 k0, Plain.xor_digit _ _ _ _ h1 k1, Plain.xor_digit _ _ _ _ h2 k2, Plain.xor_digit _ _ _ _ h3 k3, Plain.xor_digit _ _ _ _ h4 k4]

/-- One step of the model is one step of polymod. -/
theorem step_word (c0 c1 c2 c3 c4 c5 v : Nat) (h0 : c0 < 32) (h1 : c1 < 32) (h2 : c2 < 32) (h3 : c3 < 32) (h4 : c4 < 32) (h5 : c5 < 32) (hv : v < 32) :
    word (v ^^^ gmul c5 18) (c0 ^^^ gmul c5 29) (c1 ^^^ gmul c5 21) (c2 ^^^ gmul c5 20) (c3 ^^^ gmul c5 22) (c4 ^^^ gmul c5 29) = Plain.step (word c0 c1 c2 c3 c4 c5) v := by
  have e1 : word c0 c1 c2 c3 c4 c5 / 33554432 = c5 := by rw [word_eq]; omega
  have e2 : word c0 c1 c2 c3 c4 c5 % 33554432 * 32 ^^^ v = word v c0 c1 c2 c3 c4 := by
    rw [Plain.xor_low _ _ hv, word_eq, word_eq]; omega
  rw [Plain.step_eq, e1, e2, G_word c5 h5, word_xor _ _ _ _ _ _ _ _ _ _ _ _ hv h0 h1 h2 h3 (gmul_lt _ _ h5) (gmul_lt _ _ h5) (gmul_lt _ _ h5) (gmul_lt _ _ h5) (gmul_lt _ _ h5)]

/-! ### A variable of six coefficients in memory -/
/-- Block X holds the six coefficients. -/
def Six (w : World) (X c0 c1 c2 c3 c4 c5 : Nat) : Prop := w.ownsRow X 32 1 (.slice (some ⟨X, 0, none⟩) 6 6) 6 (cellsOf [c0, c1, c2, c3, c4, c5])

theorem Six.lt {w : World} {X c0 c1 c2 c3 c4 c5 : Nat} (h : Six w X c0 c1 c2 c3 c4 c5) : X < w.heap.size := (World.ownsRow.lt h X rfl).2
theorem Six.drew {w : World} {X c0 c1 c2 c3 c4 c5 : Nat} (h : Six w X c0 c1 c2 c3 c4 c5) : Six w.drew X c0 c1 c2 c3 c4 c5 := World.ownsRow.drew h
theorem Six.below {w w' : World} {X c0 c1 c2 c3 c4 c5 : Nat} (h : Six w X c0 c1 c2 c3 c4 c5) (hb : Below w.heap.size w w') : Six w' X c0 c1 c2 c3 c4 c5 := by
  have hx := h.lt
  refine ⟨h.1, ?_⟩
  rcases h.2 with h2 | ⟨g, cap, cur, hv, hg, hh, r⟩
  · exact .inl h2
  · refine .inr ⟨g, cap, cur, hv, hg, ?_, r⟩
    obtain rfl : X = g := by simp at hv; exact hv.1
    rw [hb.block X hx]; exact hh
theorem Six.cells {w : World} {X c0 c1 c2 c3 c4 c5 : Nat} (h : Six w X c0 c1 c2 c3 c4 c5) :
    w.cell? ⟨X, 0, none⟩ = some (.int .u8 (c0 : Int)) ∧ w.cell? ⟨X, 1, none⟩ = some (.int .u8 (c1 : Int)) ∧ w.cell? ⟨X, 2, none⟩ = some (.int .u8 (c2 : Int)) ∧ w.cell? ⟨X, 3, none⟩ = some (.int .u8 (c3 : Int)) ∧ w.cell? ⟨X, 4, none⟩ = some (.int .u8 (c4 : Int)) ∧ w.cell? ⟨X, 5, none⟩ = some (.int .u8 (c5 : Int)) :=
  ⟨World.ownsRow.cellAt h 0 (by omega), World.ownsRow.cellAt h 1 (by omega), World.ownsRow.cellAt h 2 (by omega), World.ownsRow.cellAt h 3 (by omega), World.ownsRow.cellAt h 4 (by omega), World.ownsRow.cellAt h 5 (by omega)⟩
theorem Six.free {w : World} {X c0 c1 c2 c3 c4 c5 : Nat} (h : Six w X c0 c1 c2 c3 c4 c5) :
    w.frozen? ⟨X, 0, none⟩ = false ∧ w.frozen? ⟨X, 1, none⟩ = false ∧ w.frozen? ⟨X, 2, none⟩ = false ∧ w.frozen? ⟨X, 3, none⟩ = false ∧ w.frozen? ⟨X, 4, none⟩ = false ∧ w.frozen? ⟨X, 5, none⟩ = false :=
  ⟨World.ownsRow.frozenAt h 0, World.ownsRow.frozenAt h 1, World.ownsRow.frozenAt h 2, World.ownsRow.frozenAt h 3, World.ownsRow.frozenAt h 4, World.ownsRow.frozenAt h 5⟩
theorem Six.store {w : World} {X c0 c1 c2 c3 c4 c5 : Nat} (h : Six w X c0 c1 c2 c3 c4 c5) (r0 r1 r2 r3 r4 r5 : Nat) :
    Six ((((((w.setCell ⟨X, 0, none⟩ (.int .u8 (r0 : Int))).setCell ⟨X, 1, none⟩ (.int .u8 (r1 : Int))).setCell ⟨X, 2, none⟩ (.int .u8 (r2 : Int))).setCell ⟨X, 3, none⟩ (.int .u8 (r3 : Int))).setCell ⟨X, 4, none⟩ (.int .u8 (r4 : Int))).setCell ⟨X, 5, none⟩ (.int .u8 (r5 : Int))) X r0 r1 r2 r3 r4 r5 := by
  have s0 := (World.ownsRow.stored h 0 (.int .u8 (r0 : Int))).1
  have s1 := (World.ownsRow.stored s0 1 (.int .u8 (r1 : Int))).1
  have s2 := (World.ownsRow.stored s1 2 (.int .u8 (r2 : Int))).1
  have s3 := (World.ownsRow.stored s2 3 (.int .u8 (r3 : Int))).1
  have s4 := (World.ownsRow.stored s3 4 (.int .u8 (r4 : Int))).1
  exact (World.ownsRow.stored s4 5 (.int .u8 (r5 : Int))).1
theorem below_six {w w' : World} {X : Nat} (hb : Below X w w') (r0 r1 r2 r3 r4 r5 : Nat) :
    Below X w ((((((w'.setCell ⟨X, 0, none⟩ (.int .u8 (r0 : Int))).setCell ⟨X, 1, none⟩ (.int .u8 (r1 : Int))).setCell ⟨X, 2, none⟩ (.int .u8 (r2 : Int))).setCell ⟨X, 3, none⟩ (.int .u8 (r3 : Int))).setCell ⟨X, 4, none⟩ (.int .u8 (r4 : Int))).setCell ⟨X, 5, none⟩ (.int .u8 (r5 : Int))) :=
  (((((hb.setCell (Nat.le_refl _) _).setCell (Nat.le_refl _) _).setCell (Nat.le_refl _) _).setCell (Nat.le_refl _) _).setCell (Nat.le_refl _) _).setCell (Nat.le_refl _) _

/-- The coefficients are those of the remainder behind vs. -/
def IsRem (c0 c1 c2 c3 c4 c5 : Nat) (vs : List Nat) : Prop := c0 < 32 ∧ c1 < 32 ∧ c2 < 32 ∧ c3 < 32 ∧ c4 < 32 ∧ c5 < 32 ∧ word c0 c1 c2 c3 c4 c5 = Plain.run 1 vs
theorem IsRem.start : IsRem 1 0 0 0 0 0 [] := ⟨by omega, by omega, by omega, by omega, by omega, by omega, by rw [word_eq]; rfl⟩
theorem IsRem.next {c0 c1 c2 c3 c4 c5 : Nat} {vs : List Nat} (h : IsRem c0 c1 c2 c3 c4 c5 vs) (v : Nat) (hv : v < 32) :
    IsRem (v ^^^ gmul c5 18) (c0 ^^^ gmul c5 29) (c1 ^^^ gmul c5 21) (c2 ^^^ gmul c5 20) (c3 ^^^ gmul c5 22) (c4 ^^^ gmul c5 29) (vs ++ [v]) := by
  obtain ⟨h0, h1, h2, h3, h4, h5, hw⟩ := h
  have hx : ∀ {a b : Nat}, a < 32 → a ^^^ gmul c5 b < 32 := fun ha => Nat.xor_lt_two_pow (n := 5) ha (gmul_lt _ _ h5)
  refine ⟨hx hv, hx h0, hx h1, hx h2, hx h3, hx h4, ?_⟩
  rw [step_word c0 c1 c2 c3 c4 c5 v h0 h1 h2 h3 h4 h5 hv, hw, Plain.run_append]
  rfl

end Go.Proofs.Qxb6603877a
