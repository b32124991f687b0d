/-
  THE WALK OF FnRegroupIsBitStreamRecut (4).
-/
import Derived.Test.Qxb6603877aRegroup
import Derived.Deep.QuietTactic
import Derived.BigQuiet
namespace Go.Proofs.Qxb6603877a
open Go.RowKit

set_option maxHeartbeats 400000 in
theorem zz11_yes (a : Option Addr) (len cap : Nat) (f t : Int) (w : World) (h : len ≤ 1048576) :
    Calls Try.prog 11 #[.slice a len cap, .int .u64 f, .int .u64 t] w fun e w' => e = .returned (.bool true) ∧ w = w' := by
  go_enter Try.func11, Try.ntmps11
  go_wp2
  go_ret
  exact ⟨rfl, rfl⟩

set_option maxHeartbeats 400000 in
theorem zz11_no (a : Option Addr) (len cap : Nat) (f t : Int) (w : World) (h : 1048576 < len) :
    Calls Try.prog 11 #[.slice a len cap, .int .u64 f, .int .u64 t] w fun e w' => e = .returned (.bool false) ∧ w = w' := by
  go_enter Try.func11, Try.ntmps11
  go_wp2
  go_ret
  exact ⟨rfl, rfl⟩

set_option maxHeartbeats 400000 in
theorem recut_long (a : Option Addr) (len cap : Nat) (f t : Int) (w : World) (h : 131072 < len) :
    Calls Try.prog 4 #[.slice a len cap, .int .u64 f, .int .u64 t] w fun e w' => e = .returned (.bool true) ∧ Below w.heap.size w w' := by
  by_cases h2 : len ≤ 1048576
  · go_enter Try.func4, Try.ntmps4
    go_wp2_with (go_at_call 11; refine (zz11_yes a len cap f t _ h2).mono ?_; rintro e w' ⟨rfl, rfl⟩)
    go_ret
    exact ⟨rfl, Below.refl _ _⟩
  · go_enter Try.func4, Try.ntmps4
    go_wp2_with (go_at_call 11; refine (zz11_no a len cap f t _ (by omega)).mono ?_; rintro e w' ⟨rfl, rfl⟩)
    go_ret
    exact ⟨rfl, Below.refl _ _⟩

set_option maxHeartbeats 400000 in
theorem recut_out (a : Option Addr) (len cap : Nat) (f t : Int) (w : World) (h : len ≤ 131072) (hft : 8 < f ∨ t < 1 ∨ 8 < t) :
    Calls Try.prog 4 #[.slice a len cap, .int .u64 f, .int .u64 t] w fun e w' => e = .returned (.bool true) ∧ Below w.heap.size w w' := by
  by_cases hf : 8 < f
  · clear hft
    go_enter Try.func4, Try.ntmps4
    go_wp2_with (go_at_call 11; refine (zz11_yes a len cap f t _ (by omega)).mono ?_; rintro e w' ⟨rfl, rfl⟩)
    go_ret
    exact ⟨rfl, Below.refl _ _⟩
  · by_cases ht : t < 1
    · clear hft
      go_enter Try.func4, Try.ntmps4
      go_wp2_with (go_at_call 11; refine (zz11_yes a len cap f t _ (by omega)).mono ?_; rintro e w' ⟨rfl, rfl⟩)
      go_ret
      exact ⟨rfl, Below.refl _ _⟩
    · have ht8 : 8 < t := by omega
      clear hft
      go_enter Try.func4, Try.ntmps4
      go_wp2_with (go_at_call 11; refine (zz11_yes a len cap f t _ (by omega)).mono ?_; rintro e w' ⟨rfl, rfl⟩)
      go_ret
      exact ⟨rfl, Below.refl _ _⟩

theorem u64_pow (f : Nat) (hf : f ≤ 8) : IntKind.u64.wrap ((2 : Int) ^ f) = ((2 ^ f : Nat) : Int) := by
  have h := pow_le256 f hf
  have e : ((2 : Int) ^ f) = ((2 ^ f : Nat) : Int) := by rw [Int.natCast_pow]; rfl
  rw [e]
  generalize 2 ^ f = x at h
  exact IntWalk.u64_in _ ⟨by omega, by omega⟩

theorem bit_in (x z S : Nat) (hx : x < 128) (hz : z < 256) : bits BinOp.or IntKind.u8 ((x : Int) * 2 % 256) (bits BinOp.and IntKind.u8 ((z : Int) / 2 ^ S) 1) = ((x * 2 + z / 2 ^ S % 2 : Nat) : Int) := by
  have e1 : ((z : Int) / 2 ^ S) = ((z / 2 ^ S : Nat) : Int) := by simp
  have e2 : (x : Int) * 2 % 256 = ((x * 2 : Nat) : Int) := by omega
  rw [e1, e2, show (1 : Int) = ((1 : Nat) : Int) from rfl, u8_and_nat _ 1 (Nat.lt_of_le_of_lt (Nat.div_le_self _ _) hz) (by omega), nat_mask1, u8_or_nat _ _ (by omega) (by omega)]
  congr 1
  exact nat_join 1 _ _ (by omega) (by omega)
theorem bit_none (x : Nat) (hx : x < 128) : bits BinOp.or IntKind.u8 ((x : Int) * 2 % 256) 0 = ((x * 2 : Nat) : Int) := by
  have e2 : (x : Int) * 2 % 256 = ((x * 2 : Nat) : Int) := by omega
  rw [e2, show (0 : Int) = ((0 : Nat) : Int) from rfl, u8_or_nat _ _ (by omega) (by omega), Nat.or_zero]
theorem num_small (g : Nat → Nat) (hg : ∀ i, g i < 2) (p j t : Nat) (hj : j < t) (ht : t ≤ 8) : Plain.num g p j < 128 := by
  have h1 := Plain.num_lt g hg p j
  have h2 : 2 ^ j ≤ 2 ^ 7 := Nat.pow_le_pow_right (by omega) (by omega)
  omega
theorem num_256 (g : Nat → Nat) (hg : ∀ i, g i < 2) (p j t : Nat) (hj : j ≤ t) (ht : t ≤ 8) : Plain.num g p j < 256 := by
  have h1 := Plain.num_lt g hg p j
  have h2 := pow_le256 j (by omega)
  omega

set_option maxHeartbeats 1000000 in
theorem recut_main (a : Option Addr) (len cap f t : Nat) (zs : List Nat) (w : World) (h : len ≤ 131072) (hf : f ≤ 8) (ht0 : 1 ≤ t) (ht : t ≤ 8) (hB : Bytes w a len zs) :
    Calls Try.prog 4 #[.slice a len cap, .int .u64 f, .int .u64 t] w fun e w' => e = .returned (.bool true) ∧ Below w.heap.size w w' := by
  have hl := hB.1
  go_enter Try.func4, Try.ntmps4
  go_wp2_with (go_at_call 11; refine (zz11_yes a len cap f t _ (by omega)).mono ?_; rintro e w' ⟨rfl, rfl⟩)
  go_loop [7] (fun i => ∃ k : Nat, k ≤ len ∧ i = .int .i64 k ∧ Hid (∀ i, i < k → zs.getD i 0 < 2 ^ f)) (fun i => len - (intOf i).toNat)
  case atStart => exact ⟨0, Nat.zero_le _, rfl, fun i h => absurd h (by omega)⟩
  case round =>
    obtain ⟨k, hk, rfl, HZ⟩ := hrel
    by_cases hlt : k < len
    · obtain ⟨z, Hz⟩ : ∃ z, Hid (z = zs.getD k 0) := ⟨_, rfl⟩
      have hz8 : z < 256 := by rw [Hz.out]; exact hB.lt k
      obtain ⟨b, o, rfl, _, hcW⟩ := hB.2.2 (by omega)
      have hcell : w.cell? ⟨b, o + k, none⟩ = some (.int .u8 (z : Int)) := by rw [Hz.out]; exact hcW k hlt
      clear hcW hB
      go_wp2
      · go_ret
        exact ⟨rfl, Below.refl _ _⟩
      · have h1 : (z : Int) < IntKind.u64.wrap (2 ^ f) := by assumption
        have h32 : z < 2 ^ f := by rw [u64_pow f hf] at h1; omega
        go_round
        case rel => exact ⟨k + 1, by omega, by go_num, fun i hi => by
          by_cases e : i = k
          · rw [e, ← Hz.out]; exact h32
          · exact HZ.out i (by omega)⟩
        case measure => simp [intOf]; omega
    · obtain rfl : len = k := by omega
      have HZ0 := HZ
      clear HZ hk hlt
      go_wp2_with fail
      refine (clone_any a len cap zs _ hB (by omega)).mono ?_
      rintro e w1 ⟨a1, cap1, rfl, hB1, hb1⟩
      clear hB
      go_wp2_with fail
      refine (zzregroup_any a1 len cap1 f t zs _ hB1 (by omega) hf ht ht0 HZ0.out).mono ?_
      rintro e w2 ⟨g2, rfl, hBo, hb2⟩
      have hB2 := hB1.below hb2
      have hbw2 : Below w.heap.size w w2 := hb1.trans (hb2.mono hb1.size)
      clear hB1 hb1 hb2
      obtain ⟨T, HT⟩ : ∃ T, Hid (T = len * f) := ⟨_, rfl⟩
      have hT : T ≤ 1048576 := by
        rw [HT.out]
        have := Nat.mul_le_mul h hf
        omega
      have hmul : IntKind.i64.wrap ((len : Int) * (f : Int)) = (T : Int) := by
        rw [HT.out, ← Int.natCast_mul]
        exact IntWalk.i64_in _ ⟨by omega, by have := HT.out; omega⟩
      obtain ⟨m, Hm⟩ : ∃ m, Hid (m = Plain.groups len f t) := ⟨_, rfl⟩
      rw [← Hm.out] at hBo
      have hm8 : m * t < T + t := by rw [Hm.out, HT.out]; exact Plain.groups_low len f t (by omega)
      have hmb : m ≤ 2000000 := by
        have := Nat.le_mul_of_pos_right m (show 0 < t by omega)
        omega
      have hneq : ((m : Int) != ((T : Int) + (t : Int) - 1) / (t : Int)) = false := by
        rw [Hm.out, Plain.groups, ← HT.out, show (T : Int) + (t : Int) - 1 = ((T + t - 1 : Nat) : Int) by omega, Int.natCast_ediv]
        simp
      rw [show Plain.groups len f t = m from Hm.out.symm]
      go_wp2
      clear hneq hmul
      obtain ⟨g, HG⟩ : ∃ g, Hid (g = Plain.sbit zs f) := ⟨_, rfl⟩
      have hg : Hid (∀ i, g i < 2) := by
        show ∀ i, g i < 2
        rw [HG.out]; exact Plain.sbit_lt zs f
      rw [← HG.out] at hBo
      go_loopw [12] (fun i wr => ∃ k : Nat, k ≤ m ∧ i = .int .i64 k ∧ Below w2.heap.size w2 wr) (fun i _ => m - (intOf i).toNat)
      case atStart => exact ⟨0, Nat.zero_le _, rfl, Below.refl _ _⟩
      case round =>
        obtain ⟨k, hk, rfl, hb⟩ := hrel
        by_cases hlt : k < m
        · obtain ⟨w3, rfl⟩ : ∃ w3 : World, w3 = wr := ⟨_, rfl⟩
          have hb3 := hb
          clear hb
          obtain ⟨P, HP⟩ : ∃ P, Hid (P = k * t) := ⟨_, rfl⟩
          have hP : P + t ≤ 2000000 := by
            have h1 := Nat.mul_le_mul_right t (show k + 1 ≤ m by omega)
            rw [Nat.add_mul, ← HP.out] at h1
            omega
          have hmul : IntKind.i64.wrap ((k : Int) * (t : Int)) = (P : Int) := by
            rw [HP.out, ← Int.natCast_mul]
            exact IntWalk.i64_in _ ⟨by omega, by have := HP.out; omega⟩
          go_wp2
          go_loopw [13, 14] (fun e j wr => ∃ i x : Nat, i ≤ t ∧ x < 256 ∧ j = .int .i64 (i : Int) ∧ e = .int .u8 (x : Int) ∧ Hid (x = Plain.num g P i) ∧ Below w2.heap.size w2 wr) (fun _ j _ => t - (intOf j).toNat)
          case atStart => exact ⟨0, 0, Nat.zero_le _, by omega, rfl, rfl, rfl, hb3⟩
          case round =>
            clear hb3
            obtain ⟨j, x, hj, hx, rfl, rfl, HX, hb⟩ := hrel
            by_cases hjt : j < t
            · by_cases hp : P + j < T
              · have hf0 : 1 ≤ f := by
                  rcases Nat.eq_zero_or_pos f with e | e
                  · rw [HT.out, e] at hp; omega
                  · exact e
                obtain ⟨Q, HQ⟩ : ∃ Q, Hid (Q = (P + j) / f) := ⟨_, rfl⟩
                obtain ⟨R, HR⟩ : ∃ R, Hid (R = (P + j) % f) := ⟨_, rfl⟩
                have hQ : Q < len := by rw [HQ.out]; exact (Nat.div_lt_iff_lt_mul (by omega)).2 (by rw [← HT.out]; exact hp)
                have hR : R < f := by rw [HR.out]; exact Nat.mod_lt _ (by omega)
                have hdiv : ((P : Int) + (j : Int)) / (f : Int) = (Q : Int) := by rw [HQ.out]; simp
                have hmod : ((P : Int) + (j : Int)) % (f : Int) = (R : Int) := by rw [HR.out]; simp
                obtain ⟨S, HS⟩ : ∃ S, Hid (f = S + 1 + R) := ⟨f - 1 - R, by show _ = _; omega⟩
                have hS : (f : Int) - 1 - (R : Int) = (S : Int) := by have := HS.out; omega
                have hS8 : S < 8 := by have := HS.out; omega
                obtain ⟨z, Hz⟩ : ∃ z, Hid (z = zs.getD Q 0) := ⟨_, rfl⟩
                have hz8 : z < 256 := by rw [Hz.out]; exact hB2.lt Q
                obtain ⟨b, o, rfl, _, hcW⟩ := (hB2.below hb).2.2 (by omega)
                have hcell : wr.cell? ⟨b, o + Q, none⟩ = some (.int .u8 (z : Int)) := by rw [Hz.out]; exact hcW Q hQ
                clear hcW hB2 hBo hbw2
                go_wp2
                go_region
                go_wp2
                have hx7 : x < 128 := by rw [HX.out]; exact num_small g hg.out P j t hjt ht
                have hbit : z / 2 ^ S % 2 = g (P + j) := by
                  rw [HG.out, Plain.sbit, if_pos (by rw [hl, ← HT.out]; exact hp), ← HQ.out, ← HR.out, ← Hz.out, show f - 1 - R = S by have := HS.out; omega]
                have hnum : x * 2 + z / 2 ^ S % 2 = Plain.num g P (j + 1) := by rw [hbit, HX.out]; rfl
                go_roundw
                case rel => exact ⟨j + 1, x * 2 + z / 2 ^ S % 2, by omega, by omega, by go_num, congrArg _ (bit_in x z S hx7 hz8), hnum, hb.drew⟩
                case measure => simp [intOf]; omega
              · clear hB2 hBo hbw2
                go_wp2
                have hx7 : x < 128 := by rw [HX.out]; exact num_small g hg.out P j t hjt ht
                have hbit : g (P + j) = 0 := by rw [HG.out]; exact Plain.sbit_end _ _ _ (by rw [hl, ← HT.out]; omega)
                have hnum : x * 2 = Plain.num g P (j + 1) := by rw [HX.out]; simp only [Plain.num]; rw [hbit]; rfl
                go_roundw
                case rel => exact ⟨j + 1, x * 2, by omega, by omega, by go_num, congrArg _ (bit_none x hx7), hnum, hb⟩
                case measure => simp [intOf]; omega
            · obtain rfl : t = j := by omega
              obtain ⟨b, o, he, _, hcW⟩ := (hBo.below hb).2.2 (by omega)
              obtain ⟨rfl, rfl⟩ : g2 = b ∧ 0 = o := by simpa using he
              have hcell : wr.cell? ⟨g2, k, none⟩ = some (.int .u8 (x : Int)) := by
                have := hcW k hlt
                rw [Plain.outs_get _ _ _ _ hlt, ← HP.out, ← HX.out, Nat.zero_add] at this
                exact this
              clear hcW he hB2 hBo hbw2
              go_wp2
              go_roundw
              case rel => exact ⟨k + 1, by omega, by go_num, hb⟩
              case measure => simp [intOf]; omega
        · go_wp2
          go_ret
          exact ⟨rfl, hbw2.trans (hb.mono hbw2.size)⟩

end Go.Proofs.Qxb6603877a
