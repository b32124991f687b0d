/-
  THE WALK OF FnRegroupBackAndForthKeepsInput (5).
-/
import Derived.Test.Qxb6603877aRecut
namespace Go.Proofs.Qxb6603877a
open Go.RowKit

set_option maxHeartbeats 400000 in
theorem zz13_yes (a : Option Addr) (len cap : Nat) (f t : Int) (w : World) (h : len ≤ 1048576) :
    Calls Try.prog 13 #[.slice a len cap, .int .u64 f, .int .u64 t] w fun e w' => e = .returned (.bool true) ∧ w = w' := by
  go_enter Try.func13, Try.ntmps13
  go_wp2
  go_ret
  exact ⟨rfl, rfl⟩

set_option maxHeartbeats 400000 in
theorem zz13_no (a : Option Addr) (len cap : Nat) (f t : Int) (w : World) (h : 1048576 < len) :
    Calls Try.prog 13 #[.slice a len cap, .int .u64 f, .int .u64 t] w fun e w' => e = .returned (.bool false) ∧ w = w' := by
  go_enter Try.func13, Try.ntmps13
  go_wp2
  go_ret
  exact ⟨rfl, rfl⟩

set_option maxHeartbeats 400000 in
theorem back_long (a : Option Addr) (len cap : Nat) (f t : Int) (w : World) (h : 131072 < len) :
    Calls Try.prog 5 #[.slice a len cap, .int .u64 f, .int .u64 t] w fun e w' => e = .returned (.bool true) ∧ Below w.heap.size w w' := by
  by_cases h2 : len ≤ 1048576
  · go_enter Try.func5, Try.ntmps5
    go_wp2_with (go_at_call 13; refine (zz13_yes a len cap f t _ h2).mono ?_; rintro e w' ⟨rfl, rfl⟩)
    go_ret
    exact ⟨rfl, Below.refl _ _⟩
  · go_enter Try.func5, Try.ntmps5
    go_wp2_with (go_at_call 13; refine (zz13_no a len cap f t _ (by omega)).mono ?_; rintro e w' ⟨rfl, rfl⟩)
    go_ret
    exact ⟨rfl, Below.refl _ _⟩

set_option maxHeartbeats 400000 in
theorem back_at (a : Option Addr) (len cap : Nat) (f t : Int) (w : World) (h : len ≤ 131072) (hft : f < 1 ∨ (1 ≤ f ∧ 8 < f) ∨ (1 ≤ f ∧ f ≤ 8 ∧ t < 1) ∨ (1 ≤ f ∧ f ≤ 8 ∧ 1 ≤ t ∧ 8 < t)) :
    Calls Try.prog 5 #[.slice a len cap, .int .u64 f, .int .u64 t] w fun e w' => e = .returned (.bool true) ∧ Below w.heap.size w w' := by
  rcases hft with h1 | ⟨h1, h2⟩ | ⟨h1, h2, h3⟩ | ⟨h1, h2, h3, h4⟩
  all_goals
    go_enter Try.func5, Try.ntmps5
    go_wp2_with (go_at_call 13; refine (zz13_yes a len cap f t _ (by omega)).mono ?_; rintro e w' ⟨rfl, rfl⟩)
    go_ret
    exact ⟨rfl, Below.refl _ _⟩

set_option maxHeartbeats 1000000 in
theorem back_main (a : Option Addr) (len cap f t : Nat) (zs : List Nat) (w : World) (h : len ≤ 131072) (hf0 : 1 ≤ f) (hf : f ≤ 8) (ht0 : 1 ≤ t) (ht : t ≤ 8) (hB : Bytes w a len zs) :
    Calls Try.prog 5 #[.slice a len cap, .int .u64 f, .int .u64 t] w fun e w' => e = .returned (.bool true) ∧ Below w.heap.size w w' := by
  have hl := hB.1
  go_enter Try.func5, Try.ntmps5
  go_wp2_with (go_at_call 13; refine (zz13_yes a len cap f t _ (by omega)).mono ?_; rintro e w' ⟨rfl, rfl⟩)
  go_loop [7] (fun i => ∃ k : Nat, k ≤ len ∧ i = .int .i64 k ∧ Hid (∀ i, i < k → zs.getD i 0 < 2 ^ f)) (fun i => len - (intOf i).toNat)
  case atStart => exact ⟨0, Nat.zero_le _, rfl, fun i h => absurd h (by omega)⟩
  case round =>
    obtain ⟨k, hk, rfl, HZ⟩ := hrel
    by_cases hlt : k < len
    · obtain ⟨z, Hz⟩ : ∃ z, Hid (z = zs.getD k 0) := ⟨_, rfl⟩
      have hz8 : z < 256 := by rw [Hz.out]; exact hB.lt k
      obtain ⟨b, o, rfl, _, hcW⟩ := hB.2.2 (by omega)
      have hcell : w.cell? ⟨b, o + k, none⟩ = some (.int .u8 (z : Int)) := by rw [Hz.out]; exact hcW k hlt
      clear hcW hB
      go_wp2
      · go_ret
        exact ⟨rfl, Below.refl _ _⟩
      · have h1 : (z : Int) < IntKind.u64.wrap (2 ^ f) := by assumption
        have h32 : z < 2 ^ f := by rw [u64_pow f hf] at h1; omega
        go_round
        case rel => exact ⟨k + 1, by omega, by go_num, fun i hi => by
          by_cases e : i = k
          · rw [e, ← Hz.out]; exact h32
          · exact HZ.out i (by omega)⟩
        case measure => simp [intOf]; omega
    · obtain rfl : len = k := by omega
      have HZ0 := HZ
      clear HZ hk hlt
      go_wp2_with fail
      refine (clone_any a len cap zs _ hB (by omega)).mono ?_
      rintro e w1 ⟨a1, cap1, rfl, hB1, hb1⟩
      clear hB
      go_wp2_with fail
      refine (zzregroup_any a1 len cap1 f t zs _ hB1 (by omega) hf ht ht0 HZ0.out).mono ?_
      rintro e w2 ⟨g2, rfl, hBo, hb2⟩
      have hB2 := hB1.below hb2
      have hbw2 : Below w.heap.size w w2 := hb1.trans (hb2.mono hb1.size)
      clear hB1 hb1 hb2
      obtain ⟨m, Hm⟩ : ∃ m, Hid (m = Plain.groups len f t) := ⟨_, rfl⟩
      rw [← Hm.out] at hBo
      have hmt : m * t < len * f + t := by rw [Hm.out]; exact Plain.groups_low len f t (by omega)
      have hlf : len * f ≤ 1048576 := by have := Nat.mul_le_mul h hf; omega
      have hmb : m ≤ 2000000 := by
        have := Nat.le_mul_of_pos_right m (show 0 < t by omega)
        omega
      rw [show Plain.groups len f t = m from Hm.out.symm]
      obtain ⟨ms, Hms⟩ : ∃ ms, Hid (ms = Plain.outs (Plain.sbit zs f) t m) := ⟨_, rfl⟩
      rw [← Hms.out] at hBo
      have HZ1 : Hid (∀ i, i < m → ms.getD i 0 < 2 ^ t) := by
        show ∀ i, i < m → ms.getD i 0 < 2 ^ t
        intro i hi
        rw [Hms.out, Plain.outs_get _ _ _ _ hi]
        exact Plain.num_lt _ (Plain.sbit_lt zs f) _ _
      go_wp2_with fail
      refine (zzregroup_any _ m m t f ms _ hBo (by omega) ht hf hf0 HZ1.out).mono ?_
      rintro e w3 ⟨g3, rfl, hBb, hb3⟩
      have hB3 := hB2.below hb3
      have hbw3 : Below w.heap.size w w3 := hbw2.trans (hb3.mono hbw2.size)
      clear hB2 hBo hbw2 hb3 HZ1
      obtain ⟨n, Hn⟩ : ∃ n, Hid (n = Plain.groups m t f) := ⟨_, rfl⟩
      rw [← Hn.out] at hBb
      rw [show Plain.groups m t f = n from Hn.out.symm]
      have hbl : len ≤ n ∧ (n - len) * f < f + t := by
        rw [Hn.out, Hm.out]; exact Plain.back_len len f t (by omega) (by omega)
      obtain ⟨hln, hext⟩ := hbl
      obtain ⟨bs, Hbs⟩ : ∃ bs, Hid (bs = Plain.outs (Plain.sbit ms t) f n) := ⟨_, rfl⟩
      rw [← Hbs.out] at hBb
      have HIn : Hid (∀ i, i < len → bs.getD i 0 = zs.getD i 0) := by
        show ∀ i, i < len → bs.getD i 0 = zs.getD i 0
        intro i hi
        rw [Hbs.out, Hms.out, Hm.out, ← hl]
        exact Plain.back_in zs f t n i (by omega) (by omega) (by omega) (HZ0.out i hi)
      have HOut : Hid (∀ i, len ≤ i → i < n → bs.getD i 0 = 0) := by
        show ∀ i, len ≤ i → i < n → bs.getD i 0 = 0
        intro i hi hi2
        rw [Hbs.out, Hms.out, Hm.out, ← hl]
        exact Plain.back_out zs f t n i (by omega) (by omega) hi2
      have hnb : n ≤ 2000000 := by
        have h1 := Nat.le_mul_of_pos_right (n - len) (show 0 < f by omega)
        omega
      clear hmt hlf Hm Hms Hn Hbs HZ0 hmb
      obtain ⟨E, HE⟩ : ∃ E, Hid (E = (n - len) * f) := ⟨_, rfl⟩
      rw [← HE.out] at hext
      have hmulE : IntKind.i64.wrap (((n : Int) - (len : Int)) * (f : Int)) = (E : Int) := by
        rw [HE.out, show (n : Int) - (len : Int) = ((n - len : Nat) : Int) by omega, ← Int.natCast_mul]
        exact IntWalk.i64_in _ ⟨by omega, by have := HE.out; omega⟩
      go_wp2
      go_loopw [10] (fun i wr => ∃ k : Nat, k ≤ len ∧ i = .int .i64 k ∧ Below w3.heap.size w3 wr) (fun i _ => len - (intOf i).toNat)
      case atStart => exact ⟨0, Nat.zero_le _, rfl, Below.refl _ _⟩
      case round =>
        obtain ⟨k, hk, rfl, hb⟩ := hrel
        by_cases hlt : k < len
        · obtain ⟨z, Hz⟩ : ∃ z, Hid (z = zs.getD k 0) := ⟨_, rfl⟩
          obtain ⟨b, o, rfl, _, hcW⟩ := (hB3.below hb).2.2 (by omega)
          have hcell : wr.cell? ⟨b, o + k, none⟩ = some (.int .u8 (z : Int)) := by rw [Hz.out]; exact hcW k hlt
          obtain ⟨b', o', he, _, hcW'⟩ := (hBb.below hb).2.2 (by omega)
          obtain ⟨rfl, rfl⟩ : g3 = b' ∧ 0 = o' := by simpa using he
          have hcell' : wr.cell? ⟨g3, k, none⟩ = some (.int .u8 (z : Int)) := by
            have := hcW' k (by omega)
            rw [HIn.out k hlt, ← Hz.out, Nat.zero_add] at this
            exact this
          clear hcW hcW' he hB3 hBb hbw3 hmulE
          go_wp2
          go_region
          go_wp2
          go_roundw
          case rel => exact ⟨k + 1, by omega, by go_num, hb.drew⟩
          case measure => simp [intOf]; omega
        · obtain rfl : len = k := by omega
          obtain ⟨w4, rfl⟩ : ∃ w4 : World, w4 = wr := ⟨_, rfl⟩
          have hBb4 := hBb.below hb
          have hbw4 : Below w.heap.size w w4 := hbw3.trans (hb.mono hbw3.size)
          clear hBb hbw3 hb hB3 hk hlt HIn
          go_wp2
          go_loop [11] (fun i => ∃ k : Nat, len ≤ k ∧ k ≤ n ∧ i = .int .i64 k) (fun i => n - (intOf i).toNat)
          case atStart => exact ⟨len, Nat.le_refl _, hln, rfl⟩
          case round =>
            obtain ⟨k, hk1, hk2, rfl⟩ := hrel
            by_cases hlt : k < n
            · obtain ⟨b', o', he, _, hcW'⟩ := hBb4.2.2 (by omega)
              obtain ⟨rfl, rfl⟩ : g3 = b' ∧ 0 = o' := by simpa using he
              have hcell' : w4.cell? ⟨g3, k, none⟩ = some (.int .u8 0) := by
                have := hcW' k (by omega)
                rw [HOut.out k hk1 hlt, Nat.zero_add] at this
                exact this
              clear hcW' he hBb4 hbw4 hmulE
              go_wp2
              go_round
              case rel => exact ⟨k + 1, by omega, by omega, by go_num⟩
              case measure => simp [intOf]; omega
            · go_wp2
              go_ret
              refine ⟨?_, hbw4⟩
              show Ending.returned (Value.bool (decide ((E : Int) < (f : Int) + (t : Int)))) = _
              rw [decide_eq_true (by omega : (E : Int) < (f : Int) + (t : Int))]

end Go.Proofs.Qxb6603877a
