/-
  THE WALK OF FnEncodeIsHrpSeparatorDataAndValidChecksum (6): the way to its end.
-/
import Derived.Test.Qxb6603877aValid
import Derived.Deep.QuietTactic
import Derived.BigQuiet
namespace Go.Proofs.Qxb6603877a
open Go.RowKit

theorem idx_str (s : ByteArray) (k : IntKind) (z : Int) (i : Nat) (hz : z = (i : Int)) (hi : i < s.size) (W : World) :
    (Instr.index 9 (.string s) (.int k z)).run Try.prog W = .ok (.int .u8 ((sb s i : Nat) : Int)) W := by
  subst hz
  rw [run_index_string W 9 s k _ Try.underlying9, dif_pos ⟨by omega, by omega⟩]
  have e : ((i : Int)).toNat = i := by omega
  simp only [e]
  rw [get_sb s i hi]
theorem idx_chr (k : IntKind) (z : Nat) (hz : z < 32) (W : World) :
    (Instr.index 9 (.string { data := #[113, 112, 122, 114, 121, 57, 120, 56, 103, 102, 50, 116, 118, 100, 119, 48, 115, 51, 106, 110, 53, 52, 107, 104, 99, 101, 54, 109, 117, 97, 55, 108] }) (.int k (z : Int))).run Try.prog W = .ok (.int .u8 ((chr z : Nat) : Int)) W := by
  refine idx_str _ k _ z rfl ?_ W
  exact hz

set_option maxRecDepth 10000 in
set_option maxHeartbeats 4000000 in
theorem val_main (s : ByteArray) (a : Option Addr) (len cap : Nat) (ds : List Nat) (w : World) (h : 2 * s.size + len ≤ 1048576) (hB : Bytes w a len ds) :
    Calls Try.prog 6 #[.string s, .slice a len cap] w fun e w' => e = .returned (.bool true) ∧ Below w.heap.size w w' := by
  have hl := hB.1
  go_enter Try.func6, Try.ntmps6
  go_wp2_with (go_at_call 14; refine (zz14_yes s a len cap _ (by omega)).mono ?_; rintro e w' ⟨rfl, rfl⟩)
  go_loop [5] (fun i => ∃ k : Nat, k ≤ len ∧ i = .int .i64 k ∧ Hid (∀ i, i < k → ds.getD i 0 < 32)) (fun i => len - (intOf i).toNat)
  case atStart => exact ⟨0, Nat.zero_le _, rfl, fun i h => absurd h (by omega)⟩
  case round =>
    obtain ⟨k, hk, rfl, HZ⟩ := hrel
    by_cases hlt : k < len
    · obtain ⟨z, Hz⟩ : ∃ z, Hid (z = ds.getD k 0) := ⟨_, rfl⟩
      have hz8 : z < 256 := by rw [Hz.out]; exact hB.lt k
      obtain ⟨b, o, rfl, _, hcW⟩ := hB.2.2 (by omega)
      have hcell : w.cell? ⟨b, o + k, none⟩ = some (.int .u8 (z : Int)) := by rw [Hz.out]; exact hcW k hlt
      clear hcW
      by_cases h32 : z < 32
      · clear hB
        go_wp2
        go_round
        case rel => exact ⟨k + 1, by omega, by go_num, fun i hi => by
          by_cases e : i = k
          · rw [e, ← Hz.out]; exact h32
          · exact HZ.out i (by omega)⟩
        case measure => simp [intOf]; omega
      · clear hB
        go_wp2
        go_ret
        exact ⟨rfl, Below.refl _ _⟩
    · obtain rfl : len = k := by omega
      have HZ0 := HZ
      clear HZ hk hlt
      go_wp2_with fail
      refine (clone_any2 a len cap ds _ hB (by omega)).mono ?_
      rintro e w1 ⟨a1, cap1, rfl, hnil1, hB1, hb1⟩
      clear hB
      go_wp2_with fail
      refine (encode_any s a1 len cap1 ds _ (by omega) (by omega) hB1 hnil1 HZ0.out).mono ?_
      rintro e w2 ⟨out, rfl, hout, hb2⟩
      have HOUT : Hid (sbytes out = encB s ds (modW s ds) 6) := hout
      clear hout
      have hB2 := hB1.below hb2
      have hbw2 : Below w.heap.size w w2 := hb1.trans (hb2.mono hb1.size)
      clear hB1 hb1 hb2 hnil1
      have hosz : out.size = s.size + 1 + len + 6 := by rw [out_size HOUT.out, hl]; omega
      go_wp2
      go_loopw [8] (fun i wr => ∃ k : Nat, k ≤ s.size ∧ i = .int .i64 k ∧ Below w2.heap.size w2 wr) (fun i _ => s.size - (intOf i).toNat)
      case atStart => exact ⟨0, Nat.zero_le _, rfl, Below.refl _ _⟩
      case round =>
        obtain ⟨k, hk, rfl, hb⟩ := hrel
        by_cases hlt : k < s.size
        · obtain ⟨x, Hx⟩ : ∃ x, Hid (x = sb s k) := ⟨_, rfl⟩
          have hat1 : ∀ h, ((out[k]'h).toNat : Int) = (x : Int) := fun h => by rw [get_sb out k h, out_pre HOUT.out k hlt, Hx.out]
          have hat2 : ∀ h, ((s[k]'h).toNat : Int) = (x : Int) := fun h => by rw [get_sb s k h, Hx.out]
          clear hB2 hbw2 HZ0
          go_wp2
          go_region
          go_wp2
          go_roundw
          case rel => exact ⟨k + 1, by omega, by go_num, hb.drew⟩
          case measure => simp [intOf]; omega
        · obtain rfl : k = s.size := by omega
          obtain ⟨w3, rfl⟩ : ∃ w3 : World, w3 = wr := ⟨_, rfl⟩
          have hb3 := hb
          clear hb hk hlt
          have hone : ∀ h, ((out[s.size]'h).toNat : Int) = 49 := fun h => by rw [get_sb out s.size h, out_one HOUT.out]; rfl
          go_wp2
          clear hone
          go_loopw [9] (fun i wr => ∃ k : Nat, k ≤ len ∧ i = .int .i64 k ∧ Below w2.heap.size w2 wr) (fun i _ => len - (intOf i).toNat)
          case atStart => exact ⟨0, Nat.zero_le _, rfl, hb3⟩
          case round =>
            obtain ⟨k, hk, rfl, hb⟩ := hrel
            clear hb3
            by_cases hlt : k < len
            · obtain ⟨z, Hz⟩ : ∃ z, Hid (z = ds.getD k 0) := ⟨_, rfl⟩
              have hz32 : z < 32 := by rw [Hz.out]; exact HZ0.out k hlt
              obtain ⟨b, o, rfl, _, hcW⟩ := (hB2.below hb).2.2 (by omega)
              have hcell : wr.cell? ⟨b, o + k, none⟩ = some (.int .u8 (z : Int)) := by rw [Hz.out]; exact hcW k hlt
              have hidx : ∀ W, (Instr.index 9 (.string out) (.int .i64 ((s.size : Int) + 1 + (k : Int)))).run Try.prog W = .ok (.int .u8 ((chr z : Nat) : Int)) W := fun W => by
                rw [idx_str out .i64 _ (s.size + 1 + k) (by omega) (by omega) W, out_chr HOUT.out k (by omega), dec_data s ds k (by omega), Hz.out]
              have hidc := fun W => idx_chr .u8 z hz32 W
              clear hcW hB2 hbw2 HZ0
              go_wp2
              go_region
              go_wp2
              go_roundw
              case rel => exact ⟨k + 1, by omega, by go_num, hb.drew⟩
              case measure => simp [intOf]; omega
            · obtain rfl : len = k := by omega
              obtain ⟨w4, rfl⟩ : ∃ w4 : World, w4 = wr := ⟨_, rfl⟩
              have hB4 := hB2.below hb
              have hbw4 : Below w.heap.size w w4 := hbw2.trans (hb.mono hbw2.size)
              have hsix0 : Six (w4.alloc (Obj.cells #[.int .u8 1, .int .u8 0, .int .u8 0, .int .u8 0, .int .u8 0, .int .u8 0] 32)) w4.heap.size 1 0 0 0 0 0 :=
                World.ownsRow_lit w4 #[.int .u8 1, .int .u8 0, .int .u8 0, .int .u8 0, .int .u8 0, .int .u8 0] 6 (Nat.le_refl _) (by decide) (by rfl)
              have hb40 := (Below.refl w4.heap.size w4).alloc (Nat.le_refl _) (Obj.cells #[.int .u8 1, .int .u8 0, .int .u8 0, .int .u8 0, .int .u8 0, .int .u8 0] 32)
              clear hb hbw2 hB2 hk hlt
              go_wp2
              go_loopw [11] (fun i wr => ∃ k c0 c1 c2 c3 c4 c5 : Nat, k ≤ s.size ∧ i = .int .i64 (k : Int) ∧ Six wr w4.heap.size c0 c1 c2 c3 c4 c5 ∧ Hid (IsRem c0 c1 c2 c3 c4 c5 (hiPart s k)) ∧ Below w4.heap.size w4 wr) (fun i _ => s.size - (intOf i).toNat)
              case atStart => exact ⟨0, 1, 0, 0, 0, 0, 0, Nat.zero_le _, rfl, hsix0, by rw [hi_zero]; exact IsRem.start, hb40⟩
              case round =>
                obtain ⟨k, c0, c1, c2, c3, c4, c5, hk, rfl, hsix, HR, hb⟩ := hrel
                clear hsix0 hb40
                by_cases hlt : k < s.size
                · obtain ⟨x, Hx⟩ : ∃ x, Hid (x = sb s k) := ⟨_, rfl⟩
                  have hx8 : x < 256 := by rw [Hx.out]; exact sb_lt s k
                  obtain ⟨y, Hy⟩ : ∃ y, Hid (y = x / 32) := ⟨_, rfl⟩
                  have hy32 : y < 32 := by have := Hy.out; omega
                  have hxy : (x : Int) / 32 = (y : Int) := by have := Hy.out; omega
                  have hidx : ∀ W, (Instr.index 9 (.string s) (.int .i64 (k : Int))).run Try.prog W = .ok (.int .u8 (x : Int)) W := fun W => by
                    rw [idx_str s .i64 _ k rfl hlt W, Hx.out]
                  obtain ⟨e0, e1, e2, e3, e4, e5⟩ := hsix.cells
                  have HSX : Hid (Six wr w4.heap.size c0 c1 c2 c3 c4 c5) := hsix
                  clear hsix hB4 hbw4 HZ0
                  go_wp2
                  go_region_with (go_at_call 16; refine (step_rem c0 c1 c2 c3 c4 c5 y _ HR.out hy32 _).mono ?_; rintro e w5 ⟨r0, r1, r2, r3, r4, r5, rfl, hrem, hb5⟩; have hsix5 := HSX.out.drew.below hb5; obtain ⟨d0, d1, d2, d3, d4, d5⟩ := hsix5.cells; obtain ⟨f0, f1, f2, f3, f4, f5⟩ := hsix5.free)
                  all_goals
                    have R1 := hsix5.store r0 r1 r2 r3 r4 r5
                    have R2 := below_six (hb.drew.trans (hb5.mono (by simpa using hb.size))) r0 r1 r2 r3 r4 r5
                    have R3 : Hid (IsRem r0 r1 r2 r3 r4 r5 (hiPart s (k + 1))) := by
                      show IsRem r0 r1 r2 r3 r4 r5 (hiPart s (k + 1))
                      rw [← hi_next s k hlt, ← Hx.out, ← Hy.out]; exact hrem
                    clear hrem hsix5 d0 d1 d2 d3 d4 d5 f0 f1 f2 f3 f4 f5 e0 e1 e2 e3 e4 e5 hb5 hidx hxy
                    go_wp2
                    go_roundw
                    case rel => exact ⟨k + 1, r0, r1, r2, r3, r4, r5, by omega, by go_num, R1, R3, R2⟩
                    case measure => simp [intOf]; omega
                · obtain rfl : k = s.size := by omega
                  obtain ⟨w5, rfl⟩ : ∃ w5 : World, w5 = wr := ⟨_, rfl⟩
                  obtain ⟨e0, e1, e2, e3, e4, e5⟩ := hsix.cells
                  have HSX : Hid (Six w5 w4.heap.size c0 c1 c2 c3 c4 c5) := hsix
                  clear hsix
                  go_wp2_with fail
                  refine (step_rem0 c0 c1 c2 c3 c4 c5 _ HR.out _).mono ?_
                  rintro e w6 ⟨r0, r1, r2, r3, r4, r5, rfl, hrem, hb6⟩
                  have hsix6 := HSX.out.below hb6
                  obtain ⟨d0, d1, d2, d3, d4, d5⟩ := hsix6.cells
                  obtain ⟨f0, f1, f2, f3, f4, f5⟩ := hsix6.free
                  have hsix7 := hsix6.store r0 r1 r2 r3 r4 r5
                  have hb7 := below_six (hb.trans (hb6.mono hb.size)) r0 r1 r2 r3 r4 r5
                  have HR7 : Hid (IsRem r0 r1 r2 r3 r4 r5 (loPart s 0)) := by
                    show IsRem r0 r1 r2 r3 r4 r5 (loPart s 0)
                    rw [← hi_last s s.size (Nat.le_refl _)]; exact hrem
                  clear hrem hb6 hb HR hsix6 HSX hlt hk e0 e1 e2 e3 e4 e5
                  go_wp2
                  clear d0 d1 d2 d3 d4 d5 f0 f1 f2 f3 f4 f5
                  go_loopw [12] (fun i wr => ∃ k c0 c1 c2 c3 c4 c5 : Nat, k ≤ s.size ∧ i = .int .i64 (k : Int) ∧ Six wr w4.heap.size c0 c1 c2 c3 c4 c5 ∧ Hid (IsRem c0 c1 c2 c3 c4 c5 (loPart s k)) ∧ Below w4.heap.size w4 wr) (fun i _ => s.size - (intOf i).toNat)
                  case atStart => exact ⟨0, r0, r1, r2, r3, r4, r5, Nat.zero_le _, rfl, hsix7, HR7, hb7⟩
                  case round =>
                    obtain ⟨k, c0, c1, c2, c3, c4, c5, hk, rfl, hsix, HR, hb⟩ := hrel
                    clear hsix7 HR7 hb7
                    by_cases hlt : k < s.size
                    · obtain ⟨x, Hx⟩ : ∃ x, Hid (x = sb s k) := ⟨_, rfl⟩
                      have hx8 : x < 256 := by rw [Hx.out]; exact sb_lt s k
                      obtain ⟨y, Hy⟩ : ∃ y, Hid (y = x % 32) := ⟨_, rfl⟩
                      have hy32 : y < 32 := by have := Hy.out; omega
                      have hxy : bits BinOp.and IntKind.u8 (x : Int) 31 = (y : Int) := by rw [and31 x hx8, Hy.out]
                      have hidx : ∀ W, (Instr.index 9 (.string s) (.int .i64 (k : Int))).run Try.prog W = .ok (.int .u8 (x : Int)) W := fun W => by
                        rw [idx_str s .i64 _ k rfl hlt W, Hx.out]
                      obtain ⟨e0, e1, e2, e3, e4, e5⟩ := hsix.cells
                      have HSX : Hid (Six wr w4.heap.size c0 c1 c2 c3 c4 c5) := hsix
                      clear hsix hB4 hbw4 HZ0
                      go_wp2
                      go_region_with (go_at_call 16; refine (step_rem c0 c1 c2 c3 c4 c5 y _ HR.out hy32 _).mono ?_; rintro e w5 ⟨r0, r1, r2, r3, r4, r5, rfl, hrem, hb5⟩; have hsix5 := HSX.out.drew.below hb5; obtain ⟨d0, d1, d2, d3, d4, d5⟩ := hsix5.cells; obtain ⟨f0, f1, f2, f3, f4, f5⟩ := hsix5.free)
                      all_goals
                        have R1 := hsix5.store r0 r1 r2 r3 r4 r5
                        have R2 := below_six (hb.drew.trans (hb5.mono (by simpa using hb.size))) r0 r1 r2 r3 r4 r5
                        have R3 : Hid (IsRem r0 r1 r2 r3 r4 r5 (loPart s (k + 1))) := by
                          show IsRem r0 r1 r2 r3 r4 r5 (loPart s (k + 1))
                          rw [← lo_next s k hlt, ← Hx.out, ← Hy.out]; exact hrem
                        clear hrem hsix5 d0 d1 d2 d3 d4 d5 f0 f1 f2 f3 f4 f5 e0 e1 e2 e3 e4 e5 hb5 hidx hxy
                        go_wp2
                        go_roundw
                        case rel => exact ⟨k + 1, r0, r1, r2, r3, r4, r5, by omega, by go_num, R1, R3, R2⟩
                        case measure => simp [intOf]; omega
                    · obtain rfl : k = s.size := by omega
                      obtain ⟨w5, rfl⟩ : ∃ w5 : World, w5 = wr := ⟨_, rfl⟩
                      have HR5 : Hid (IsRem c0 c1 c2 c3 c4 c5 (decP s ds 0)) := by
                        show IsRem c0 c1 c2 c3 c4 c5 (decP s ds 0)
                        rw [← lo_last s ds s.size (Nat.le_refl _)]; exact HR.out
                      have hsix5 := hsix
                      have hb5 := hb
                      clear hsix hb HR hk hlt
                      go_wp2
                      go_loopw [13] (fun i wr => ∃ k c0 c1 c2 c3 c4 c5 : Nat, k ≤ len ∧ i = .int .i64 (k : Int) ∧ Six wr w4.heap.size c0 c1 c2 c3 c4 c5 ∧ Hid (IsRem c0 c1 c2 c3 c4 c5 (decP s ds k)) ∧ Below w4.heap.size w4 wr) (fun i _ => len - (intOf i).toNat)
                      case atStart => exact ⟨0, c0, c1, c2, c3, c4, c5, Nat.zero_le _, rfl, hsix5, HR5, hb5⟩
                      case round =>
                        clear hsix5 HR5 hb5
                        obtain ⟨k, c0, c1, c2, c3, c4, c5, hk, rfl, hsix, HR, hb⟩ := hrel
                        by_cases hlt : k < len
                        · obtain ⟨y, Hy⟩ : ∃ y, Hid (y = ds.getD k 0) := ⟨_, rfl⟩
                          have hy32 : y < 32 := by rw [Hy.out]; exact HZ0.out k hlt
                          obtain ⟨b, o, rfl, _, hcW⟩ := (hB4.below hb).2.2 (by omega)
                          have hcell : wr.cell? ⟨b, o + k, none⟩ = some (.int .u8 (y : Int)) := by rw [Hy.out]; exact hcW k hlt
                          obtain ⟨e0, e1, e2, e3, e4, e5⟩ := hsix.cells
                          have HSX : Hid (Six wr w4.heap.size c0 c1 c2 c3 c4 c5) := hsix
                          clear hsix hB4 hbw4 HZ0 hcW
                          go_wp2
                          go_region_with (go_at_call 16; refine (step_rem c0 c1 c2 c3 c4 c5 y _ HR.out hy32 _).mono ?_; rintro e w5 ⟨r0, r1, r2, r3, r4, r5, rfl, hrem, hb5⟩; have hsix5 := HSX.out.drew.below hb5; obtain ⟨d0, d1, d2, d3, d4, d5⟩ := hsix5.cells; obtain ⟨f0, f1, f2, f3, f4, f5⟩ := hsix5.free)
                          all_goals
                            have R1 := hsix5.store r0 r1 r2 r3 r4 r5
                            have R2 := below_six (hb.drew.trans (hb5.mono (by simpa using hb.size))) r0 r1 r2 r3 r4 r5
                            have R3 : Hid (IsRem r0 r1 r2 r3 r4 r5 (decP s ds (k + 1))) := by
                              show IsRem r0 r1 r2 r3 r4 r5 (decP s ds (k + 1))
                              rw [← dec_next s ds k (by omega), dec_data s ds k (by omega), ← Hy.out]; exact hrem
                            clear hrem hsix5 d0 d1 d2 d3 d4 d5 f0 f1 f2 f3 f4 f5 e0 e1 e2 e3 e4 e5 hb5 hcell
                            go_wp2
                            go_roundw
                            case rel => exact ⟨k + 1, r0, r1, r2, r3, r4, r5, by omega, by go_num, R1, R3, R2⟩
                            case measure => simp [intOf]; omega
                        · obtain rfl : len = k := by omega
                          obtain ⟨w5, rfl⟩ : ∃ w5 : World, w5 = wr := ⟨_, rfl⟩
                          have hsix5 := hsix
                          have hb5 := hb
                          have HR5 := HR
                          clear hsix hb HR hk hlt
                          have hd32 : Hid (∀ z ∈ ds, z < 32) := mem_lt32 (by rw [hl]; exact HZ0.out)
                          clear HZ0 hB4
                          go_wp2
                          go_loopw [14] (fun i wr => ∃ k c0 c1 c2 c3 c4 c5 : Nat, k ≤ 6 ∧ i = .int .i64 (k : Int) ∧ Six wr w4.heap.size c0 c1 c2 c3 c4 c5 ∧ Hid (IsRem c0 c1 c2 c3 c4 c5 (decP s ds (len + k))) ∧ Below w4.heap.size w4 wr) (fun i _ => 6 - (intOf i).toNat)
                          case atStart => exact ⟨0, c0, c1, c2, c3, c4, c5, Nat.zero_le _, rfl, hsix5, HR5, hb5⟩
                          case round =>
                            clear hsix5 HR5 hb5
                            obtain ⟨k, c0, c1, c2, c3, c4, c5, hk, rfl, hsix, HR, hb⟩ := hrel
                            by_cases hlt : k < 6
                            · obtain ⟨y, Hy⟩ : ∃ y, Hid (y = (ds ++ cks (modW s ds)).getD (len + k) 0) := ⟨_, rfl⟩
                              have hy32 : y < 32 := by rw [Hy.out]; exact dec_lt s ds hd32.out _ (by omega)
                              have hidx : ∀ W, (Instr.index 9 (.string out) (.int .i64 ((s.size : Int) + 1 + (len : Int) + (k : Int)))).run Try.prog W = .ok (.int .u8 ((chr y : Nat) : Int)) W := fun W => by
                                rw [idx_str out .i64 _ (s.size + 1 + (len + k)) (by omega) (by omega) W, out_chr HOUT.out (len + k) (by omega), Hy.out]
                              obtain ⟨e0, e1, e2, e3, e4, e5⟩ := hsix.cells
                              have HSX : Hid (Six wr w4.heap.size c0 c1 c2 c3 c4 c5) := hsix
                              clear hsix hbw4
                              go_wp2_with fail
                              refine (index_chr y hy32 _).mono ?_
                              rintro e w' ⟨rfl, rfl⟩
                              clear hidx
                              go_wp2_with fail
                              refine (step_rem c0 c1 c2 c3 c4 c5 y _ HR.out hy32 _).mono ?_
                              rintro e w5 ⟨r0, r1, r2, r3, r4, r5, rfl, hrem, hb5⟩
                              have hsix5 := HSX.out.below hb5
                              obtain ⟨d0, d1, d2, d3, d4, d5⟩ := hsix5.cells
                              obtain ⟨f0, f1, f2, f3, f4, f5⟩ := hsix5.free
                              have R1 := hsix5.store r0 r1 r2 r3 r4 r5
                              have R2 := below_six (hb.trans (hb5.mono hb.size)) r0 r1 r2 r3 r4 r5
                              have R3 : Hid (IsRem r0 r1 r2 r3 r4 r5 (decP s ds (len + (k + 1)))) := by
                                show IsRem r0 r1 r2 r3 r4 r5 (decP s ds (len + k + 1))
                                rw [← dec_next s ds (len + k) (by omega), ← Hy.out]; exact hrem
                              clear hrem hsix5 e0 e1 e2 e3 e4 e5 hb5
                              go_wp2
                              go_roundw
                              case rel => exact ⟨k + 1, r0, r1, r2, r3, r4, r5, by omega, by go_num, R1, R3, R2⟩
                              case measure => simp [intOf]; omega
                            · obtain rfl : k = 6 := by omega
                              obtain ⟨w5, rfl⟩ : ∃ w5 : World, w5 = wr := ⟨_, rfl⟩
                              obtain ⟨e0, e1, e2, e3, e4, e5⟩ := hsix.cells
                              have HPV : Hid (Plain.run 1 (decP s ds (len + 6)) = 1) := by
                                show _ = _
                                rw [decP_all s ds (len + 6) (by omega)]; exact poly_valid s ds hd32.out
                              have hbw5 : Below w.heap.size w w5 := hbw4.trans (hb.mono hbw4.size)
                              clear hsix hb hbw4
                              go_wp2_with fail
                              refine (pack_rem c0 c1 c2 c3 c4 c5 _ HR.out _).mono ?_
                              rintro e w6 ⟨rfl, hb6⟩
                              rw [HPV.out]
                              go_wp2
                              go_ret
                              exact ⟨rfl, hbw5.trans (hb6.mono hbw5.size)⟩

end Go.Proofs.Qxb6603877a
