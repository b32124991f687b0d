/-
  THE WALK OF FnEncodeDecodesBackAndVerifiesByPolymod (7): the way to its end.
-/
import Derived.Test.Qxb6603877aDecode
namespace Go.Proofs.Qxb6603877a
open Go.RowKit

/-- What has been read back behind j characters. -/
def decP (s : ByteArray) (ds : List Nat) (j : Nat) : List Nat := expand (sbytes s) ++ (ds ++ cks (modW s ds)).take j
theorem decP_zero (s : ByteArray) (ds : List Nat) (k : Nat) (h : s.size ≤ k) : cellsOf (loPart s k) = cellsOf (decP s ds 0) := by
  rw [lo_all s k h, decP, List.take_zero, List.append_nil]
theorem decP_snoc (s : ByteArray) (ds : List Nat) (j : Nat) (h : j < ds.length + 6) : cellsOf (decP s ds j) ++ [.int .u8 (((ds ++ cks (modW s ds)).getD j 0 : Nat) : Int)] = cellsOf (decP s ds (j + 1)) := by
  have hl : j < (ds ++ cks (modW s ds)).length := by rw [List.length_append, cks_len]; exact h
  unfold decP
  rw [List.take_succ_eq_append_getElem hl, ← List.append_assoc, cellsOf_snoc', List.getD_eq_getElem?_getD, List.getElem?_eq_getElem hl]
  rfl
theorem decP_all (s : ByteArray) (ds : List Nat) (j : Nat) (h : ds.length + 6 ≤ j) : decP s ds j = vals s ds ++ cks (modW s ds) := by
  unfold decP
  rw [List.take_of_length_le (by rw [List.length_append, cks_len]; exact h), ← List.append_assoc]
  rfl
theorem dec_lt (s : ByteArray) (ds : List Nat) (h : ∀ z ∈ ds, z < 32) (j : Nat) (hj : j < ds.length + 6) : (ds ++ cks (modW s ds)).getD j 0 < 32 := by
  have hl : j < (ds ++ cks (modW s ds)).length := by rw [List.length_append, cks_len]; exact hj
  rw [List.getD_eq_getElem?_getD, List.getElem?_eq_getElem hl]
  rcases List.mem_append.1 (List.getElem_mem hl) with hm | hm
  · exact h _ hm
  · exact cks_lt _ _ hm
theorem dec_data (s : ByteArray) (ds : List Nat) (j : Nat) (hj : j < ds.length) : (ds ++ cks (modW s ds)).getD j 0 = ds.getD j 0 := by
  rw [List.getD_eq_getElem?_getD, List.getElem?_append_left hj, List.getD_eq_getElem?_getD]
theorem mem_lt32 {ds : List Nat} (h : ∀ i, i < ds.length → ds.getD i 0 < 32) : ∀ z ∈ ds, z < 32 := by
  intro z hz
  obtain ⟨i, hi, rfl⟩ := List.getElem_of_mem hz
  have := h i hi
  rwa [List.getD_eq_getElem?_getD, List.getElem?_eq_getElem hi] at this

set_option maxRecDepth 10000 in
set_option maxHeartbeats 1000000 in
theorem dec_main (s : ByteArray) (a : Option Addr) (len cap : Nat) (ds : List Nat) (w : World) (h : 2 * s.size + len ≤ 1048576) (hB : Bytes w a len ds) :
    Calls Try.prog 7 #[.string s, .slice a len cap] w fun e w' => e = .returned (.bool true) ∧ Below w.heap.size w w' := by
  obtain ⟨i0, hi, hz0, hz1, hz2⟩ := info_parts Try.info5
  have hl := hB.1
  go_enter Try.func7, Try.ntmps7
  go_wp2_with (go_at_call 19; refine (zz19_yes s a len cap _ (by omega)).mono ?_; rintro e w' ⟨rfl, rfl⟩)
  go_loop [5] (fun i => ∃ k : Nat, k ≤ len ∧ i = .int .i64 k ∧ Hid (∀ i, i < k → ds.getD i 0 < 32)) (fun i => len - (intOf i).toNat)
  case atStart => exact ⟨0, Nat.zero_le _, rfl, fun i h => absurd h (by omega)⟩
  case round =>
    obtain ⟨k, hk, rfl, HZ⟩ := hrel
    by_cases hlt : k < len
    · obtain ⟨z, Hz⟩ : ∃ z, Hid (z = ds.getD k 0) := ⟨_, rfl⟩
      have hz8 : z < 256 := by rw [Hz.out]; exact hB.lt k
      obtain ⟨b, o, rfl, _, hcW⟩ := hB.2.2 (by omega)
      have hcell : w.cell? ⟨b, o + k, none⟩ = some (.int .u8 (z : Int)) := by rw [Hz.out]; exact hcW k hlt
      clear hcW hi hz0 hz1 hz2 i0
      by_cases h32 : z < 32
      · clear hB
        go_wp2
        go_round
        case rel => exact ⟨k + 1, by omega, by go_num, fun i hi => by
          by_cases e : i = k
          · rw [e, ← Hz.out]; exact h32
          · exact HZ.out i (by omega)⟩
        case measure => simp [intOf]; omega
      · clear hB
        go_wp2
        go_ret
        exact ⟨rfl, Below.refl _ _⟩
    · obtain rfl : len = k := by omega
      have HZ0 := HZ
      clear HZ hk hlt
      go_wp2_with fail
      refine (clone_any2 a len cap ds _ hB (by omega)).mono ?_
      rintro e w1 ⟨a1, cap1, rfl, hnil1, hB1, hb1⟩
      clear hB
      go_wp2_with fail
      refine (encode_any s a1 len cap1 ds _ (by omega) (by omega) hB1 hnil1 HZ0.out).mono ?_
      rintro e w2 ⟨out, rfl, hout, hb2⟩
      have HOUT : Hid (sbytes out = encB s ds (modW s ds) 6) := hout
      clear hout
      have hB2 := hB1.below hb2
      have hbw2 : Below w.heap.size w w2 := hb1.trans (hb2.mono hb1.size)
      clear hB1 hb1 hb2 hnil1
      have hosz : out.size = s.size + len + 7 := by rw [out_size HOUT.out, hl]
      have hhead := out_head HOUT.out
      have hone := out_one HOUT.out
      have hsb := get_sb out
      go_wp2_with (at_make; refine wpList_make_own _ rfl _ _ 22 rfl w2.heap.size 5 i0 (.int .u8 0) 1 Try.underlying22 hi hz0 hz1 _ _ _ (2 * s.size + 1 + len + 6) rfl rfl ?m1 ?m2 ?m3 (Nat.le_refl _) ?_)
      case m1 => omega
      case m2 => rw [hz2]; omega
      case m3 => unfold maxLen; omega
      intro w3 hown3 hgrow3
      have hb3 : Below w2.heap.size w2 w3 := (Below.refl _ _).grown hgrow3 (Nat.le_refl _) (fun k h => by cases h)
      have hss := get_sb s
      clear hgrow3 hhead hone hsb
      go_wp2
      go_loopw [8, 9] (fun so si wr => ∃ k : Nat, k ≤ s.size ∧ si = .int .i64 (k : Int) ∧ so = .slice (some ⟨w2.heap.size, 0, none⟩) k (2 * s.size + 1 + len + 6) ∧
          wr.ownsRow w2.heap.size 5 1 (.slice (some ⟨w2.heap.size, 0, none⟩) k (2 * s.size + 1 + len + 6)) k (cellsOf (hiPart s k)) ∧ Below w2.heap.size w2 wr) (fun _ i _ => s.size - (intOf i).toNat)
      case atStart => exact ⟨0, Nat.zero_le _, rfl, rfl, hown3, hb3⟩
      case round =>
        obtain ⟨k, hk, rfl, rfl, hown, hb⟩ := hrel
        clear hown3 hb3
        by_cases hlt : k < s.size
        · have hb8 := sb_lt s k
          clear hB2 hbw2
          go_wp2_with (at_builtin; refine wpList_append_fits _ rfl (.tmp 85) (.tmp 90) 22 rfl w2.heap.size 5 i0 1 Try.underlying22 hi hz1 w2.heap.size k (2 * s.size + 1 + len + 6) _ rfl (hown.alloc _) ⟨wr.heap.size, 0, none⟩ 1 1 [.int .u8 ((sb s k : Int) / 32)] rfl rfl ?c1 ?c2 ?c3 ?_)
          case c1 => exact cell_one_new _ _ _
          case c2 => intro u hu; simp at hu; subst hu; rfl
          case c3 => omega
          intro w4 hown4 hgrow4
          rw [hi_snoc s k hlt] at hown4
          have hb4 : Below w2.heap.size w2 w4 := (hb.alloc hb.size _).grown hgrow4 (by simp; have := hb.size; omega) (fun k hk => by cases hk; exact Nat.le_refl _)
          clear hgrow4 hb hown
          go_wp2
          go_roundw
          case rel => exact ⟨k + 1, by omega, by go_num, rfl, hown4, hb4⟩
          case measure => simp [intOf]; omega
        · obtain rfl : k = s.size := by omega
          go_wp2_with (at_builtin; refine wpList_append_fits _ rfl (.tmp 92) (.tmp 93) 22 rfl w2.heap.size 5 i0 1 Try.underlying22 hi hz1 w2.heap.size s.size (2 * s.size + 1 + len + 6) _ rfl (hown.alloc _) ⟨wr.heap.size, 0, none⟩ 1 1 [.int .u8 0] rfl rfl ?d1 ?d2 ?d3 ?_)
          case d1 => exact cell_one_new _ _ _
          case d2 => intro u hu; simp at hu; subst hu; rfl
          case d3 => omega
          intro w4 hown4 hgrow4
          rw [lo_zero s s.size (Nat.le_refl _)] at hown4
          have hb4 : Below w2.heap.size w2 w4 := (hb.alloc hb.size _).grown hgrow4 (by simp; have := hb.size; omega) (fun k hk => by cases hk; exact Nat.le_refl _)
          clear hgrow4 hb hown hk hlt
          go_wp2
          go_loopw [8, 10] (fun so si wr => ∃ k : Nat, k ≤ s.size ∧ si = .int .i64 (k : Int) ∧ so = .slice (some ⟨w2.heap.size, 0, none⟩) (s.size + 1 + k) (2 * s.size + 1 + len + 6) ∧
              wr.ownsRow w2.heap.size 5 1 (.slice (some ⟨w2.heap.size, 0, none⟩) (s.size + 1 + k) (2 * s.size + 1 + len + 6)) (s.size + 1 + k) (cellsOf (loPart s k)) ∧ Below w2.heap.size w2 wr) (fun _ i _ => s.size - (intOf i).toNat)
          case atStart => exact ⟨0, Nat.zero_le _, rfl, rfl, hown4, hb4⟩
          case round =>
            obtain ⟨k, hk, rfl, rfl, hown, hb⟩ := hrel
            clear hown4 hb4
            by_cases hlt : k < s.size
            · have hb8 := sb_lt s k
              clear hB2 hbw2
              go_wp2_with (at_builtin; refine wpList_append_fits _ rfl (.tmp 100) (.tmp 105) 22 rfl w2.heap.size 5 i0 1 Try.underlying22 hi hz1 w2.heap.size (s.size + 1 + k) (2 * s.size + 1 + len + 6) _ rfl (hown.alloc _) ⟨wr.heap.size, 0, none⟩ 1 1 [.int .u8 ((sb s k : Int) % 32)] rfl rfl ?e1 ?e2 ?e3 ?_)
              case e1 => exact cell_one_new _ _ _
              case e2 => intro u hu; simp at hu; subst hu; rfl
              case e3 => omega
              intro w5 hown5 hgrow5
              have hown6 : w5.ownsRow w2.heap.size 5 1 (.slice (some ⟨w2.heap.size, 0, none⟩) (s.size + 1 + (k + 1)) (2 * s.size + 1 + len + 6)) (s.size + 1 + (k + 1)) (cellsOf (loPart s (k + 1))) := by
                rw [← lo_snoc s k hlt]; exact hown5
              have hb5 : Below w2.heap.size w2 w5 := (hb.alloc hb.size _).grown hgrow5 (by simp; have := hb.size; omega) (fun k hk => by cases hk; exact Nat.le_refl _)
              clear hown5 hgrow5 hb hown
              go_wp2
              go_roundw
              case rel => exact ⟨k + 1, by omega, by go_num, rfl, hown6, hb5⟩
              case measure => simp [intOf]; omega
            · obtain rfl : k = s.size := by omega
              rw [decP_zero s ds s.size (Nat.le_refl _)] at hown
              obtain ⟨w5, rfl⟩ : ∃ w5 : World, w5 = wr := ⟨_, rfl⟩
              have hown5 := hown
              have hb5 := hb
              clear hown hb hk hlt hss
              go_wp2
              obtain ⟨L0, HL⟩ : ∃ L0, Hid (L0 = s.size + 1 + s.size) := ⟨_, rfl⟩
              have hL0 : L0 + len + 6 = 2 * s.size + 1 + len + 6 := by have := HL.out; omega
              have hL1 : L0 + len + 6 ≤ 2 * s.size + 1 + len + 6 := by omega
              rw [show s.size + 1 + s.size = L0 from HL.out.symm] at hown5 ⊢
              clear hL0
              go_loopw [8, 11] (fun so si wr => ∃ j p : Nat, j ≤ len + 6 ∧ Hid (p = s.size + 1 + j) ∧ si = .int .i64 (p : Int) ∧ so = .slice (some ⟨w2.heap.size, 0, none⟩) (L0 + j) (2 * s.size + 1 + len + 6) ∧
                  wr.ownsRow w2.heap.size 5 1 (.slice (some ⟨w2.heap.size, 0, none⟩) (L0 + j) (2 * s.size + 1 + len + 6)) (L0 + j) (cellsOf (decP s ds j)) ∧ Below w2.heap.size w2 wr) (fun _ i _ => s.size + 1 + len + 6 - (intOf i).toNat)
              case atStart => exact ⟨0, s.size + 1, Nat.zero_le _, rfl, by go_num, rfl, hown5, hb5⟩
              case round =>
                obtain ⟨j, p, hj, HP, rfl, rfl, hown, hb⟩ := hrel
                clear hown5 hb5
                have hp1 : s.size + 1 ≤ p := by have := HP.out; omega
                have hp2 : p ≤ s.size + len + 7 := by have := HP.out; omega
                have hq : (p : Int) - (s.size : Int) - 1 = (j : Int) := by have := HP.out; omega
                by_cases hlt : j < len + 6
                · obtain ⟨y, Hy⟩ : ∃ y, Hid (y = (ds ++ cks (modW s ds)).getD j 0) := ⟨_, rfl⟩
                  have hy32 : y < 32 := by
                    rw [Hy.out]; exact dec_lt s ds (mem_lt32 (by rw [hl]; exact HZ0.out)) j (by omega)
                  have hp3 : p < s.size + len + 7 := by have := HP.out; omega
                  have hat : ∀ h, ((out[p]'h).toNat : Int) = ((chr y : Nat) : Int) := by
                    intro h; rw [get_sb out _ h, HP.out, out_chr HOUT.out j (by omega), Hy.out]
                  have HAP : Hid (cellsOf (decP s ds j) ++ [.int .u8 (y : Int)] = cellsOf (decP s ds (j + 1))) := by
                    show _ = _
                    rw [Hy.out]; exact decP_snoc s ds j (by omega)
                  by_cases hjl : j < len
                  · obtain ⟨b, o, rfl, _, hcW⟩ := (hB2.below hb).2.2 (by omega)
                    have hcell : wr.cell? ⟨b, o + j, none⟩ = some (.int .u8 (y : Int)) := by
                      rw [Hy.out, dec_data s ds j (by omega)]; exact hcW j hjl
                    clear hcW hB2 hbw2 HZ0
                    go_wp2_with fail
                    refine (index_chr y hy32 _).mono ?_
                    rintro e w' ⟨rfl, rfl⟩
                    clear hat
                    go_wp2_with (at_builtin; refine wpList_append_fits _ rfl (.tmp 142) (.tmp 144) 22 rfl w2.heap.size 5 i0 1 Try.underlying22 hi hz1 w2.heap.size (L0 + j) (2 * s.size + 1 + len + 6) _ rfl (hown.alloc _) ⟨wr.heap.size, 0, none⟩ 1 1 [.int .u8 (y : Int)] rfl rfl ?f1 ?f2 ?f3 ?_)
                    case f1 => exact cell_one_new _ _ _
                    case f2 => intro u hu; simp at hu; subst hu; rfl
                    case f3 => omega
                    intro w6 hown6 hgrow6
                    rw [HAP.out] at hown6
                    have hb6 : Below w2.heap.size w2 w6 := (hb.alloc hb.size _).grown hgrow6 (by simp; have := hb.size; omega) (fun k hk => by cases hk; exact Nat.le_refl _)
                    clear hgrow6 hb hown hq
                    go_wp2
                    go_roundw
                    case rel => exact ⟨j + 1, p + 1, by omega, by have := HP.out; show _ = _; omega, by go_num, rfl, hown6, hb6⟩
                    case measure => simp [intOf]; have := HP.out; omega
                  · clear hB2 hbw2 HZ0
                    go_wp2_with fail
                    refine (index_chr y hy32 _).mono ?_
                    rintro e w' ⟨rfl, rfl⟩
                    clear hat
                    go_wp2_with (at_builtin; refine wpList_append_fits _ rfl (.tmp 142) (.tmp 144) 22 rfl w2.heap.size 5 i0 1 Try.underlying22 hi hz1 w2.heap.size (L0 + j) (2 * s.size + 1 + len + 6) _ rfl (hown.alloc _) ⟨wr.heap.size, 0, none⟩ 1 1 [.int .u8 (y : Int)] rfl rfl ?g1 ?g2 ?g3 ?_)
                    case g1 => exact cell_one_new _ _ _
                    case g2 => intro u hu; simp at hu; subst hu; rfl
                    case g3 => omega
                    intro w6 hown6 hgrow6
                    rw [HAP.out] at hown6
                    have hb6 : Below w2.heap.size w2 w6 := (hb.alloc hb.size _).grown hgrow6 (by simp; have := hb.size; omega) (fun k hk => by cases hk; exact Nat.le_refl _)
                    clear hgrow6 hb hown hq
                    go_wp2
                    go_roundw
                    case rel => exact ⟨j + 1, p + 1, by omega, by have := HP.out; show _ = _; omega, by go_num, rfl, hown6, hb6⟩
                    case measure => simp [intOf]; have := HP.out; omega
                · obtain rfl : j = len + 6 := by omega
                  obtain ⟨w6, rfl⟩ : ∃ w6 : World, w6 = wr := ⟨_, rfl⟩
                  rw [decP_all s ds (len + 6) (by omega)] at hown
                  have h32 := mem_lt32 (by rw [hl]; exact HZ0.out)
                  have HV := poly_valid s ds h32
                  have HPV : Hid (Plain.poly (vals s ds ++ cks (modW s ds)) = 1) := HV
                  have hBv := Bytes.ofOwn hown (fun z hz => by
                    rcases List.mem_append.1 hz with hz | hz
                    · have := vals_lt s ds h32 z hz; omega
                    · have := cks_lt _ z hz; omega)
                  have hbw6 : Below w.heap.size w w6 := hbw2.trans (hb.mono hbw2.size)
                  clear hown hb hB2 hbw2 HZ0 h32 HV
                  go_wp2_with fail
                  refine (zzpoly_any _ _ _ _ _ hBv (by omega)).mono ?_
                  rintro e w7 ⟨rfl, hb7⟩
                  rw [HPV.out]
                  go_wp2
                  go_ret
                  exact ⟨rfl, hbw6.trans (hb7.mono hbw6.size)⟩

end Go.Proofs.Qxb6603877a
