/-
  THE WALK OF FnPolymodDetectsEveryBurstOfSix (3): the way to its end.
-/
import Derived.Test.Qxb6603877aBurst
namespace Go.Proofs.Qxb6603877a
open Go.RowKit

/-- zs with the first k of ps written from s on. -/
def patched (zs : List Nat) (s : Nat) (ps : List Nat) : Nat → List Nat
  | 0 => zs
  | k + 1 => (patched zs s ps k).set (s + k) (ps.getD k 0)

theorem patched_len (zs : List Nat) (s : Nat) (ps : List Nat) (k : Nat) : (patched zs s ps k).length = zs.length := by
  induction k with
  | zero => rfl
  | succ k ih => simp [patched, ih]

theorem patched_get (zs : List Nat) (s : Nat) (ps : List Nat) (k i : Nat) (hk : s + k ≤ zs.length) : (patched zs s ps k)[i]? = if s ≤ i ∧ i < s + k then some (ps.getD (i - s) 0) else zs[i]? := by
  induction k with
  | zero => simp only [patched]; rw [if_neg (by omega)]
  | succ k ih =>
    simp only [patched]
    rw [List.getElem?_set, patched_len]
    by_cases h : s + k = i
    · subst h
      rw [if_pos rfl, if_pos (by omega), if_pos (by omega), show s + k - s = k by omega]
    · rw [if_neg h, ih (by omega)]
      by_cases h2 : s ≤ i ∧ i < s + k
      · rw [if_pos h2, if_pos (by omega)]
      · rw [if_neg h2, if_neg (by omega)]

theorem patched_next (zs : List Nat) (s : Nat) (ps : List Nat) (k : Nat) (hk : s + k < zs.length) : (patched zs s ps k).getD (s + k) 0 = zs.getD (s + k) 0 := by
  rw [List.getD_eq_getElem?_getD, List.getD_eq_getElem?_getD, patched_get zs s ps k _ (by omega), if_neg (by omega)]

theorem patched_all (zs : List Nat) (s : Nat) (ps : List Nat) (hk : s + ps.length ≤ zs.length) : patched zs s ps ps.length = zs.take s ++ ps ++ zs.drop (s + ps.length) := by
  apply List.ext_getElem?
  intro i
  rw [patched_get zs s ps _ i hk]
  by_cases h1 : i < s
  · rw [if_neg (by omega), List.append_assoc, List.getElem?_append_left (by simp; omega), List.getElem?_take, if_pos h1]
  · by_cases h2 : i < s + ps.length
    · rw [if_pos (by omega), List.getElem?_append_left (by simp; omega), List.getElem?_append_right (by simp; omega)]
      simp only [List.length_take, Nat.min_eq_left (by omega : s ≤ zs.length)]
      rw [List.getD_eq_getElem?_getD, List.getElem?_eq_getElem (by omega)]
      rfl
    · rw [if_neg (by omega), List.getElem?_append_right (by simp; omega)]
      simp only [List.length_append, List.length_take, Nat.min_eq_left (by omega : s ≤ zs.length), List.getElem?_drop]
      congr 1
      omega

theorem patched_mem (zs : List Nat) (s : Nat) (ps : List Nat) (k v : Nat) (h : v ∈ patched zs s ps k) : v ∈ zs ∨ ∃ i, v = ps.getD i 0 := by
  induction k with
  | zero => exact .inl h
  | succ k ih =>
    rcases List.mem_or_eq_of_mem_set h with h | h
    · exact ih h
    · exact .inr ⟨k, h⟩

theorem parted (zs : List Nat) (s m : Nat) : zs = zs.take s ++ (zs.drop s).take m ++ zs.drop (s + m) := by
  rw [List.append_assoc, ← List.drop_drop, List.take_append_drop, List.take_append_drop]

theorem getD_lt32 {zs : List Nat} (h : ∀ i, i < zs.length → zs.getD i 0 < 32) : ∀ v ∈ zs, v < 32 := by
  intro v hv
  obtain ⟨i, hi, rfl⟩ := List.getElem_of_mem hv
  have := h i hi
  rwa [List.getD_eq_getElem?_getD, List.getElem?_eq_getElem hi] at this

/-- THE LAW ON LISTS, as the Go text comes to it. -/
theorem burst_law (zs ps : List Nat) (s : Nat) (hs : s + ps.length ≤ zs.length) (h6 : ps.length ≤ 6) (hz : ∀ i, i < zs.length → zs.getD i 0 < 32) (hp : ∀ i, i < ps.length → ps.getD i 0 < 32)
    (hd : ∃ i, i < ps.length ∧ zs.getD (s + i) 0 ≠ ps.getD i 0) : Plain.poly zs ≠ Plain.poly (patched zs s ps ps.length) := by
  have hz' := getD_lt32 hz
  have hp' := getD_lt32 hp
  rw [patched_all zs s ps hs]
  have hlen : ((zs.drop s).take ps.length).length = ps.length := by simp; omega
  have e : Plain.poly zs = Plain.poly (zs.take s ++ (zs.drop s).take ps.length ++ zs.drop (s + ps.length)) := congrArg _ (parted zs s ps.length)
  rw [e]
  refine Plain.poly_burst _ _ _ _ (fun v hv => hz' v (List.mem_of_mem_take hv)) (fun v hv => hz' v (List.mem_of_mem_drop hv)) hlen (by omega) (fun v hv => hz' v (List.mem_of_mem_drop (List.mem_of_mem_take hv))) hp' ?_
  intro he
  obtain ⟨i, hi, hne⟩ := hd
  apply hne
  rw [← he, List.getD_eq_getElem?_getD, List.getD_eq_getElem?_getD, List.getElem?_take, if_pos hi, List.getElem?_drop]

set_option maxHeartbeats 1000000 in
theorem burst_main (a0 : Option Addr) (len0 cap0 : Nat) (s : Nat) (a2 : Option Addr) (len2 cap2 : Nat) (zs ps : List Nat) (w : World) (h : len0 + len2 ≤ 1048576) (h6 : len2 ≤ 6) (hs : s + len2 ≤ len0)
    (hB0 : Bytes w a0 len0 zs) (hB2 : Bytes w a2 len2 ps) :
    Calls Try.prog 3 #[.slice a0 len0 cap0, .int .i64 s, .slice a2 len2 cap2] w fun e w' => e = .returned (.bool true) ∧ Below w.heap.size w w' := by
  obtain ⟨i0, hi, hz0, hz1, hz2⟩ := info_parts Try.info5
  have hl0 := hB0.1
  have hl2 := hB2.1
  go_enter Try.func3, Try.ntmps3
  go_wp2_with (go_at_call 8; refine (zz8_yes a0 len0 cap0 s a2 len2 cap2 _ h).mono ?_; rintro e w' ⟨rfl, rfl⟩)
  go_loop [7] (fun i => ∃ k : Nat, k ≤ len0 ∧ i = .int .i64 k ∧ Hid (∀ i, i < k → zs.getD i 0 < 32)) (fun i => len0 - (intOf i).toNat)
  case atStart => exact ⟨0, Nat.zero_le _, rfl, fun i h => absurd h (by omega)⟩
  case round =>
    obtain ⟨k, hk, rfl, HZ⟩ := hrel
    by_cases hlt : k < len0
    · obtain ⟨z, Hz⟩ : ∃ z, Hid (z = zs.getD k 0) := ⟨_, rfl⟩
      have hz8 : z < 256 := by rw [Hz.out]; exact hB0.lt k
      obtain ⟨b, o, rfl, _, hcW⟩ := hB0.2.2 (by omega)
      have hcell : w.cell? ⟨b, o + k, none⟩ = some (.int .u8 (z : Int)) := by rw [Hz.out]; exact hcW k hlt
      clear hcW hB2 hi hz0 hz1 hz2 i0
      by_cases h32 : z < 32
      · clear hB0
        go_wp2
        go_round
        case rel => exact ⟨k + 1, by omega, by go_num, fun i hi => by
          by_cases e : i = k
          · rw [e, ← Hz.out]; exact h32
          · exact HZ.out i (by omega)⟩
        case measure => simp [intOf]; omega
      · clear hB0
        go_wp2
        go_ret
        exact ⟨rfl, Below.refl _ _⟩
    · obtain rfl : len0 = k := by omega
      have HZ0 := HZ
      clear HZ hk hlt
      go_wp2
      go_loop [8] (fun i => ∃ k : Nat, k ≤ len2 ∧ i = .int .i64 k ∧ Hid (∀ i, i < k → ps.getD i 0 < 32)) (fun i => len2 - (intOf i).toNat)
      case atStart => exact ⟨0, Nat.zero_le _, rfl, fun i h => absurd h (by omega)⟩
      case round =>
        obtain ⟨k, hk, rfl, HZ⟩ := hrel
        by_cases hlt : k < len2
        · obtain ⟨z, Hz⟩ : ∃ z, Hid (z = ps.getD k 0) := ⟨_, rfl⟩
          have hz8 : z < 256 := by rw [Hz.out]; exact hB2.lt k
          obtain ⟨b, o, rfl, _, hcW⟩ := hB2.2.2 (by omega)
          have hcell : w.cell? ⟨b, o + k, none⟩ = some (.int .u8 (z : Int)) := by rw [Hz.out]; exact hcW k hlt
          clear hcW hi hz0 hz1 hz2 i0 hB0
          by_cases h32 : z < 32
          · clear hB2
            go_wp2
            go_round
            case rel => exact ⟨k + 1, by omega, by go_num, fun i hi => by
              by_cases e : i = k
              · rw [e, ← Hz.out]; exact h32
              · exact HZ.out i (by omega)⟩
            case measure => simp [intOf]; omega
          · clear hB2
            go_wp2
            go_ret
            exact ⟨rfl, Below.refl _ _⟩
        · obtain rfl : len2 = k := by omega
          have HZ2 := HZ
          clear HZ hk hlt
          go_wp2_with fail
          refine (clone_any a0 len0 cap0 zs _ hB0 (by omega)).mono ?_
          rintro e w1 ⟨a0', cap0', rfl, hB01, hb1⟩
          have hB21 := hB2.below hb1
          clear hB0 hB2
          go_wp2_with fail
          refine (clone_any a2 len2 cap2 ps _ hB21 (by omega)).mono ?_
          rintro e w2 ⟨a2', cap2', rfl, hB22, hb2⟩
          have hB02 := hB01.below hb2
          have hbw2 : Below w.heap.size w w2 := hb1.trans (hb2.mono hb1.size)
          clear hB01 hB21 hb1 hb2
          go_wp2_with (at_make; refine wpList_make_full _ rfl _ _ 22 rfl w2.heap.size 5 i0 (.int .u8 0) 1 Try.underlying22 hi hz0 hz1 _ _ _ _ len0 rfl rfl rfl rfl (by rw [hz2]; omega) (by unfold maxLen; omega) (Nat.le_refl _) ?_)
          intro w3 hown3 hgrow3
          rw [made_u8] at hown3
          have hb3 : Below w2.heap.size w2 w3 := (Below.refl _ _).grown hgrow3 (Nat.le_refl _) (fun k h => by cases h)
          clear hgrow3 hi hz0 hz1 hz2 i0
          go_wp2
          go_loopw [10] (fun i wr => ∃ k : Nat, k ≤ len0 ∧ i = .int .i64 k ∧ wr.ownsRow w2.heap.size 5 1 (.slice (some ⟨w2.heap.size, 0, none⟩) len0 len0) len0 (cellsOf (part zs k)) ∧ Below w2.heap.size w2 wr) (fun i _ => len0 - (intOf i).toNat)
          case atStart => exact ⟨0, Nat.zero_le _, rfl, by rw [part_zero, hl0]; exact hown3, hb3⟩
          case round =>
            obtain ⟨k, hk, rfl, hown, hb⟩ := hrel
            clear hown3 hb3
            by_cases hlt : k < len0
            · obtain ⟨z, Hz⟩ : ∃ z, Hid (z = zs.getD k 0) := ⟨_, rfl⟩
              have hz8 : z < 256 := by rw [Hz.out]; exact hB02.lt k
              obtain ⟨b, o, rfl, _, hcW⟩ := (hB02.below hb).2.2 (by omega)
              have hcell : wr.cell? ⟨b, o + k, none⟩ = some (.int .u8 (z : Int)) := by rw [Hz.out]; exact hcW k hlt
              have hdst : wr.cell? ⟨w2.heap.size, k, none⟩ = some (.int .u8 (((part zs k).getD k 0 : Nat) : Int)) := by
                rw [hown.cellAt k (by omega)]; exact cellsOf_get _ k (by rw [part_len zs k (by omega)]; omega)
              have hfr := hown.frozenAt k
              have hst := hown.stored k (.int .u8 (z : Int))
              have R1 : (wr.setCell ⟨w2.heap.size, k, none⟩ (.int .u8 (z : Int))).ownsRow w2.heap.size 5 1 (.slice (some ⟨w2.heap.size, 0, none⟩) len0 len0) len0 (cellsOf (part zs (k + 1))) := by
                rw [← part_set zs k (by omega), ← Hz.out, ← cellsOf_set]; exact hst.1
              have R2 : Below w2.heap.size w2 (wr.setCell ⟨w2.heap.size, k, none⟩ (.int .u8 (z : Int))) := hb.setCell (Nat.le_refl _) _
              clear hcW hB02 hB22 hst hown hb hbw2
              go_wp2
              go_roundw
              case rel => exact ⟨k + 1, by omega, by go_num, R1, R2⟩
              case measure => simp [intOf]; omega
            · obtain rfl : len0 = k := by omega
              rw [part_full zs len0 (by omega)] at hown
              obtain ⟨w4, rfl⟩ : ∃ w4 : World, w4 = wr := ⟨_, rfl⟩
              have hown4 := hown
              have hb4 := hb
              clear hlt hk hown hb
              go_wp2
              go_loopw [11, 12] (fun df i wr => ∃ (k : Nat) (d : Bool), k ≤ len2 ∧ i = .int .i64 k ∧ df = .bool d ∧ Hid (d = true → ∃ j, j < k ∧ zs.getD (s + j) 0 ≠ ps.getD j 0) ∧ wr.ownsRow w2.heap.size 5 1 (.slice (some ⟨w2.heap.size, 0, none⟩) len0 len0) len0 (cellsOf (patched zs s ps k)) ∧ Below w2.heap.size w2 wr) (fun _ i _ => len2 - (intOf i).toNat)
              case atStart => exact ⟨0, false, Nat.zero_le _, rfl, rfl, fun h => (by cases h), hown4, hb4⟩
              case round =>
                obtain ⟨k, d, hk, rfl, rfl, HD, hown, hb⟩ := hrel
                clear hown4 hb4
                by_cases hlt : k < len2
                · obtain ⟨y, Hy⟩ : ∃ y, Hid (y = ps.getD k 0) := ⟨_, rfl⟩
                  obtain ⟨x, Hx⟩ : ∃ x, Hid (x = zs.getD (s + k) 0) := ⟨_, rfl⟩
                  have hx8 : x < 256 := by rw [Hx.out]; exact hB02.lt _
                  have hy8 : y < 256 := by rw [Hy.out]; exact hB22.lt k
                  obtain ⟨b, o, rfl, _, hcW⟩ := (hB22.below hb).2.2 (by omega)
                  have hcell : wr.cell? ⟨b, o + k, none⟩ = some (.int .u8 (y : Int)) := by rw [Hy.out]; exact hcW k hlt
                  have hdst : wr.cell? ⟨w2.heap.size, s + k, none⟩ = some (.int .u8 (x : Int)) := by
                    rw [hown.cellAt (s + k) (by omega), Hx.out, ← patched_next zs s ps k (by omega)]; exact cellsOf_get _ _ (by rw [patched_len]; omega)
                  have hfr := hown.frozenAt (s + k)
                  have hst := hown.stored (s + k) (.int .u8 (y : Int))
                  have R1 : (wr.setCell ⟨w2.heap.size, s + k, none⟩ (.int .u8 (y : Int))).ownsRow w2.heap.size 5 1 (.slice (some ⟨w2.heap.size, 0, none⟩) len0 len0) len0 (cellsOf (patched zs s ps (k + 1))) := by
                    rw [patched, ← Hy.out, ← cellsOf_set]; exact hst.1
                  have R2 : Below w2.heap.size w2 (wr.setCell ⟨w2.heap.size, s + k, none⟩ (.int .u8 (y : Int))) := hb.setCell (Nat.le_refl _) _
                  clear hcW hB02 hB22 hst hown hb hbw2
                  go_wp2
                  go_region
                  all_goals go_wp2
                  · have hne : x ≠ y := by
                      have h1 : ((x : Int) != (y : Int)) = true := by assumption
                      intro e
                      rw [e] at h1
                      simp at h1
                    go_roundw
                    case rel => exact ⟨k + 1, true, by omega, by go_num, rfl, fun _ => ⟨k, by omega, by rw [← Hx.out, ← Hy.out]; exact hne⟩, R1.drew, R2.drew⟩
                    case measure => simp [intOf]; omega
                  · go_roundw
                    case rel => exact ⟨k + 1, d, by omega, by go_num, rfl, fun hd => by obtain ⟨j, h1, h2⟩ := HD.out hd; exact ⟨j, by omega, h2⟩, R1.drew, R2.drew⟩
                    case measure => simp [intOf]; omega
                · obtain rfl : len2 = k := by omega
                  have hBc : Bytes wr (some ⟨w2.heap.size, 0, none⟩) len0 (patched zs s ps len2) := Bytes.ofOwn hown (by
                    intro v hv
                    rcases patched_mem _ _ _ _ _ hv with h1 | ⟨i, rfl⟩
                    · exact hB02.2.1 v h1
                    · exact hB22.lt i)
                  have hB05 := hB02.below hb
                  have hbw5 : Below w.heap.size w wr := hbw2.trans (hb.mono hbw2.size)
                  clear hown hb hB02 hB22 hbw2 hk hlt
                  cases d with
                  | false =>
                    go_wp2
                    go_ret
                    exact ⟨rfl, hbw5⟩
                  | true =>
                    have hlaw : Hid (((Plain.poly zs : Nat) : Int) ≠ ((Plain.poly (patched zs s ps len2) : Nat) : Int)) := by
                      have hlaw := burst_law zs ps s (by omega) (by omega) (by rw [hl0]; exact HZ0.out) (by rw [hl2]; exact HZ2.out) (by rw [hl2]; exact HD.out rfl)
                      rw [hl2] at hlaw
                      intro e
                      exact hlaw (by omega)
                    clear HD HZ0 HZ2
                    obtain ⟨w5, rfl⟩ : ∃ w5 : World, w5 = wr := ⟨_, rfl⟩
                    go_wp2_with fail
                    refine (zzpoly_any a0' len0 cap0' zs _ hB05 (by omega)).mono ?_
                    rintro e w6 ⟨rfl, hb6⟩
                    have hBc6 := hBc.below hb6
                    go_wp2_with fail
                    refine (zzpoly_any _ len0 _ _ _ hBc6 (by omega)).mono ?_
                    rintro e w7 ⟨rfl, hb7⟩
                    go_wp2
                    go_ret
                    refine ⟨?_, hbw5.trans ((hb6.trans (hb7.mono hb6.size)).mono hbw5.size)⟩
                    have hne := hlaw.out
                    show Ending.returned (Value.bool (((Plain.poly zs : Nat) : Int) != ((Plain.poly (patched zs s ps len2) : Nat) : Int))) = _
                    rw [bne_iff_ne.2 hne]

end Go.Proofs.Qxb6603877a
