/-
  THE WALK OF hrpExpand (22); a string's bytes as numbers.
-/
import Derived.Test.Qxb6603877aClone
import Derived.Lib.AppendStr
import Derived.Laws.AppendOwnNone
namespace Go.Proofs.Qxb6603877a
open Go.RowKit

/-- A string's bytes as numbers. -/
def sbytes (s : ByteArray) : List Nat := s.data.toList.map UInt8.toNat
/-- Byte k of a string. -/
def sb (s : ByteArray) (k : Nat) : Nat := (sbytes s).getD k 0

theorem sbytes_len (s : ByteArray) : (sbytes s).length = s.size := by
  rw [sbytes, List.length_map, Array.length_toList]; rfl
theorem sbytes_lt (s : ByteArray) : ∀ z ∈ sbytes s, z < 256 := by
  intro z hz
  obtain ⟨b, _, rfl⟩ := List.mem_map.1 hz
  exact b.toNat_lt
theorem get_sb (s : ByteArray) : ∀ (n : Nat) (h : n < s.size), ((s[n]'h).toNat : Int) = ((sb s n : Nat) : Int) := by
  intro n h
  have hl : n < s.data.toList.length := by simpa using h
  congr 1
  rw [sb, sbytes, List.getD_eq_getElem?_getD, List.getElem?_map, List.getElem?_eq_getElem hl]
  rfl
theorem sb_lt (s : ByteArray) (k : Nat) : sb s k < 256 := by
  unfold sb
  by_cases hk : k < (sbytes s).length
  · rw [List.getD_eq_getElem?_getD, List.getElem?_eq_getElem hk]; exact sbytes_lt s _ (List.getElem_mem _)
  · simp [List.getD_eq_getElem?_getD, List.getElem?_eq_none (by omega : (sbytes s).length ≤ k)]

/-- The values through which a human-readable part enters the checksum. -/
def expand (l : List Nat) : List Nat := l.map (· / 32) ++ [0] ++ l.map (· % 32)
theorem expand_len (l : List Nat) : (expand l).length = 2 * l.length + 1 := by simp [expand]; omega

theorem map_snoc (f : Nat → Nat) (l : List Nat) (k : Nat) (h : k < l.length) : (l.take (k + 1)).map f = (l.take k).map f ++ [f (l.getD k 0)] := by
  rw [List.take_succ_eq_append_getElem h, List.map_append, List.getD_eq_getElem?_getD, List.getElem?_eq_getElem h]
  rfl

theorem cellsOf_snoc' (zs : List Nat) (z : Nat) : cellsOf zs ++ [.int .u8 (z : Int)] = cellsOf (zs ++ [z]) := by simp [cellsOf]

/-- The first k values of the first part. -/
def hiPart (s : ByteArray) (k : Nat) : List Nat := ((sbytes s).take k).map (· / 32)
/-- The first part, the nought, and the first k values of the second part. -/
def loPart (s : ByteArray) (k : Nat) : List Nat := (sbytes s).map (· / 32) ++ [0] ++ ((sbytes s).take k).map (· % 32)
theorem hi_snoc (s : ByteArray) (k : Nat) (h : k < s.size) : cellsOf (hiPart s k) ++ [.int .u8 ((sb s k : Int) / 32)] = cellsOf (hiPart s (k + 1)) := by
  unfold hiPart
  rw [map_snoc _ _ _ (by rw [sbytes_len]; omega), ← cellsOf_snoc']
  rfl
theorem lo_zero (s : ByteArray) (k : Nat) (h : s.size ≤ k) : cellsOf (hiPart s k) ++ [.int .u8 0] = cellsOf (loPart s 0) := by
  unfold hiPart loPart
  rw [List.take_of_length_le (by rw [sbytes_len]; omega), List.take_zero, List.map_nil, List.append_nil, ← cellsOf_snoc']
  rfl
theorem lo_snoc (s : ByteArray) (k : Nat) (h : k < s.size) : cellsOf (loPart s k) ++ [.int .u8 ((sb s k : Int) % 32)] = cellsOf (loPart s (k + 1)) := by
  unfold loPart
  rw [map_snoc _ _ _ (by rw [sbytes_len]; omega), ← List.append_assoc, ← cellsOf_snoc']
  rfl
theorem lo_all (s : ByteArray) (k : Nat) (h : s.size ≤ k) : loPart s k = expand (sbytes s) := by
  unfold loPart expand
  rw [List.take_of_length_le (by rw [sbytes_len]; omega)]
theorem and31 (z : Nat) (hz : z < 256) : bits BinOp.and IntKind.u8 (z : Int) 31 = ((z % 32 : Nat) : Int) := by
  rw [show (31 : Int) = ((31 : Nat) : Int) from rfl, u8_and_nat z 31 hz (by omega), nat_mask5]

set_option maxHeartbeats 400000 in
theorem expand_any (s : ByteArray) (w : World) (hs : s.size ≤ 1000000) :
    Calls Try.prog 22 #[.string s] w fun e w' => e = .returned (.slice (some ⟨w.heap.size, 0, none⟩) (2 * s.size + 1) (2 * s.size + 1)) ∧
      w'.ownsRow w.heap.size 5 1 (.slice (some ⟨w.heap.size, 0, none⟩) (2 * s.size + 1) (2 * s.size + 1)) (2 * s.size + 1) (cellsOf (expand (sbytes s))) ∧ Below w.heap.size w w' := by
  obtain ⟨i0, hi, hz0, hz1, hz2⟩ := info_parts Try.info5
  have hsb := get_sb s
  have hlen := sbytes_len s
  go_enter Try.func22, Try.ntmps22
  go_wp2_with (at_make; refine wpList_make_own _ rfl _ _ 22 rfl w.heap.size 5 i0 (.int .u8 0) 1 Try.underlying22 hi hz0 hz1 _ _ _ (2 * s.size + 1) rfl rfl ?hC ?b2 ?b3 (Nat.le_refl _) ?_)
  case hC => omega
  case b2 => rw [hz2]; omega
  case b3 => unfold maxLen; omega
  intro w0 hown0 hgrow0
  have hb0 : Below w.heap.size w w0 := (Below.refl _ _).grown hgrow0 (Nat.le_refl _) (fun k h => by cases h)
  clear hgrow0
  go_wp2
  go_loopw [3, 4] (fun so si wr => ∃ k : Nat, k ≤ s.size ∧ si = .int .i64 (k : Int) ∧ so = .slice (some ⟨w.heap.size, 0, none⟩) k (2 * s.size + 1) ∧
      wr.ownsRow w.heap.size 5 1 (.slice (some ⟨w.heap.size, 0, none⟩) k (2 * s.size + 1)) k (cellsOf (hiPart s k)) ∧ Below w.heap.size w wr) (fun _ i _ => s.size - (intOf i).toNat)
  case atStart => exact ⟨0, Nat.zero_le _, rfl, rfl, hown0, hb0⟩
  case round =>
    obtain ⟨k, hk, rfl, rfl, hown, hb⟩ := hrel
    clear hown0 hb0
    by_cases hlt : k < s.size
    · have hb8 := sb_lt s k
      go_wp2_with (at_builtin; refine wpList_append_fits _ rfl (.tmp 17) (.tmp 22) 22 rfl w.heap.size 5 i0 1 Try.underlying22 hi hz1 w.heap.size k (2 * s.size + 1) _ rfl (hown.alloc _) ⟨wr.heap.size, 0, none⟩ 1 1 [.int .u8 ((sb s k : Int) / 32)] rfl rfl ?c1 ?c2 ?c3 ?_)
      case c1 => exact cell_one_new _ _ _
      case c2 => intro u hu; simp at hu; subst hu; rfl
      case c3 => omega
      intro w2 hown2 hgrow2
      rw [hi_snoc s k hlt] at hown2
      go_wp2
      go_roundw
      case rel => exact ⟨k + 1, by omega, by go_num, rfl, hown2, (hb.alloc hb.size _).grown hgrow2 (by simp; have := hb.size; omega) (fun k hk => by cases hk; exact Nat.le_refl _)⟩
      case measure => simp [intOf]; omega
    · obtain rfl : k = s.size := by omega
      go_wp2_with (at_builtin; refine wpList_append_fits _ rfl (.tmp 24) (.tmp 25) 22 rfl w.heap.size 5 i0 1 Try.underlying22 hi hz1 w.heap.size s.size (2 * s.size + 1) _ rfl (hown.alloc _) ⟨wr.heap.size, 0, none⟩ 1 1 [.int .u8 0] rfl rfl ?d1 ?d2 ?d3 ?_)
      case d1 => exact cell_one_new _ _ _
      case d2 => intro u hu; simp at hu; subst hu; rfl
      case d3 => omega
      intro w2 hown2 hgrow2
      rw [lo_zero s s.size (Nat.le_refl _)] at hown2
      have hb2 : Below w.heap.size w w2 := (hb.alloc hb.size _).grown hgrow2 (by simp; have := hb.size; omega) (fun k hk => by cases hk; exact Nat.le_refl _)
      clear hgrow2 hb hown hk hlt
      go_wp2
      go_loopw [3, 5] (fun so si wr => ∃ k : Nat, k ≤ s.size ∧ si = .int .i64 (k : Int) ∧ so = .slice (some ⟨w.heap.size, 0, none⟩) (s.size + 1 + k) (2 * s.size + 1) ∧
          wr.ownsRow w.heap.size 5 1 (.slice (some ⟨w.heap.size, 0, none⟩) (s.size + 1 + k) (2 * s.size + 1)) (s.size + 1 + k) (cellsOf (loPart s k)) ∧ Below w.heap.size w wr) (fun _ i _ => s.size - (intOf i).toNat)
      case atStart => exact ⟨0, Nat.zero_le _, rfl, rfl, hown2, hb2⟩
      case round =>
        obtain ⟨k, hk, rfl, rfl, hown, hb⟩ := hrel
        clear hown2 hb2
        by_cases hlt : k < s.size
        · have hb8 := sb_lt s k
          go_wp2_with (at_builtin; refine wpList_append_fits _ rfl (.tmp 33) (.tmp 38) 22 rfl w.heap.size 5 i0 1 Try.underlying22 hi hz1 w.heap.size (s.size + 1 + k) (2 * s.size + 1) _ rfl (hown.alloc _) ⟨wr.heap.size, 0, none⟩ 1 1 [.int .u8 ((sb s k : Int) % 32)] rfl rfl ?e1 ?e2 ?e3 ?_)
          case e1 => exact cell_one_new _ _ _
          case e2 => intro u hu; simp at hu; subst hu; rfl
          case e3 => omega
          intro w2 hown2 hgrow2
          have hown3 : w2.ownsRow w.heap.size 5 1 (.slice (some ⟨w.heap.size, 0, none⟩) (s.size + 1 + (k + 1)) (2 * s.size + 1)) (s.size + 1 + (k + 1)) (cellsOf (loPart s (k + 1))) := by
            rw [← lo_snoc s k hlt]; exact hown2
          clear hown2
          go_wp2
          go_roundw
          case rel => exact ⟨k + 1, by omega, by go_num, rfl, hown3, (hb.alloc hb.size _).grown hgrow2 (by simp; have := hb.size; omega) (fun k hk => by cases hk; exact Nat.le_refl _)⟩
          case measure => simp [intOf]; omega
        · obtain rfl : k = s.size := by omega
          rw [lo_all s s.size (Nat.le_refl _)] at hown
          rw [show s.size + 1 + s.size = 2 * s.size + 1 by omega] at hown
          go_wp2
          go_ret
          refine ⟨?_, hown, hb⟩
          show Ending.returned (Value.slice (some ⟨w.heap.size, 0, none⟩) (s.size + 1 + s.size) (2 * s.size + 1)) = _
          rw [show s.size + 1 + s.size = 2 * s.size + 1 by omega]

end Go.Proofs.Qxb6603877a
