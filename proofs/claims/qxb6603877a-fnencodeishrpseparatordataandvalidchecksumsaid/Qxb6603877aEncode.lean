/-
  THE WALK OF Encode (15).
-/
import Derived.Test.Qxb6603877aLaws
namespace Go.Proofs.Qxb6603877a
open Go.RowKit

theorem clone_any2 (a : Option Addr) (len cap : Nat) (zs : List Nat) (w : World) (hB : Bytes w a len zs) (hm : len ≤ 1000000000) :
    Calls Try.prog 9 #[.slice a len cap] w fun e w' => ∃ a' cap', e = .returned (.slice a' len cap') ∧ Hid (a' = none → cap' = 0) ∧ Bytes w' a' len zs ∧ Below w.heap.size w w' := by
  cases a with
  | none =>
    have h0 : len = 0 := by
      rcases Nat.eq_zero_or_pos len with h | h
      · exact h
      · obtain ⟨b, o, h, _⟩ := hB.2.2 h; cases h
    subst h0
    refine (clone_none 0 cap w).mono fun e w' ⟨he, hw⟩ => ?_
    subst he; subst hw
    exact ⟨none, 0, rfl, (fun _ => rfl), hB, Below.refl _ _⟩
  | some x =>
    refine (clone_some x len cap zs w hB hm).mono fun e w' ⟨he, hown, hb⟩ => ?_
    subst he
    exact ⟨some ⟨w.heap.size, 0, none⟩, len, rfl, (fun h => by cases h), Bytes.ofOwn hown hB.2.1, hb⟩

/-- The table of characters. -/
def chars : List Nat := [113, 112, 122, 114, 121, 57, 120, 56, 103, 102, 50, 116, 118, 100, 119, 48, 115, 51, 106, 110, 53, 52, 107, 104, 99, 101, 54, 109, 117, 97, 55, 108]
def chr (v : Nat) : Nat := chars.getD v 0

theorem Bytes.src {w : World} {a : Option Addr} {len : Nat} {zs : List Nat} (h : Bytes w a len zs) : ∀ ad, a = some ad → ∀ j u, (cellsOf zs)[j]? = some u → w.cell? (ad.add j) = some u := by
  intro ad ha j u hu
  have hj : j < zs.length := by
    have := (List.getElem?_eq_some_iff.1 hu).1
    rwa [cellsOf_len] at this
  obtain ⟨b, o, hb, _, hc⟩ := h.2.2 (by have := h.1; omega)
  rw [ha] at hb
  obtain rfl := Option.some.inj hb
  rw [cellsOf_get zs j hj] at hu
  rw [Addr.add_lit, hc j (by have := h.1; omega)]
  exact hu
theorem Bytes.nil {w : World} {a : Option Addr} {len : Nat} {zs : List Nat} (h : Bytes w a len zs) (ha : a = none) : len = 0 := by
  rcases Nat.eq_zero_or_pos len with h0 | h0
  · exact h0
  · obtain ⟨b, o, hb, _⟩ := h.2.2 h0; rw [ha] at hb; cases hb
theorem cellsOf_one (zs : List Nat) : ∀ u ∈ cellsOf zs, u.oneCell' = true := by
  intro u hu
  obtain ⟨_, _, rfl⟩ := List.mem_map.1 hu
  rfl
theorem cellsOf_append (a b : List Nat) : cellsOf a ++ cellsOf b = cellsOf (a ++ b) := by simp [cellsOf]

theorem expand_lt (l : List Nat) (h : ∀ z ∈ l, z < 256) : ∀ z ∈ expand l, z < 32 := by
  intro z hz
  simp only [expand, List.mem_append, List.mem_map, List.mem_singleton] at hz
  rcases hz with (⟨y, hy, rfl⟩ | rfl) | ⟨y, hy, rfl⟩
  · have := h y hy; omega
  · omega
  · omega

theorem chars_at : ∀ (n : Nat) (h : n < ByteArray.size { data := #[113, 112, 122, 114, 121, 57, 120, 56, 103, 102, 50, 116, 118, 100, 119, 48, 115, 51, 106, 110, 53, 52, 107, 104, 99, 101, 54, 109, 117, 97, 55, 108] }),
    ((({ data := #[113, 112, 122, 114, 121, 57, 120, 56, 103, 102, 50, 116, 118, 100, 119, 48, 115, 51, 106, 110, 53, 52, 107, 104, 99, 101, 54, 109, 117, 97, 55, 108] } : ByteArray)[n]'h).toNat : Int) = ((chr n : Nat) : Int) := by
  intro n h
  rw [get_sb _ n h]
  rfl

/-- What Encode has written behind k values of the data. -/
def encA (s : ByteArray) (ds : List Nat) (k : Nat) : List Nat := sbytes s ++ [49] ++ (ds.take k).map chr
theorem encA_zero (s : ByteArray) (ds : List Nat) : cellsOf (sbytes s) ++ [.int .u8 49] = cellsOf (encA s ds 0) := by
  simp [encA, cellsOf]
theorem encA_snoc (s : ByteArray) (ds : List Nat) (k : Nat) (h : k < ds.length) : cellsOf (encA s ds k) ++ [.int .u8 ((chr (ds.getD k 0) : Nat) : Int)] = cellsOf (encA s ds (k + 1)) := by
  unfold encA
  rw [map_snoc _ _ _ h, ← List.append_assoc, ← cellsOf_snoc']

/-- Value number i of the checksum whose word is m. -/
def ck (m i : Nat) : Nat := m / 2 ^ (5 * (5 - i)) % 32
/-- What Encode has written behind k characters of the checksum. -/
def encB (s : ByteArray) (ds : List Nat) (m k : Nat) : List Nat := sbytes s ++ [49] ++ ds.map chr ++ (List.range k).map fun i => chr (ck m i)
theorem encB_zero (s : ByteArray) (ds : List Nat) (m k : Nat) (h : ds.length ≤ k) : cellsOf (encA s ds k) = cellsOf (encB s ds m 0) := by
  simp [encA, encB, List.take_of_length_le h]
theorem encB_snoc (s : ByteArray) (ds : List Nat) (m k : Nat) : cellsOf (encB s ds m k) ++ [.int .u8 ((chr (ck m k) : Nat) : Int)] = cellsOf (encB s ds m (k + 1)) := by
  unfold encB
  rw [List.range_succ, List.map_append, ← List.append_assoc, cellsOf_snoc']
  rfl

/-- The values over which the checksum is taken. -/
def vals (s : ByteArray) (ds : List Nat) : List Nat := expand (sbytes s) ++ ds
/-- The checksum's word. -/
def modW (s : ByteArray) (ds : List Nat) : Nat := Plain.poly (vals s ds ++ [0, 0, 0, 0, 0, 0]) ^^^ 1
theorem vals_lt (s : ByteArray) (ds : List Nat) (h : ∀ z ∈ ds, z < 32) : ∀ z ∈ vals s ds, z < 32 := by
  intro z hz
  rcases List.mem_append.1 hz with hz | hz
  · exact expand_lt _ (sbytes_lt s) z hz
  · exact h z hz

theorem sbytes_strOf (l : List Nat) (h : ∀ z ∈ l, z < 256) : sbytes (strOfNums (l.map fun n : Nat => (n : Int))) = l := by
  rw [sbytes, strOfNums_data, List.map_map, List.map_map]
  apply List.ext_getElem (by simp)
  intro i h1 h2
  have := h l[i] (List.getElem_mem _)
  simp
  omega
theorem chr_lt : ∀ v, chr v < 256 := by
  intro v
  by_cases hv : v < 32
  · have : ∀ v < 32, chr v < 256 := by decide
    exact this v hv
  · have : chr v = 0 := by
      rw [chr, List.getD_eq_getElem?_getD, List.getElem?_eq_none (by simp [chars]; omega)]; rfl
    omega
theorem encB_lt (s : ByteArray) (ds : List Nat) (m k : Nat) : ∀ z ∈ encB s ds m k, z < 256 := by
  intro z hz
  simp only [encB, List.mem_append, List.mem_map, List.mem_singleton] at hz
  rcases hz with ((hz | rfl) | ⟨y, _, rfl⟩) | ⟨y, _, rfl⟩
  · exact sbytes_lt s z hz
  · omega
  · exact chr_lt _
  · exact chr_lt _
theorem encB_len (s : ByteArray) (ds : List Nat) (m k : Nat) : (encB s ds m k).length = s.size + 1 + ds.length + k := by
  simp [encB, sbytes_len]
  omega

set_option maxHeartbeats 1000000 in
theorem encode_any (s : ByteArray) (a : Option Addr) (len cap : Nat) (ds : List Nat) (w : World) (hs : s.size ≤ 524288) (hm : len ≤ 1048576) (hB : Bytes w a len ds) (hnil : Hid (a = none → cap = 0)) (h32 : ∀ i, i < len → ds.getD i 0 < 32) :
    Calls Try.prog 15 #[.string s, .slice a len cap] w fun e w' => ∃ out : ByteArray, e = .returned (.string out) ∧ sbytes out = encB s ds (modW s ds) 6 ∧ Below w.heap.size w w' := by
  obtain ⟨i0, hi, hz0, hz1, hz2⟩ := info_parts Try.info5
  have hl := hB.1
  have HB := hB
  clear hB
  go_enter Try.func15, Try.ntmps15
  go_wp2_with fail
  refine (expand_any s _ (by omega)).mono ?_
  rintro e w1 ⟨rfl, hown1, hb1⟩
  have HB1 := HB.below hb1
  go_wp2_with (at_builtin; refine wpList_append_big _ rfl (.tmp 12) (.tmp 13) 22 rfl w.heap.size 5 i0 (.int .u8 0) 1 1 Try.underlying22 hi hz0 hz1 hz2 rfl (by omega) _ _ _ rfl hown1 a len cap (cellsOf ds) rfl ?a1 ?a2 ?a3 ?a4 ?a5 ?a6 ?a7 ?a8 ?_)
  case a1 => exact fun h => ⟨HB1.nil h, hnil.out h⟩
  case a2 => rw [cellsOf_len, HB1.1]; omega
  case a3 => exact HB1.src
  case a4 => exact cellsOf_one _
  case a5 => unfold maxLen; omega
  case a6 => omega
  case a7 => exact hb1.size
  case a8 => omega
  intro g2 c2 w2 hg2 hown2 hgrow2
  rw [cellsOf_append] at hown2
  have hb2 : Below w.heap.size w w2 := hb1.grown hgrow2 hb1.size (fun k hk => by cases hk; exact Nat.le_refl _)
  have HB2 := HB.below hb2
  clear hgrow2 hown1 HB1 hb1 hnil
  go_wp2_with (at_builtin; refine wpList_append_big _ rfl (.tmp 15) (.tmp 16) 22 rfl w.heap.size 5 i0 (.int .u8 0) 1 1 Try.underlying22 hi hz0 hz1 hz2 rfl (by omega) _ _ _ rfl (hown2.alloc _) (some ⟨w2.heap.size, 0, none⟩) 6 6 (cellsOf [0, 0, 0, 0, 0, 0]) rfl ?b1 ?b2 ?b3 ?b4 ?b5 ?b6 ?b7 ?b8 ?_)
  case b1 => intro h; cases h
  case b2 => rfl
  case b3 => intro ad h; cases h; intro j u hu; rw [Addr.add_lit, Nat.zero_add, World.cell?_alloc_new, List.getElem?_toArray]; exact hu
  case b4 => exact cellsOf_one _
  case b5 => unfold maxLen; omega
  case b6 => omega
  case b7 => have := hb2.size; simp; omega
  case b8 => omega
  intro g3 c3 w3 hg3 hown3 hgrow3
  rw [cellsOf_append] at hown3
  have hb3 : Below w.heap.size w w3 := (hb2.alloc hb2.size _).grown hgrow3 (by simp; have := hb2.size; omega) (fun k hk => by cases hk; exact hg2)
  clear hgrow3 hown2 HB2 hb2
  have hd32 : ∀ z ∈ ds, z < 32 := by
    intro z hz
    obtain ⟨i, hi, rfl⟩ := List.getElem_of_mem hz
    have := h32 i (by omega)
    rwa [List.getD_eq_getElem?_getD, List.getElem?_eq_getElem hi] at this
  have hV : ∀ z ∈ expand (sbytes s) ++ ds ++ [0, 0, 0, 0, 0, 0], z < 32 := by
    intro z hz
    rcases List.mem_append.1 hz with hz | hz
    · exact vals_lt s ds hd32 z hz
    · simp at hz; omega
  have hBv := Bytes.ofOwn hown3 (fun z hz => by have := hV z hz; omega)
  go_wp2_with fail
  refine (poly_any _ _ _ _ _ hBv (by omega)).mono ?_
  rintro e w4 ⟨rfl, hb4'⟩
  have hb4 : Below w.heap.size w w4 := hb3.trans (hb4'.mono hb3.size)
  have HB4 := HB.below hb4
  have hpl : Plain.poly (expand (sbytes s) ++ ds ++ [0, 0, 0, 0, 0, 0]) < 1073741824 := Plain.run_lt _ _ (by omega) (fun v hv => by have := hV v hv; omega)
  obtain ⟨M, HM⟩ : ∃ M, Hid (M = modW s ds) := ⟨_, rfl⟩
  obtain ⟨c, Hc⟩ : ∃ c, Hid (c = Plain.poly (expand (sbytes s) ++ ds ++ [0, 0, 0, 0, 0, 0])) := ⟨Plain.poly (expand (sbytes s) ++ ds ++ [0, 0, 0, 0, 0, 0]), rfl⟩
  have hc30 : c < 1073741824 := by rw [Hc.out]; exact hpl
  rw [← Hc.out]
  have hxor : bits BinOp.xor IntKind.u32 (c : Int) 1 = (M : Int) := by
    rw [HM.out, show (1 : Int) = ((1 : Nat) : Int) from rfl, u32_xor_nat _ 1 (by omega) (by omega), Hc.out]; rfl
  have hM30 : M < 1073741824 := by rw [HM.out]; exact Plain.xor_lt30 hpl (by omega)
  clear hown3 hBv hb3 hb4' hV hpl
  go_wp2_with (at_make; refine wpList_make_own _ rfl _ _ 22 rfl w.heap.size 5 i0 (.int .u8 0) 1 Try.underlying22 hi hz0 hz1 _ _ _ (s.size + 1 + len + 6) rfl rfl ?m1 ?m2 ?m3 ?m4 ?_)
  case m1 => omega
  case m2 => rw [hz2]; omega
  case m3 => unfold maxLen; omega
  case m4 => exact hb4.size
  intro w5 hown5 hgrow5
  have hb5 : Below w.heap.size w w5 := hb4.grown hgrow5 hb4.size (fun k h => by cases h)
  have hgb : w.heap.size ≤ w4.heap.size := hb4.size
  clear hgrow5 hb4 HB4 hxor
  obtain ⟨B, HBB⟩ : ∃ B, Hid (B = w4.heap.size) := ⟨_, rfl⟩
  rw [← HBB.out] at hown5 hgb ⊢
  go_wp2_with (at_builtin; refine wpList_append_string_fits _ rfl (.tmp 29) (.tmp 30) 22 9 rfl w.heap.size 5 i0 Try.underlying22 Try.underlying9 hi hz1 B 0 (s.size + 1 + len + 6) _ rfl hown5 s rfl ?s1 ?_)
  case s1 => omega
  intro w6 hown6 hgrow6
  have hb6 : Below w.heap.size w w6 := hb5.grown hgrow6 hb5.size (fun k h => by cases h; exact hgb)
  clear hgrow6 hb5 hown5
  go_wp2_with (at_builtin; refine wpList_append_fits _ rfl (.tmp 32) (.tmp 33) 22 rfl w.heap.size 5 i0 1 Try.underlying22 hi hz1 B s.size (s.size + 1 + len + 6) _ rfl (hown6.alloc _) ⟨w6.heap.size, 0, none⟩ 1 1 [.int .u8 49] rfl rfl ?d1 ?d2 ?d3 ?_)
  case d1 => exact cell_one_new _ _ _
  case d2 => intro u hu; simp at hu; subst hu; rfl
  case d3 => omega
  intro w7 hown7 hgrow7
  rw [encA_zero s ds] at hown7
  have hb7 : Below w.heap.size w w7 := (hb6.alloc hb6.size _).grown hgrow7 (by simp; have := hb6.size; omega) (fun k hk => by cases hk; exact hgb)
  clear hgrow7 hb6 hown6
  go_wp2
  go_loopw [7, 37] (fun so si wr => ∃ k : Nat, k ≤ len ∧ si = .int .i64 (k : Int) ∧ so = .slice (some ⟨B, 0, none⟩) (s.size + 1 + k) (s.size + 1 + len + 6) ∧
      wr.ownsRow w.heap.size 5 1 (.slice (some ⟨B, 0, none⟩) (s.size + 1 + k) (s.size + 1 + len + 6)) (s.size + 1 + k) (cellsOf (encA s ds k)) ∧ Below w.heap.size w wr) (fun _ i _ => len - (intOf i).toNat)
  case atStart => exact ⟨0, Nat.zero_le _, rfl, rfl, hown7, hb7⟩
  case round =>
    obtain ⟨k, hk, rfl, rfl, hown, hb⟩ := hrel
    clear hown7 hb7
    by_cases hlt : k < len
    · obtain ⟨z, Hz⟩ : ∃ z, Hid (z = ds.getD k 0) := ⟨_, rfl⟩
      have hz32 : z < 32 := by rw [Hz.out]; exact h32 k hlt
      obtain ⟨bb, oo, rfl, _, hcW⟩ := (HB.below hb).2.2 (by omega)
      have hcell : wr.cell? ⟨bb, oo + k, none⟩ = some (.int .u8 (z : Int)) := by rw [Hz.out]; exact hcW k hlt
      have hch := chars_at
      clear hcW hd32 h32
      go_wp2_with (at_builtin; refine wpList_append_fits _ rfl (.tmp 41) (.tmp 44) 22 rfl w.heap.size 5 i0 1 Try.underlying22 hi hz1 B (s.size + 1 + k) (s.size + 1 + len + 6) _ rfl (hown.alloc _) ⟨wr.heap.size, 0, none⟩ 1 1 [.int .u8 ((chr z : Nat) : Int)] rfl rfl ?e1 ?e2 ?e3 ?_)
      case e1 => exact cell_one_new _ _ _
      case e2 => intro u hu; simp at hu; subst hu; rfl
      case e3 => omega
      intro w8 hown8 hgrow8
      rw [Hz.out, encA_snoc s ds k (by omega)] at hown8
      have hb8 : Below w.heap.size w w8 := (hb.alloc hb.size _).grown hgrow8 (by simp; have := hb.size; omega) (fun k hk => by cases hk; exact hgb)
      clear hgrow8 hb hown hch
      go_wp2
      go_roundw
      case rel => exact ⟨k + 1, by omega, by go_num, rfl, hown8, hb8⟩
      case measure => simp [intOf]; omega
    · obtain rfl : len = k := by omega
      rw [encB_zero s ds M len (by omega)] at hown
      obtain ⟨w8, rfl⟩ : ∃ w8 : World, w8 = wr := ⟨_, rfl⟩
      have hown8 := hown
      have hb8 := hb
      clear hown hb hk hlt HB h32 hd32
      go_wp2
      go_loopw [7, 10] (fun so si wr => ∃ k : Nat, k ≤ 6 ∧ si = .int .i64 (k : Int) ∧ so = .slice (some ⟨B, 0, none⟩) (s.size + 1 + len + k) (s.size + 1 + len + 6) ∧
          wr.ownsRow w.heap.size 5 1 (.slice (some ⟨B, 0, none⟩) (s.size + 1 + len + k) (s.size + 1 + len + 6)) (s.size + 1 + len + k) (cellsOf (encB s ds M k)) ∧ Below w.heap.size w wr) (fun _ i _ => 6 - (intOf i).toNat)
      case atStart => exact ⟨0, Nat.zero_le _, rfl, rfl, hown8, hb8⟩
      case round =>
        obtain ⟨k, hk, rfl, rfl, hown, hb⟩ := hrel
        clear hown8 hb8
        by_cases hlt : k < 6
        · obtain ⟨S, HS⟩ : ∃ S, Hid (S = 5 * (5 - k)) := ⟨_, rfl⟩
          have hS : (5 : Int) * (5 - (k : Int)) = (S : Int) := by have := HS.out; omega
          have hS25 : S ≤ 25 := by have := HS.out; omega
          obtain ⟨y, Hy⟩ : ∃ y, Hid (y = ck M k) := ⟨_, rfl⟩
          have hy32 : y < 32 := by rw [Hy.out, ck]; omega
          have hmod : bits BinOp.and IntKind.u32 ((M : Int) / 2 ^ S) 31 = (y : Int) := by
            have e : ((M : Int) / 2 ^ S) = ((M / 2 ^ S : Nat) : Int) := by simp
            rw [e, show (31 : Int) = ((31 : Nat) : Int) from rfl, u32_and_nat _ 31 (Nat.lt_of_le_of_lt (Nat.div_le_self _ _) (by omega)) (by omega), nat_mask5, Hy.out, ck, ← HS.out]
          have hch := chars_at
          go_wp2_with (at_builtin; refine wpList_append_fits _ rfl (.tmp 51) (.tmp 60) 22 rfl w.heap.size 5 i0 1 Try.underlying22 hi hz1 B (s.size + 1 + len + k) (s.size + 1 + len + 6) _ rfl (hown.alloc _) ⟨wr.heap.size, 0, none⟩ 1 1 [.int .u8 ((chr y : Nat) : Int)] rfl rfl ?f1 ?f2 ?f3 ?_)
          case f1 => exact cell_one_new _ _ _
          case f2 => intro u hu; simp at hu; subst hu; rfl
          case f3 => omega
          intro w9 hown9 hgrow9
          rw [Hy.out, encB_snoc s ds M k] at hown9
          have hb9 : Below w.heap.size w w9 := (hb.alloc hb.size _).grown hgrow9 (by simp; have := hb.size; omega) (fun k hk => by cases hk; exact hgb)
          clear hgrow9 hb hown hch hmod hS
          go_wp2
          go_roundw
          case rel => exact ⟨k + 1, by omega, by go_num, rfl, hown9, hb9⟩
          case measure => simp [intOf]; omega
        · obtain rfl : k = 6 := by omega
          obtain ⟨O, HO⟩ : ∃ O, Hid (O = strOfNums ((encB s ds M 6).map fun n : Nat => (n : Int))) := ⟨strOfNums ((encB s ds M 6).map fun n : Nat => (n : Int)), rfl⟩
          have hconv : (convert 22 9 (.slice (some ⟨B, 0, none⟩) (s.size + 1 + len + 6) (s.size + 1 + len + 6))).run Try.prog wr = .ok (.string O) wr := by
            rw [HO.out]
            refine run_convert_bytes_arg wr 22 5 Try.underlying22 Try.underlying5 B 0 _ _ _ (by rw [List.length_map, encB_len, hl]) ?_ 9 Try.underlying9
            intro i hi
            rw [Nat.zero_add, hown.cellAt i (by omega), cellsOf_get _ i (by rw [encB_len]; omega)]
            simp [List.getD_eq_getElem?_getD, List.getElem?_eq_getElem (show i < (encB s ds M 6).length by rw [encB_len]; omega)]
          go_wp2
          go_ret
          refine ⟨O, rfl, ?_, hb⟩
          rw [HO.out, sbytes_strOf _ (encB_lt _ _ _ _), HM.out]

end Go.Proofs.Qxb6603877a
