/-
  THE WALKS OF regroup (21), ZZregroup (12).
-/
import Derived.Test.Qxb6603877aBits
import Derived.Test.Qxb6603877aClone
namespace Go.Proofs.Qxb6603877a
open Go.RowKit

/-- The mask 1<<t - 1 as the walk leaves it. -/
theorem mask_eq (t : Nat) (ht : t ≤ 8) : ((2 : Int) ^ t % 4294967296 - 1) % 4294967296 = ((2 ^ t - 1 : Nat) : Int) := by
  rcases (by omega : t = 0 ∨ t = 1 ∨ t = 2 ∨ t = 3 ∨ t = 4 ∨ t = 5 ∨ t = 6 ∨ t = 7 ∨ t = 8) with rfl | rfl | rfl | rfl | rfl | rfl | rfl | rfl | rfl <;> rfl

theorem pow_le256 (t : Nat) (ht : t ≤ 8) : 2 ^ t ≤ 256 := Nat.pow_le_pow_right (n := 2) (j := 8) (by omega) ht

theorem u32_and_mask (x t : Nat) (hx : x < 4294967296) (ht : t ≤ 8) : bits BinOp.and IntKind.u32 (x : Int) ((2 ^ t - 1 : Nat) : Int) = ((x % 2 ^ t : Nat) : Int) := by
  have := pow_le256 t ht
  rw [u32_and_nat x _ hx (by omega), Nat.and_two_pow_sub_one_eq_mod]

theorem or_low (x f z : Nat) (hf : f ≤ 8) (hz : z < 2 ^ f) : bits BinOp.or IntKind.u32 ((x : Int) * 2 ^ f % 4294967296) (z : Int) = ((x * 2 ^ f % 4294967296 + z : Nat) : Int) := by
  have h2 := pow_le256 f hf
  have e : (x : Int) * 2 ^ f % 4294967296 = ((x * 2 ^ f % 4294967296 : Nat) : Int) := by
    rw [Int.natCast_emod, Int.natCast_mul, Int.natCast_pow]; rfl
  rw [e, u32_or_nat _ _ (by omega) (by omega)]
  congr 1
  have hd : 2 ^ f ∣ 4294967296 := by
    rw [show (4294967296 : Nat) = 2 ^ 32 from rfl]
    exact Nat.pow_dvd_pow 2 (by omega)
  refine nat_join f _ _ ?_ hz
  rw [Nat.mod_mod_of_dvd _ hd, Nat.mul_mod_left]

theorem acc_lt (x f z : Nat) (hf : f ≤ 8) (hz : z < 2 ^ f) : x * 2 ^ f % 4294967296 + z < 4294967296 := by
  have h2 := pow_le256 f hf
  have hd : 2 ^ f ∣ 4294967296 := by
    rw [show (4294967296 : Nat) = 2 ^ 32 from rfl]
    exact Nat.pow_dvd_pow 2 (by omega)
  have hj : x * 2 ^ f % 4294967296 ||| z = x * 2 ^ f % 4294967296 + z := nat_join f _ _ (by rw [Nat.mod_mod_of_dvd _ hd, Nat.mul_mod_left]) hz
  rw [← hj]
  exact Nat.or_lt_two_pow (n := 32) (by omega) (by omega)

theorem cut_val (g : Nat → Nat) (hg : ∀ i, g i < 2) (acc b t p M : Nat) (ht : t ≤ 8) (hacc : acc < 4294967296) (hM : M = 2 ^ t - 1) (h : acc % 2 ^ (t + b) = Plain.num g p (t + b)) :
    bits BinOp.and IntKind.u32 ((acc : Int) / 2 ^ b) (M : Int) % 256 = ((Plain.num g p t : Nat) : Int) := by
  have e : ((acc : Int) / 2 ^ b) = ((acc / 2 ^ b : Nat) : Int) := by simp
  have h1 := (Plain.acc_out g hg acc b t p h).1
  have h2 := Plain.num_lt g hg p t
  have h3 := pow_le256 t ht
  rw [e, hM, u32_and_mask _ t (Nat.lt_of_le_of_lt (Nat.div_le_self _ _) hacc) ht, h1]
  omega

theorem last_val (g : Nat → Nat) (hg : ∀ i, g i < 2) (acc b c p M : Nat) (ht : b + c ≤ 8) (hM : M = 2 ^ (b + c) - 1) (h : acc % 2 ^ b = Plain.num g p b) (hz : ∀ i, p + b ≤ i → g i = 0) :
    bits BinOp.and IntKind.u32 ((acc : Int) * 2 ^ c % 4294967296) (M : Int) % 256 = ((Plain.num g p (b + c) : Nat) : Int) := by
  have e : (acc : Int) * 2 ^ c % 4294967296 = ((acc * 2 ^ c % 4294967296 : Nat) : Int) := by
    rw [Int.natCast_emod, Int.natCast_mul, Int.natCast_pow]; rfl
  have h1 := Plain.acc_last g acc b c p (by omega) h hz
  have h2 := Plain.num_lt g hg p (b + c)
  have h3 := pow_le256 (b + c) ht
  rw [e, hM, u32_and_mask _ (b + c) (by omega) ht, h1]
  omega

theorem cellsOf_snoc (zs : List Nat) (z : Nat) : cellsOf zs ++ [.int .u8 (z : Int)] = cellsOf (zs ++ [z]) := by simp [cellsOf]

set_option maxHeartbeats 400000 in
theorem regroup_any (a : Option Addr) (len cap f t : Nat) (zs : List Nat) (w : World) (hB : Bytes w a len zs) (hm : len ≤ 10000000) (hf : f ≤ 8) (ht : t ≤ 8) (ht0 : 1 ≤ t) (hz : ∀ i, i < len → zs.getD i 0 < 2 ^ f) :
    Calls Try.prog 21 #[.slice a len cap, .int .u64 f, .int .u64 t] w fun e w' => ∃ g, e = .returned (.slice (some ⟨g, 0, none⟩) (Plain.groups len f t) (Plain.groups len f t)) ∧
      Bytes w' (some ⟨g, 0, none⟩) (Plain.groups len f t) (Plain.outs (Plain.sbit zs f) t (Plain.groups len f t)) ∧ Below w.heap.size w w' := by
  obtain ⟨i0, hi, hz0, hz1, hz2⟩ := info_parts Try.info5
  have hl := hB.1
  obtain ⟨T, HT⟩ : ∃ T, Hid (T = len * f) := ⟨_, rfl⟩
  have hT : T ≤ 80000000 := by
    rw [HT.out]
    have := Nat.mul_le_mul hm hf
    omega
  have hmul : IntKind.u64.wrap ((len : Int) * (f : Int)) = (T : Int) := by
    rw [HT.out, ← Int.natCast_mul]
    exact IntWalk.u64_in _ ⟨by omega, by have := HT.out; omega⟩
  obtain ⟨m, Hm⟩ : ∃ m, Hid (m = Plain.groups len f t) := ⟨_, rfl⟩
  have hm8 : m ≤ 80000008 := by
    have h1 := Plain.groups_low len f t (by omega)
    have h2 := Nat.le_mul_of_pos_right (Plain.groups len f t) (show 0 < t by omega)
    rw [← Hm.out, ← HT.out] at h1
    rw [← Hm.out] at h2
    omega
  have HmC : Hid (((T : Int) + (t : Int) - 1) / (t : Int) = (m : Int)) := by
    show _ = _
    rw [Hm.out, Plain.groups, ← HT.out, show (T : Int) + (t : Int) - 1 = ((T + t - 1 : Nat) : Int) by omega, Int.natCast_ediv]
  obtain ⟨M, HM⟩ : ∃ M : Nat, Hid (M = 2 ^ t - 1) := ⟨2 ^ t - 1, rfl⟩
  have hmask : ((2 : Int) ^ t % 4294967296 - 1) % 4294967296 = (M : Int) := by rw [mask_eq t ht, HM.out]
  go_enter Try.func21, Try.ntmps21
  go_wp2_with (at_make; refine wpList_make_own _ rfl _ _ 22 rfl w.heap.size 5 i0 (.int .u8 0) 1 Try.underlying22 hi hz0 hz1 _ _ _ m rfl rfl ?hC ?b2 ?b3 (Nat.le_refl _) ?_)
  case hC => exact HmC.out
  case b2 => rw [hz2]; omega
  case b3 => unfold maxLen; omega
  intro w0 hown0 hgrow0
  have hb0 : Below w.heap.size w w0 := (Below.refl _ _).grown hgrow0 (Nat.le_refl _) (fun k h => by cases h)
  clear hgrow0 hmul HmC
  go_wp2
  rw [hmask]
  clear hmask
  obtain ⟨g, HG⟩ : ∃ g, Hid (g = Plain.sbit zs f) := ⟨_, rfl⟩
  have hg : Hid (∀ i, g i < 2) := by
    show ∀ i, g i < 2
    rw [HG.out]; exact Plain.sbit_lt zs f
  go_loopw [7, 9, 10, 29] (fun so sa sb si wr => ∃ k q b acc : Nat, k ≤ len ∧ b < t ∧ acc < 4294967296 ∧ q ≤ m ∧ Hid (q * t + b = k * f) ∧ Hid (acc % 2 ^ b = Plain.num g (q * t) b) ∧
      so = .slice (some ⟨w.heap.size, 0, none⟩) q m ∧ sa = .int .u32 (acc : Int) ∧ sb = .int .u64 (b : Int) ∧ si = .int .i64 (k : Int) ∧
      wr.ownsRow w.heap.size 5 1 (.slice (some ⟨w.heap.size, 0, none⟩) q m) q (cellsOf (Plain.outs g t q)) ∧ Below w.heap.size w wr) (fun _ _ _ i _ => len - (intOf i).toNat)
  case atStart => exact ⟨0, 0, 0, 0, Nat.zero_le _, ht0, by omega, Nat.zero_le _, by show _ = _; omega, rfl, rfl, rfl, rfl, rfl, hown0, hb0⟩
  case round =>
    obtain ⟨k, q, b, acc, hk, hbt, hacc, hqm, HQ, HA, rfl, rfl, rfl, rfl, hown, hb⟩ := hrel
    clear hown0 hb0
    by_cases hlt : k < len
    · obtain ⟨z, HZ⟩ : ∃ z, Hid (z = zs.getD k 0) := ⟨_, rfl⟩
      have hz8 : z < 256 := by rw [HZ.out]; exact hB.lt k
      obtain ⟨bb, oo, rfl, _, hcW⟩ := (hB.below hb).2.2 (by omega)
      have hcell : wr.cell? ⟨bb, oo + k, none⟩ = some (.int .u8 (z : Int)) := by rw [HZ.out]; exact hcW k hlt
      obtain ⟨acc', HA'⟩ : ∃ x, Hid (x = acc * 2 ^ f % 4294967296 + z) := ⟨_, rfl⟩
      have hor : bits BinOp.or IntKind.u32 ((acc : Int) * 2 ^ f % 4294967296) (z : Int) = (acc' : Int) := by
        rw [HA'.out]; exact or_low acc f z hf (by rw [HZ.out]; exact hz k hlt)
      have hzf : z < 2 ^ f := by rw [HZ.out]; exact hz k hlt
      have hacc' : acc' < 4294967296 := by rw [HA'.out]; exact acc_lt acc f z hf hzf
      have HA2 : Hid (acc' % 2 ^ (b + f) = Plain.num g (q * t) (b + f)) := by
        show _ = _
        rw [HA'.out]
        refine Plain.acc_in g hg.out acc b f z (q * t) (by omega) HA.out ?_
        rw [HQ.out, HG.out, Plain.num_elem zs f k (by omega) (hz k hlt), HZ.out]
      have HQ2 : Hid (q * t + (b + f) = (k + 1) * f) := by
        show _ = _
        rw [Nat.add_mul, ← HQ.out]; omega
      clear hzf
      clear hcW HA' HA HQ
      obtain ⟨w1, rfl⟩ : ∃ w1 : World, w1 = wr := ⟨_, rfl⟩
      go_wp2
      clear hor
      go_loopw [7, 10] (fun so sb wr => ∃ q b : Nat, b < 16 ∧ q ≤ m ∧ Hid (q * t + b = (k + 1) * f) ∧ Hid (acc' % 2 ^ b = Plain.num g (q * t) b) ∧
        so = .slice (some ⟨w.heap.size, 0, none⟩) q m ∧ sb = .int .u64 (b : Int) ∧
        wr.ownsRow w.heap.size 5 1 (.slice (some ⟨w.heap.size, 0, none⟩) q m) q (cellsOf (Plain.outs g t q)) ∧ Below w.heap.size w wr) (fun _ b _ => (intOf b).toNat)
      case atStart => exact ⟨q, b + f, by omega, hqm, HQ2, HA2, rfl, rfl, hown, hb⟩
      case round =>
        clear hown hb HQ2 HA2 hqm hbt hcell
        obtain ⟨q, b, hb16, hqm, HQ, HA, rfl, rfl, hown, hb⟩ := hrel
        by_cases hge : t ≤ b
        · obtain ⟨b3, rfl⟩ : ∃ b3, b = t + b3 := ⟨b - t, by omega⟩
          have hroom : q + 1 ≤ m := by rw [Hm.out]; exact Plain.groups_room len f t q (t + b3) (k + 1) (by omega) (by omega) HQ.out (by omega)
          have HV : Hid (bits BinOp.and IntKind.u32 ((acc' : Int) / 2 ^ b3) (M : Int) % 256 = ((Plain.num g (q * t) t : Nat) : Int)) := cut_val g hg.out acc' b3 t (q * t) M ht hacc' HM.out HA.out
          go_wp2_with (at_builtin; refine wpList_append_fits _ rfl (.tmp 48) (.tmp 55) 22 rfl w.heap.size 5 i0 1 Try.underlying22 hi hz1 w.heap.size q m _ rfl (hown.alloc _) ⟨wr.heap.size, 0, none⟩ 1 1 [.int .u8 ((Plain.num g (q * t) t : Nat) : Int)] rfl rfl ?c1 ?c2 ?c3 ?_)
          case c1 => rw [HV.out]; exact cell_one_new _ _ _
          case c2 => intro u hu; simp at hu; subst hu; rfl
          case c3 => exact hroom
          intro w2 hown2 hgrow2
          go_wp2
          go_roundw
          case rel =>
            refine ⟨q + 1, b3, by omega, hroom, ?_, ?_, rfl, by go_num, ?_, (hb.alloc hb.size _).grown hgrow2 (by simp; have := hb.size; omega) (fun k hk => by cases hk; exact Nat.le_refl _)⟩
            · show _ = _
              rw [← HQ.out, Nat.add_mul]; omega
            · show _ = _
              rw [(Plain.acc_out g hg.out acc' b3 t (q * t) HA.out).2, Nat.add_mul, Nat.one_mul]
            · rw [Plain.outs_succ, ← cellsOf_snoc]; exact hown2
          case measure => simp [intOf]; omega
        · go_wp2
          go_roundw
          case rel => exact ⟨k + 1, q, b, acc', by omega, by omega, hacc', hqm, HQ, HA, rfl, rfl, rfl, by go_num, hown, hb⟩
          case measure => simp [intOf]; omega
    · obtain rfl : len = k := by omega
      clear hlt hk
      have hgr := Plain.groups_rest len f t q b (by omega) HQ.out hbt
      rw [← Hm.out] at hgr
      by_cases hb0 : b = 0
      · rw [if_pos hb0] at hgr
        subst hb0
        have HG2 := hgr
        clear hgr
        have HGR : Hid (m = q) := HG2
        clear HG2
        go_wp2
        go_ret
        have hby := Bytes.ofOwn hown (fun z hz => by have := Plain.outs_lt g hg.out t q z hz; have := pow_le256 t ht; omega)
        refine ⟨w.heap.size, ?_, ?_, hb⟩
        · show Ending.returned (Value.slice (some ⟨w.heap.size, 0, none⟩) q m) = _
          rw [← Hm.out, HGR.out]
        · rw [← Hm.out, HGR.out, ← HG.out]; exact hby
      · rw [if_neg hb0] at hgr
        have HGR : Hid (m = q + 1) := hgr
        clear hgr
        have hroom : q + 1 ≤ m := by rw [HGR.out]; exact Nat.le_refl _
        obtain ⟨c, rfl⟩ : ∃ c, t = b + c := ⟨t - b, by omega⟩
        have HV : Hid (bits BinOp.and IntKind.u32 ((acc : Int) * 2 ^ c % 4294967296) (M : Int) % 256 = ((Plain.num g (q * (b + c)) (b + c) : Nat) : Int)) :=
          last_val g hg.out acc b c (q * (b + c)) M ht HM.out HA.out (fun i hi => by rw [HG.out]; exact Plain.sbit_end _ _ _ (by rw [hl, ← HQ.out]; exact hi))
        go_wp2_with (at_builtin; refine wpList_append_fits _ rfl (.tmp 60) (.tmp 69) 22 rfl w.heap.size 5 i0 1 Try.underlying22 hi hz1 w.heap.size q m _ rfl (hown.alloc _) ⟨wr.heap.size, 0, none⟩ 1 1 [.int .u8 ((Plain.num g (q * (b + c)) (b + c) : Nat) : Int)] rfl rfl ?d1 ?d2 ?d3 ?_)
        case d1 => rw [HV.out]; exact cell_one_new _ _ _
        case d2 => intro u hu; simp at hu; subst hu; rfl
        case d3 => exact hroom
        intro w2 hown2 hgrow2
        rw [cellsOf_snoc, ← Plain.outs_succ] at hown2
        go_wp2
        go_ret
        have hby := Bytes.ofOwn hown2 (fun z hz => by have := Plain.outs_lt g hg.out _ _ z hz; have := pow_le256 _ ht; omega)
        refine ⟨w.heap.size, ?_, ?_, (hb.alloc hb.size _).grown hgrow2 (by simp; have := hb.size; omega) (fun k hk => by cases hk; exact Nat.le_refl _)⟩
        · show Ending.returned (Value.slice (some ⟨w.heap.size, 0, none⟩) (q + 1) m) = _
          rw [← Hm.out, HGR.out]
        · rw [← Hm.out, HGR.out, ← HG.out]; exact hby

set_option maxHeartbeats 400000 in
theorem zzregroup_any (a : Option Addr) (len cap f t : Nat) (zs : List Nat) (w : World) (hB : Bytes w a len zs) (hm : len ≤ 10000000) (hf : f ≤ 8) (ht : t ≤ 8) (ht0 : 1 ≤ t) (hz : ∀ i, i < len → zs.getD i 0 < 2 ^ f) :
    Calls Try.prog 12 #[.slice a len cap, .int .u64 f, .int .u64 t] w fun e w' => ∃ g, e = .returned (.slice (some ⟨g, 0, none⟩) (Plain.groups len f t) (Plain.groups len f t)) ∧
      Bytes w' (some ⟨g, 0, none⟩) (Plain.groups len f t) (Plain.outs (Plain.sbit zs f) t (Plain.groups len f t)) ∧ Below w.heap.size w w' := by
  go_enter Try.func12, Try.ntmps12
  go_wp2_with (go_at_call 21; refine (regroup_any a len cap f t zs _ hB hm hf ht ht0 hz).mono ?_; rintro e w1 ⟨g, rfl, hby, hb1⟩)
  go_ret
  exact ⟨_, rfl, by assumption, by assumption⟩

end Go.Proofs.Qxb6603877a
