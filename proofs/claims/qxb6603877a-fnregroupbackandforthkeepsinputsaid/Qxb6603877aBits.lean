/-
  PLAIN MATHEMATICS of regroup (no Go in sight): a stream of bits, read in groups.
-/
namespace Go.Proofs.Qxb6603877a.Plain

/-- The number that the bits g p, g (p + 1), .. of a stream make, l of them, most significant first. -/
def num (g : Nat → Nat) (p : Nat) : Nat → Nat
  | 0 => 0
  | l + 1 => num g p l * 2 + g (p + l)

/-- Bit p of the stream that the f-bit elements of zs make; nought past its end. -/
def sbit (zs : List Nat) (f p : Nat) : Nat := if p < zs.length * f then zs.getD (p / f) 0 / 2 ^ (f - 1 - p % f) % 2 else 0

/-- The first q groups of t bits. -/
def outs (g : Nat → Nat) (t q : Nat) : List Nat := (List.range q).map fun k => num g (k * t) t

/-- How many groups of t bits n elements of f bits fill. -/
def groups (n f t : Nat) : Nat := (n * f + t - 1) / t

theorem sbit_lt (zs : List Nat) (f p : Nat) : sbit zs f p < 2 := by
  unfold sbit; split <;> omega

theorem num_add (g : Nat → Nat) (p a b : Nat) : num g p (a + b) = num g p a * 2 ^ b + num g (p + a) b := by
  induction b with
  | zero => simp [num]
  | succ b ih =>
    show num g p (a + b) * 2 + g (p + (a + b)) = _
    rw [ih]
    simp only [num]
    rw [Nat.pow_succ, Nat.add_mul, Nat.mul_assoc, Nat.add_assoc, Nat.add_assoc p a b]

theorem num_lt (g : Nat → Nat) (hg : ∀ i, g i < 2) (p l : Nat) : num g p l < 2 ^ l := by
  induction l with
  | zero => simp [num]
  | succ l ih =>
    have := hg (p + l)
    simp only [num, Nat.pow_succ]
    omega

theorem num_zero (g : Nat → Nat) (p l : Nat) (h : ∀ i, p ≤ i → g i = 0) : num g p l = 0 := by
  induction l with
  | zero => rfl
  | succ l ih => simp only [num]; rw [ih, h _ (by omega)]

/-- The first a bits out of a + b. -/
theorem num_div (g : Nat → Nat) (hg : ∀ i, g i < 2) (p a b : Nat) : num g p (a + b) / 2 ^ b = num g p a := by
  rw [num_add, Nat.mul_comm, Nat.mul_add_div (Nat.two_pow_pos b), Nat.div_eq_of_lt (num_lt g hg _ _)]
  omega
theorem num_mod (g : Nat → Nat) (hg : ∀ i, g i < 2) (p a b : Nat) : num g p (a + b) % 2 ^ b = num g (p + a) b := by
  rw [num_add, Nat.mul_comm, Nat.mul_add_mod, Nat.mod_eq_of_lt (num_lt g hg _ _)]

/-- One bit out of a number. -/
theorem num_bit (g : Nat → Nat) (hg : ∀ i, g i < 2) (p l r : Nat) (h : r < l) : num g p l / 2 ^ (l - 1 - r) % 2 = g (p + r) := by
  have e : l = (r + 1) + (l - 1 - r) := by omega
  have := num_div g hg p (r + 1) (l - 1 - r)
  rw [← e] at this
  rw [this]
  have := hg (p + r)
  simp only [num]
  omega

theorem at_group (k f l : Nat) (h : l < f) : (k * f + l) / f = k ∧ (k * f + l) % f = l := by
  constructor
  · rw [Nat.mul_comm, Nat.mul_add_div (by omega), Nat.div_eq_of_lt h]; omega
  · rw [Nat.mul_comm, Nat.mul_add_mod, Nat.mod_eq_of_lt h]

theorem in_group (k n f l : Nat) (hk : k < n) (h : l < f) : k * f + l < n * f := by
  have := Nat.mul_le_mul_right f (show k + 1 ≤ n by omega)
  rw [Nat.add_mul] at this
  omega

/-- An element's own bits make the element. -/
theorem num_elem (zs : List Nat) (f k : Nat) (hk : k < zs.length) (hz : zs.getD k 0 < 2 ^ f) : num (sbit zs f) (k * f) f = zs.getD k 0 := by
  have key : ∀ l, l ≤ f → num (sbit zs f) (k * f) l = zs.getD k 0 / 2 ^ (f - l) := by
    intro l
    induction l with
    | zero => intro _; simp only [num, Nat.sub_zero]; rw [Nat.div_eq_of_lt hz]
    | succ l ih =>
      intro hl
      have hb : sbit zs f (k * f + l) = zs.getD k 0 / 2 ^ (f - (l + 1)) % 2 := by
        unfold sbit
        rw [if_pos (in_group k _ f l hk (by omega)), (at_group k f l (by omega)).1, (at_group k f l (by omega)).2, show f - 1 - l = f - (l + 1) by omega]
      simp only [num]
      rw [ih (by omega), hb, show f - l = (f - (l + 1)) + 1 by omega, Nat.pow_succ, ← Nat.div_div_eq_div_mul]
      omega
  rw [key f (Nat.le_refl _), Nat.sub_self]
  simp

theorem outs_succ (g : Nat → Nat) (t q : Nat) : outs g t (q + 1) = outs g t q ++ [num g (q * t) t] := by
  simp [outs, List.range_succ]
theorem outs_len (g : Nat → Nat) (t q : Nat) : (outs g t q).length = q := by simp [outs]
theorem outs_get (g : Nat → Nat) (t q k : Nat) (h : k < q) : (outs g t q).getD k 0 = num g (k * t) t := by
  simp [outs, h]
theorem outs_lt (g : Nat → Nat) (hg : ∀ i, g i < 2) (t q : Nat) : ∀ z ∈ outs g t q, z < 2 ^ t := by
  intro z hz
  obtain ⟨k, _, rfl⟩ := List.mem_map.1 hz
  exact num_lt g hg _ _

theorem sbit_end (zs : List Nat) (f p : Nat) (h : zs.length * f ≤ p) : sbit zs f p = 0 := by
  unfold sbit; rw [if_neg (by omega)]

theorem groups_up (n f t : Nat) (ht : 0 < t) : n * f ≤ groups n f t * t := by
  unfold groups
  have h1 := Nat.div_add_mod (n * f + t - 1) t
  have h2 := Nat.mod_lt (n * f + t - 1) ht
  rw [Nat.mul_comm] at h1
  omega
theorem groups_low (n f t : Nat) (ht : 0 < t) : groups n f t * t < n * f + t := by
  unfold groups
  have h1 := Nat.div_mul_le_self (n * f + t - 1) t
  omega

/-- Groups of groups: the bits stay. -/
theorem sbit_outs (zs : List Nat) (f t p : Nat) (ht : 0 < t) : sbit (outs (sbit zs f) t (groups zs.length f t)) t p = sbit zs f p := by
  by_cases hp : p < groups zs.length f t * t
  · have hq : p / t < groups zs.length f t := (Nat.div_lt_iff_lt_mul ht).2 hp
    have hr := Nat.mod_lt p ht
    rw [sbit, outs_len, if_pos hp, outs_get _ _ _ _ hq, num_bit _ (sbit_lt zs f) _ _ _ hr]
    congr 1
    have := Nat.div_add_mod p t
    rw [Nat.mul_comm] at this
    exact this
  · have := groups_up zs.length f t ht
    rw [sbit_end _ _ _ (by rw [outs_len]; omega), sbit_end _ _ _ (by omega)]

theorem num_congr {g h : Nat → Nat} (e : ∀ i, g i = h i) (p l : Nat) : num g p l = num h p l := by
  have : g = h := funext e
  rw [this]

/-- THE LAW of FnRegroupBackAndForthKeepsInput: what regrouping back and forth gives at each place. -/
theorem back_in (zs : List Nat) (f t m2 i : Nat) (ht : 0 < t) (hi : i < zs.length) (h2 : i < m2) (hz : zs.getD i 0 < 2 ^ f) :
    (outs (sbit (outs (sbit zs f) t (groups zs.length f t)) t) f m2).getD i 0 = zs.getD i 0 := by
  rw [outs_get _ _ _ _ h2, num_congr (fun p => sbit_outs zs f t p ht), num_elem zs f i hi hz]
theorem back_out (zs : List Nat) (f t m2 i : Nat) (ht : 0 < t) (hi : zs.length ≤ i) (h2 : i < m2) :
    (outs (sbit (outs (sbit zs f) t (groups zs.length f t)) t) f m2).getD i 0 = 0 := by
  rw [outs_get _ _ _ _ h2, num_congr (fun p => sbit_outs zs f t p ht)]
  refine num_zero _ _ _ fun p hp => sbit_end _ _ _ ?_
  have := Nat.mul_le_mul_right f hi
  omega
theorem back_len (n f t : Nat) (ht : 0 < t) (hf : 0 < f) : n ≤ groups (groups n f t) t f ∧ (groups (groups n f t) t f - n) * f < f + t := by
  have h1 := groups_up n f t ht
  have h2 := groups_low n f t ht
  have h3 := groups_up (groups n f t) t f hf
  have h4 := groups_low (groups n f t) t f hf
  have h5 : n * f ≤ groups (groups n f t) t f * f := by omega
  refine ⟨Nat.le_of_mul_le_mul_right h5 hf, ?_⟩
  rw [Nat.sub_mul]
  omega

/-! ### The steps of regroup's two loops -/
/-- acc << f | v, cut to 32 bits: the low b + f bits. -/
theorem acc_in (g : Nat → Nat) (hg : ∀ i, g i < 2) (acc b f v p : Nat) (hb : b + f ≤ 32) (h : acc % 2 ^ b = num g p b) (hv : num g (p + b) f = v) : (acc * 2 ^ f % 4294967296 + v) % 2 ^ (b + f) = num g p (b + f) := by
  have e1 : (acc * 2 ^ f % 4294967296 + v) % 2 ^ (b + f) = (acc * 2 ^ f + v) % 2 ^ (b + f) := by
    have hd : 2 ^ (b + f) ∣ 4294967296 := by
      rw [show (4294967296 : Nat) = 2 ^ 32 from rfl]
      exact Nat.pow_dvd_pow 2 hb
    rw [Nat.add_mod, Nat.mod_mod_of_dvd _ hd, ← Nat.add_mod]
  have e2 : acc * 2 ^ f + v = 2 ^ (b + f) * (acc / 2 ^ b) + ((acc % 2 ^ b) * 2 ^ f + v) := by
    have := Nat.div_add_mod acc (2 ^ b)
    rw [Nat.pow_add, Nat.mul_right_comm, ← Nat.add_assoc, ← Nat.add_mul, this]
  have e3 : num g p b * 2 ^ f + v = num g p (b + f) := by rw [num_add, hv]
  rw [e1, e2, Nat.mul_add_mod, h, e3]
  exact Nat.mod_eq_of_lt (num_lt g hg _ _)

/-- The group that is cut off the front. -/
theorem acc_out (g : Nat → Nat) (hg : ∀ i, g i < 2) (acc b t p : Nat) (h : acc % 2 ^ (t + b) = num g p (t + b)) : acc / 2 ^ b % 2 ^ t = num g p t ∧ acc % 2 ^ b = num g (p + t) b := by
  constructor
  · rw [← num_div g hg p t b, ← h, Nat.add_comm t b, Nat.pow_add, Nat.mod_mul_right_div_self]
  · rw [← num_mod g hg p t b, ← h, Nat.mod_mod_of_dvd]
    exact Nat.pow_dvd_pow 2 (by omega)

/-- What is left over, with noughts behind it. -/
theorem acc_last (g : Nat → Nat) (acc b c p : Nat) (hc : b + c ≤ 32) (h : acc % 2 ^ b = num g p b) (hz : ∀ i, p + b ≤ i → g i = 0) : acc * 2 ^ c % 4294967296 % 2 ^ (b + c) = num g p (b + c) := by
  have hd : 2 ^ (b + c) ∣ 4294967296 := by
    rw [show (4294967296 : Nat) = 2 ^ 32 from rfl]
    exact Nat.pow_dvd_pow 2 hc
  rw [Nat.mod_mod_of_dvd _ hd, Nat.pow_add, Nat.mul_mod_mul_right, h, num_add, num_zero g (p + b) c hz]
  omega

/-- How many groups: q full ones and a rest. -/
theorem groups_rest (n f t q b : Nat) (ht : 0 < t) (e : q * t + b = n * f) (hb : b < t) : groups n f t = if b = 0 then q else q + 1 := by
  unfold groups
  rw [← e]
  split
  · next h => subst h; rw [show q * t + 0 + t - 1 = t * q + (t - 1) by rw [Nat.mul_comm]; omega, Nat.mul_add_div ht, Nat.div_eq_of_lt (by omega)]; omega
  · next h => rw [show q * t + b + t - 1 = t * (q + 1) + (b - 1) by rw [Nat.mul_add, Nat.mul_comm]; omega, Nat.mul_add_div ht, Nat.div_eq_of_lt (by omega)]

/-- While groups are cut off there is room. -/
theorem groups_room (n f t q b k : Nat) (ht : 0 < t) (hk : k ≤ n) (e : q * t + b = k * f) (hb : t ≤ b) : q + 1 ≤ groups n f t := by
  have h1 := groups_up n f t ht
  have h2 := Nat.mul_le_mul_right f hk
  have h3 : (q + 1) * t ≤ groups n f t * t := by rw [Nat.add_mul]; omega
  exact Nat.le_of_mul_le_mul_right h3 ht

end Go.Proofs.Qxb6603877a.Plain
