/-
  PLAIN MATHEMATICS of bech32's checksum (no Go in sight): the step of polymod over natural numbers, its linearity, its injectivity, what a burst of six does.
-/
namespace Go.Proofs.Qxb6603877a.Plain

/-- The generator's word number i. -/
def gen : Nat → Nat
  | 0 => 996825010
  | 1 => 642813549
  | 2 => 513874426
  | 3 => 1027748829
  | _ => 705979059

/-- The inner loop's value behind k rounds: x xored with those words whose bit of t is set. -/
def inner (x t : Nat) : Nat → Nat
  | 0 => x
  | k + 1 => if t / 2 ^ k % 2 = 1 then inner x t k ^^^ gen k else inner x t k

/-- One step of polymod. -/
def step (c v : Nat) : Nat := inner ((c % 33554432) * 32 ^^^ v) (c / 33554432) 5

/-- polymod from the state c on. -/
def run (c : Nat) (vs : List Nat) : Nat := vs.foldl step c

def poly (vs : List Nat) : Nat := run 1 vs

/-- The words of the generator that t selects. -/
def G (t : Nat) : Nat := inner 0 t 5

theorem inner_xor (x t k : Nat) : inner x t k = x ^^^ inner 0 t k := by
  induction k with
  | zero => simp [inner]
  | succ k ih =>
    unfold inner
    split
    · rw [ih, Nat.xor_assoc]
    · exact ih

theorem step_eq (c v : Nat) : step c v = ((c % 33554432) * 32 ^^^ v) ^^^ G (c / 33554432) := inner_xor _ _ _

theorem gen_lt (k : Nat) : gen k < 1073741824 := by
  unfold gen; split <;> omega

theorem xor_lt30 {a b : Nat} (ha : a < 1073741824) (hb : b < 1073741824) : a ^^^ b < 1073741824 :=
  Nat.xor_lt_two_pow (n := 30) ha hb

theorem inner_lt (x t k : Nat) (hx : x < 1073741824) : inner x t k < 1073741824 := by
  induction k with
  | zero => simpa [inner] using hx
  | succ k ih =>
    unfold inner
    split
    · exact xor_lt30 ih (gen_lt k)
    · exact ih

theorem step_lt (c v : Nat) (hv : v < 1073741824) : step c v < 1073741824 := by
  unfold step
  exact inner_lt _ _ _ (xor_lt30 (by omega) hv)

theorem run_lt (c : Nat) (vs : List Nat) (hc : c < 1073741824) (h : ∀ v ∈ vs, v < 1073741824) : run c vs < 1073741824 := by
  induction vs generalizing c with
  | nil => simpa [run] using hc
  | cons v vs ih =>
    show run (step c v) vs < _
    exact ih _ (step_lt c v (h v (by simp))) (fun x hx => h x (by simp [hx]))

theorem G_xor : ∀ a < 32, ∀ b < 32, G (a ^^^ b) = G a ^^^ G b := by decide +kernel
theorem G_low : ∀ a < 32, G a % 32 = 0 → a = 0 := by decide +kernel
theorem G_lt (t : Nat) : G t < 1073741824 := inner_lt 0 t 5 (by omega)
theorem G_zero : G 0 = 0 := by decide +kernel

theorem mul32 (a : Nat) : a * 32 = a <<< 5 := by rw [Nat.shiftLeft_eq]
theorem xor_mul32 (a b : Nat) : (a ^^^ b) * 32 = a * 32 ^^^ b * 32 := by
  rw [mul32, mul32, mul32, Nat.shiftLeft_xor_distrib]
theorem xor_div25 (a b : Nat) : (a ^^^ b) / 33554432 = a / 33554432 ^^^ b / 33554432 := by
  have h : ∀ x : Nat, x / 33554432 = x >>> 25 := fun x => by rw [Nat.shiftRight_eq_div_pow]
  rw [h, h, h, Nat.shiftRight_xor_distrib]
theorem xor_mod25 (a b : Nat) : (a ^^^ b) % 33554432 = a % 33554432 ^^^ b % 33554432 := Nat.xor_mod_two_pow (n := 25)
theorem xor_mod5 (a b : Nat) : (a ^^^ b) % 32 = a % 32 ^^^ b % 32 := Nat.xor_mod_two_pow (n := 5)

/-- The step is linear over xor. -/
theorem step_xor (c d v u : Nat) (hc : c < 1073741824) (hd : d < 1073741824) : step (c ^^^ d) (v ^^^ u) = step c v ^^^ step d u := by
  rw [step_eq, step_eq, step_eq, xor_div25, xor_mod25, xor_mul32, G_xor _ (by omega) _ (by omega)]
  ac_rfl

/-- With nothing coming in, only nought goes to nought. -/
theorem step_zero (c : Nat) (hc : c < 1073741824) (h : step c 0 = 0) : c = 0 := by
  rw [step_eq, Nat.xor_zero] at h
  have h5 : (c % 33554432 * 32 ^^^ G (c / 33554432)) % 32 = 0 := by rw [h]
  rw [xor_mod5, Nat.mul_mod_left, Nat.zero_xor] at h5
  have ht := G_low (c / 33554432) (by omega) h5
  rw [ht, G_zero, Nat.xor_zero] at h
  omega

theorem xor_div5 (a b : Nat) : (a ^^^ b) / 32 = a / 32 ^^^ b / 32 := by
  have h : ∀ x : Nat, x / 32 = x >>> 5 := fun x => by rw [Nat.shiftRight_eq_div_pow]
  rw [h, h, h, Nat.shiftRight_xor_distrib]

/-- Digits of 32: xor goes digit by digit. -/
theorem xor_digit (a b x y : Nat) (hx : x < 32) (hy : y < 32) : (a * 32 + x) ^^^ (b * 32 + y) = (a ^^^ b) * 32 + (x ^^^ y) := by
  have h1 := xor_div5 (a * 32 + x) (b * 32 + y)
  have h2 := xor_mod5 (a * 32 + x) (b * 32 + y)
  rw [show (a * 32 + x) / 32 = a by omega, show (b * 32 + y) / 32 = b by omega] at h1
  rw [show (a * 32 + x) % 32 = x by omega, show (b * 32 + y) % 32 = y by omega] at h2
  have hxy : x ^^^ y < 32 := Nat.xor_lt_two_pow (n := 5) hx hy
  omega

theorem xor_low (c v : Nat) (hv : v < 32) : c * 32 ^^^ v = c * 32 + v := by
  have := xor_digit c 0 0 v (by omega) hv
  simpa using this

/-- A state below 2^25 is only shifted. -/
theorem step_small (c v : Nat) (hc : c < 33554432) (hv : v < 32) : step c v = c * 32 + v := by
  rw [step_eq, Nat.div_eq_of_lt hc, Nat.mod_eq_of_lt hc, G_zero, Nat.xor_zero, xor_low c v hv]

theorem run_append (c : Nat) (u v : List Nat) : run c (u ++ v) = run (run c u) v := by
  unfold run; rw [List.foldl_append]
theorem run_cons (c v : Nat) (vs : List Nat) : run c (v :: vs) = run (step c v) vs := rfl
theorem run_nil (c : Nat) : run c [] = c := rfl

/-- Linear over whole lists. -/
theorem run_xor (us vs : List Nat) (h : us.length = vs.length) (hu : ∀ v ∈ us, v < 1073741824) (hv : ∀ v ∈ vs, v < 1073741824) :
    ∀ (c d : Nat), c < 1073741824 → d < 1073741824 → run (c ^^^ d) (List.zipWith (· ^^^ ·) us vs) = run c us ^^^ run d vs := by
  induction us generalizing vs with
  | nil =>
    intro c d _ _
    have : vs = [] := List.eq_nil_of_length_eq_zero (by simpa using h.symm)
    subst this
    rfl
  | cons u us ih =>
    intro c d hc hd
    match vs, h with
    | v :: vs, h =>
      simp only [List.zipWith_cons_cons, run_cons]
      rw [step_xor c d u v hc hd]
      exact ih vs (by simpa using h) (fun x hx => hu x (by simp [hx])) (fun x hx => hv x (by simp [hx])) _ _
        (step_lt _ _ (hu u (by simp))) (step_lt _ _ (hv v (by simp)))

theorem eq_of_xor {a b : Nat} (h : a ^^^ b = 0) : a = b := by
  have h2 : (a ^^^ b) ^^^ b = 0 ^^^ b := by rw [h]
  rwa [Nat.xor_assoc, Nat.xor_self, Nat.xor_zero, Nat.zero_xor] at h2

/-- From one difference of states on, with the same values coming in, the difference never dies. -/
theorem run_ne (vs : List Nat) (hv : ∀ v ∈ vs, v < 1073741824) : ∀ (c d : Nat), c < 1073741824 → d < 1073741824 → c ≠ d → run c vs ≠ run d vs := by
  induction vs with
  | nil => intro c d _ _ h; simpa [run] using h
  | cons v vs ih =>
    intro c d hc hd h
    rw [run_cons, run_cons]
    refine ih (fun x hx => hv x (by simp [hx])) _ _ (step_lt _ _ (hv v (by simp))) (step_lt _ _ (hv v (by simp))) ?_
    intro e
    have e2 : step (c ^^^ d) (v ^^^ v) = 0 := by rw [step_xor c d v v hc hd, e, Nat.xor_self]
    rw [Nat.xor_self] at e2
    have e3 := step_zero _ (xor_lt30 hc hd) e2
    exact h (eq_of_xor e3)

/-- The digits of 32, most significant first. -/
def digits (c : Nat) (ds : List Nat) : Nat := ds.foldl (fun c d => c * 32 + d) c

theorem digits_lt (ds : List Nat) (hd : ∀ d ∈ ds, d < 32) : ∀ c, digits c ds < (c + 1) * 32 ^ ds.length := by
  induction ds with
  | nil => intro c; simp [digits]
  | cons d ds ih =>
    intro c
    have h1 := ih (fun x hx => hd x (by simp [hx])) (c * 32 + d)
    have h2 := hd d (by simp)
    show digits (c * 32 + d) ds < _
    have h3 : (c * 32 + d + 1) * 32 ^ ds.length ≤ ((c + 1) * 32) * 32 ^ ds.length := Nat.mul_le_mul_right _ (by omega)
    rw [Nat.mul_assoc, ← Nat.pow_succ'] at h3
    exact Nat.lt_of_lt_of_le h1 h3

/-- Fewer than seven 5-bit values from nought on: nothing is reduced. -/
theorem run_digits (ds : List Nat) (hd : ∀ d ∈ ds, d < 32) : ∀ c, (c + 1) * 32 ^ ds.length ≤ 1073741824 → run c ds = digits c ds := by
  induction ds with
  | nil => intro c _; rfl
  | cons d ds ih =>
    intro c hc
    have h2 := hd d (by simp)
    simp only [List.length_cons, Nat.pow_succ'] at hc
    have hp : 1 ≤ 32 ^ ds.length := Nat.pow_pos (by omega)
    have hc2 : (c + 1) * 32 * 32 ^ ds.length ≤ 1073741824 := by rw [Nat.mul_assoc]; exact hc
    have h3 : (c * 32 + d + 1) * 32 ^ ds.length ≤ 1073741824 := Nat.le_trans (Nat.mul_le_mul_right _ (by omega)) hc2
    have h4 : (c + 1) * 32 ≤ 1073741824 := Nat.le_trans (Nat.le_mul_of_pos_right _ hp) hc2
    rw [run_cons, step_small c d (by omega) h2]
    exact ih (fun x hx => hd x (by simp [hx])) _ h3

theorem digits_zero (ds : List Nat) : ∀ c, digits c ds = 0 → c = 0 ∧ ∀ d ∈ ds, d = 0 := by
  induction ds with
  | nil => intro c h; exact ⟨h, by simp⟩
  | cons d ds ih =>
    intro c h
    obtain ⟨h1, h2⟩ := ih (c * 32 + d) h
    refine ⟨by omega, ?_⟩
    intro x hx
    rcases List.mem_cons.1 hx with rfl | hx
    · omega
    · exact h2 x hx

/-- A burst: equal states, two different lists of at most six 5-bit values: the states behind differ. -/
theorem burst (c : Nat) (us vs : List Nat) (hc : c < 1073741824) (h : us.length = vs.length) (h6 : us.length ≤ 6) (hu : ∀ v ∈ us, v < 32) (hv : ∀ v ∈ vs, v < 32) (hne : us ≠ vs) : run c us ≠ run c vs := by
  intro e
  have hx := run_xor us vs h (fun v hh => by have := hu v hh; omega) (fun v hh => by have := hv v hh; omega) c c hc hc
  rw [e, Nat.xor_self, Nat.xor_self] at hx
  have hz : ∀ d ∈ List.zipWith (· ^^^ ·) us vs, d < 32 := by
    intro d hd
    obtain ⟨i, hi, rfl⟩ := List.getElem_of_mem hd
    simp only [List.getElem_zipWith]
    exact Nat.xor_lt_two_pow (n := 5) (hu _ (List.getElem_mem _)) (hv _ (List.getElem_mem _))
  have hl : (List.zipWith (· ^^^ ·) us vs).length ≤ 6 := by simp; omega
  have hp : (0 + 1) * 32 ^ (List.zipWith (· ^^^ ·) us vs).length ≤ 1073741824 := by
    have := Nat.pow_le_pow_right (n := 32) (by omega) hl
    simpa using this
  rw [run_digits _ hz 0 hp] at hx
  have h0 := (digits_zero _ _ hx).2
  apply hne
  apply List.ext_getElem h
  intro i h1 h2
  have hm : (us[i] ^^^ vs[i]) ∈ List.zipWith (· ^^^ ·) us vs := by
    have := List.getElem_mem (l := List.zipWith (· ^^^ ·) us vs) (n := i) (by simp; omega)
    simpa using this
  exact eq_of_xor (h0 _ hm)

/-- THE LAW of FnPolymodDetectsEveryBurstOfSix, on lists. -/
theorem poly_burst (pre us vs post : List Nat) (hp : ∀ v ∈ pre, v < 32) (hq : ∀ v ∈ post, v < 32) (h : us.length = vs.length) (h6 : us.length ≤ 6) (hu : ∀ v ∈ us, v < 32) (hv : ∀ v ∈ vs, v < 32) (hne : us ≠ vs) :
    poly (pre ++ us ++ post) ≠ poly (pre ++ vs ++ post) := by
  have big : ∀ l : List Nat, (∀ v ∈ l, v < 32) → ∀ v ∈ l, v < 1073741824 := fun l hl v hh => by have := hl v hh; omega
  unfold poly
  rw [run_append, run_append, run_append, run_append]
  have h1 := run_lt 1 pre (by omega) (big _ hp)
  exact run_ne post (big _ hq) _ _ (run_lt _ _ h1 (big _ hu)) (run_lt _ _ h1 (big _ hv)) (burst _ us vs h1 h h6 hu hv hne)

/-- THE CHECKSUM: six values read off 'poly (vs ++ 000000) xor m' make the remainder m. -/
theorem run_tail (c : Nat) (ds : List Nat) (hc : c < 1073741824) (h6 : ds.length ≤ 6) (hd : ∀ d ∈ ds, d < 32) : run c ds = run c (List.replicate ds.length 0) ^^^ digits 0 ds := by
  have hx := run_xor (List.replicate ds.length 0) ds (by simp) (fun v hh => by rw [List.eq_of_mem_replicate hh]; omega) (fun v hh => by have := hd v hh; omega) c 0 hc (by omega)
  have hz : List.zipWith (· ^^^ ·) (List.replicate ds.length 0) ds = ds := by
    apply List.ext_getElem (by simp)
    intro i h1 h2
    simp
  rw [hz, Nat.xor_zero] at hx
  have hp : (0 + 1) * 32 ^ ds.length ≤ 1073741824 := by
    have := Nat.pow_le_pow_right (n := 32) (by omega) h6
    simpa using this
  rw [run_digits ds hd 0 hp] at hx
  exact hx

end Go.Proofs.Qxb6603877a.Plain
