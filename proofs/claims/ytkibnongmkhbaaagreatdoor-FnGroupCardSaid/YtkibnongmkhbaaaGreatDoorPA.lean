/- Part of the proof that laws.FnGroup returns true for all 32 bytes p, q and x: plain number theory (the prime 2^255 - 19, square roots, the curve's group) and the plain law of Montgomery words.
   Conditions: those that each theorem states. -/


section
namespace Go.Proofs.YtkibnongmkhbaaaGreatDoor
namespace Ed

/-! number theory -/

def pw : Nat → Nat → Nat → Nat → Nat
  | 0, _, _, m => 1 % m
  | f + 1, a, e, m => if e % 2 = 1 then a * pw f (a * a % m) (e / 2) m % m else pw f (a * a % m) (e / 2) m

theorem pw_eq (f : Nat) : ∀ a e m : Nat, e < 2 ^ f → pw f a e m = a ^ e % m := by
  induction f with
  | zero =>
    intro a e m h
    have : e = 0 := by simpa using h
    subst this
    simp [pw]
  | succ f ih =>
    intro a e m h
    have h2 : e / 2 < 2 ^ f := by rw [Nat.pow_succ] at h; omega
    have hs : (a * a % m) ^ (e / 2) % m = a ^ (2 * (e / 2)) % m := by
      rw [← Nat.pow_mod, Nat.pow_mul, Nat.pow_two]
    unfold pw
    rw [ih _ _ _ h2, hs]
    split
    · rename_i ho
      have he : e = 2 * (e / 2) + 1 := by omega
      conv => rhs; rw [he, Nat.pow_succ, Nat.mul_comm]
      simp
    · rename_i ho
      have he : e = 2 * (e / 2) := by omega
      conv => rhs; rw [he]

def IsP (q : Nat) : Prop := 1 < q ∧ ∀ d, d ∣ q → d = 1 ∨ d = q

theorem pow_gcd (g N : Nat) (hN : 1 < N) : ∀ a b : Nat, g ^ a % N = 1 → g ^ b % N = 1 → g ^ (Nat.gcd a b) % N = 1 := by
  intro a b
  induction a, b using Nat.gcd.induction with
  | H0 n => intro _ h; simpa using h
  | H1 m n hm ih =>
    intro h1 h2
    rw [Nat.gcd_rec]
    refine ih ?_ h1
    have e : n = m * (n / m) + n % m := (Nat.div_add_mod n m).symm
    rw [e, Nat.pow_add, Nat.pow_mul, Nat.mul_mod, Nat.pow_mod, h1, Nat.one_pow, Nat.mod_eq_of_lt hN, Nat.one_mul, Nat.mod_mod] at h2
    exact h2

theorem some_prime : ∀ (L : List Nat), (∀ q ∈ L, IsP q) → ∀ m, 1 < m → m ∣ L.foldr (· * ·) 1 → ∃ q ∈ L, q ∣ m := by
  intro L
  induction L with
  | nil => intro _ m hm hd; simp at hd; omega
  | cons q L ih =>
    intro hP m hm hd
    rw [List.foldr_cons] at hd
    rcases (hP q (by simp)).2 (Nat.gcd m q) (Nat.gcd_dvd_right m q) with h | h
    · obtain ⟨r, hr, hrm⟩ := ih (fun q hq => hP q (by simp [hq])) m hm (Nat.Coprime.dvd_of_dvd_mul_left h hd)
      exact ⟨r, by simp [hr], hrm⟩
    · exact ⟨q, by simp, h ▸ Nat.gcd_dvd_left m q⟩

theorem pigeon : ∀ (n : Nat) (f : Nat → Nat), (∀ i, i < n → f i < n) → (∀ i j, i < n → j < n → f i = f j → i = j) → ∀ y, y < n → ∃ i, i < n ∧ f i = y := by
  intro n
  induction n with
  | zero => intro f _ _ y hy; omega
  | succ n ih =>
    intro f hf hi y hy
    have key : ∀ i, i < n → f i = n → f n < n := by
      intro i hin he
      have h1 := hf n (by omega)
      have h2 : f n ≠ n := by
        intro h
        have := hi i n (by omega) (by omega) (by omega)
        omega
      omega
    have ih' := ih (fun i => if f i = n then f n else f i) (by
      intro i hin
      split
      · rename_i he; exact key i hin he
      · have := hf i (by omega); omega) (by
      intro i j hin hjn
      split <;> split
      · rename_i h1 h2; intro _; exact hi i j (by omega) (by omega) (by omega)
      · rename_i h1 h2; intro h; have := hi n j (by omega) (by omega) h; omega
      · rename_i h1 h2; intro h; have := hi i n (by omega) (by omega) h; omega
      · intro h; exact hi i j (by omega) (by omega) h)
    by_cases hv : y = f n
    · exact ⟨n, by omega, hv.symm⟩
    · by_cases hyn : y < n
      · obtain ⟨i, hin, he⟩ := ih' y hyn
        split at he
        · omega
        · exact ⟨i, by omega, he⟩
      · have hyn : y = n := by omega
        subst hyn
        have hvn : f y < y := by have := hf y (by omega); omega
        obtain ⟨i, hin, he⟩ := ih' (f y) hvn
        split at he
        · rename_i h; exact ⟨i, by omega, h⟩
        · have := hi i y (by omega) (by omega) he; omega

/-- what a generator's certificate gives -/
structure Gen (N g : Nat) : Prop where
  one : 1 < N
  full : g ^ (N - 1) % N = 1
  not : ∀ j, 0 < j → j < N - 1 → g ^ j % N ≠ 1

theorem gen_of (N g : Nat) (L : List Nat) (hP : ∀ q ∈ L, IsP q) (hL : L.foldr (· * ·) 1 = N - 1) (h1 : 1 < N) (hf : g ^ (N - 1) % N = 1)
    (hn : ∀ q ∈ L, g ^ ((N - 1) / q) % N ≠ 1) : Gen N g := by
  refine ⟨h1, hf, ?_⟩
  intro j hj hjn he
  have hg := pow_gcd g N h1 j (N - 1) he hf
  have hgd : Nat.gcd j (N - 1) ∣ N - 1 := Nat.gcd_dvd_right _ _
  have hgj : Nat.gcd j (N - 1) ≤ j := Nat.le_of_dvd hj (Nat.gcd_dvd_left _ _)
  have hgp : 0 < Nat.gcd j (N - 1) := Nat.gcd_pos_of_pos_left _ hj
  generalize Nat.gcd j (N - 1) = e at *
  obtain ⟨m, hm⟩ := hgd
  have hm1 : 1 < m := by
    rcases Nat.lt_or_ge 1 m with h | h
    · exact h
    · have : e * m ≤ e * 1 := Nat.mul_le_mul_left e h
      omega
  obtain ⟨q, hq, r, hr⟩ := some_prime L hP m hm1 (by rw [hL, hm]; exact Nat.dvd_mul_left m e)
  have hq0 : 0 < q := by have := (hP q hq).1; omega
  apply hn q hq
  have : (N - 1) / q = e * r := by
    rw [hm, hr, ← Nat.mul_assoc, Nat.mul_comm e q, Nat.mul_assoc, Nat.mul_div_cancel_left _ hq0]
  rw [this, Nat.pow_mul, Nat.pow_mod, hg, Nat.one_pow, Nat.mod_eq_of_lt h1]

theorem Gen.ne0 {N g : Nat} (h : Gen N g) (i : Nat) (hi : i ≤ N - 1) : g ^ i % N ≠ 0 := by
  intro h0
  have := h.full
  rw [show N - 1 = i + (N - 1 - i) from by omega, Nat.pow_add, Nat.mul_mod, h0] at this
  simp at this

theorem Gen.inj {N g : Nat} (h : Gen N g) (i j : Nat) (hi : i < j) (hj : j < N - 1) : g ^ i % N ≠ g ^ j % N := by
  intro he
  have h1 : g ^ i * g ^ (N - 1 - i) % N = 1 := by rw [← Nat.pow_add, show i + (N - 1 - i) = N - 1 from by omega]; exact h.full
  have h2 : g ^ j * g ^ (N - 1 - i) % N = 1 := by rw [Nat.mul_mod, ← he, ← Nat.mul_mod]; exact h1
  rw [← Nat.pow_add, show j + (N - 1 - i) = (N - 1) + (j - i) from by omega, Nat.pow_add, Nat.mul_mod, h.full, Nat.one_mul, Nat.mod_mod] at h2
  exact h.not (j - i) (by omega) (by omega) h2

theorem Gen.surj {N g : Nat} (h : Gen N g) (a : Nat) (h0 : 0 < a) (ha : a < N) : ∃ i, i < N - 1 ∧ g ^ i % N = a := by
  have h1 := h.one
  obtain ⟨i, hi, he⟩ := pigeon (N - 1) (fun i => g ^ i % N - 1) (by
      intro i hi
      have := h.ne0 i (by omega)
      have := Nat.mod_lt (g ^ i) (show N > 0 by omega)
      omega) (by
      intro i j hi hj he
      have h1 := h.ne0 i (by omega)
      have h2 := h.ne0 j (by omega)
      rcases Nat.lt_trichotomy i j with hl | hl | hl
      · exact absurd (by omega) (h.inj i j hl hj)
      · exact hl
      · exact absurd (by omega) (h.inj j i hl hi)) (a - 1) (by omega)
  have := h.ne0 i (by omega)
  exact ⟨i, hi, by omega⟩

theorem Gen.fermat {N g : Nat} (h : Gen N g) (a : Nat) (h0 : a % N ≠ 0) : a ^ (N - 1) % N = 1 := by
  have h1 := h.one
  obtain ⟨i, _, he⟩ := h.surj (a % N) (by omega) (Nat.mod_lt _ (by omega))
  rw [Nat.pow_mod, ← he, ← Nat.pow_mod, ← Nat.pow_mul, Nat.mul_comm, Nat.pow_mul, Nat.pow_mod, h.full, Nat.one_pow, Nat.mod_eq_of_lt h1]

theorem Gen.isP {N g : Nat} (h : Gen N g) : IsP N := by
  have h1 := h.one
  refine ⟨h1, ?_⟩
  intro d hd
  by_cases hN : d = N
  · exact .inr hN
  · left
    have hle := Nat.le_of_dvd (by omega) hd
    have hd0 : 0 < d := by rcases Nat.eq_zero_or_pos d with h0 | h0; { subst h0; simp at hd; omega }; exact h0
    obtain ⟨i, hi, he⟩ := h.surj d hd0 (by omega)
    have hf := h.full
    rw [show N - 1 = i + (N - 1 - i) from by omega, Nat.pow_add, Nat.mul_mod, he] at hf
    have : d ∣ 1 := by
      rw [← hf]
      exact (Nat.dvd_mod_iff hd).2 (Nat.dvd_mul_right _ _)
    simpa using this

/-- small primes by trial -/
def trial (q : Nat) : Nat → Bool
  | 0 => true
  | d + 1 => (d < 2 || q % d != 0) && trial q d

theorem trial_spec (q : Nat) : ∀ n, trial q n = true → ∀ d, 2 ≤ d → d < n → ¬ d ∣ q := by
  intro n
  induction n with
  | zero => intro _ d _ h; omega
  | succ n ih =>
    intro h d h2 hd hq
    simp only [trial, Bool.and_eq_true, Bool.or_eq_true, decide_eq_true_eq, bne_iff_ne, ne_eq] at h
    by_cases hdn : d = n
    · subst hdn
      have := Nat.mod_eq_zero_of_dvd hq
      omega
    · exact ih h.2 d h2 (by omega) hq

theorem isP_small (q : Nat) (h1 : 1 < q) (h : trial q q = true) : IsP q := by
  refine ⟨h1, fun d hd => ?_⟩
  have hle := Nat.le_of_dvd (by omega) hd
  have := trial_spec q q h d
  rcases Nat.eq_zero_or_pos d with h0 | h0
  · subst h0; simp at hd; omega
  · by_cases d = 1
    · left; assumption
    · right
      by_cases d = q
      · assumption
      · exact absurd hd (this (by omega) (by omega))

/-- a certificate's check -/
def chk (N g : Nat) (L : List Nat) : Bool :=
  decide (1 < N) && (N - 1 < 2 ^ 256) && (L.foldr (· * ·) 1 == N - 1) && (pw 256 g (N - 1) N == 1) && L.all fun q => pw 256 g ((N - 1) / q) N != 1

theorem gen_chk (N g : Nat) (L : List Nat) (hP : ∀ q ∈ L, IsP q) (h : chk N g L = true) : Gen N g := by
  simp only [chk, Bool.and_eq_true, decide_eq_true_eq, beq_iff_eq, List.all_eq_true, bne_iff_ne, ne_eq] at h
  obtain ⟨⟨⟨⟨h1, h2⟩, h3⟩, h4⟩, h5⟩ := h
  refine gen_of N g L hP h3 h1 (by rw [← pw_eq 256 _ _ _ h2]; exact h4) ?_
  intro q hq
  rw [← pw_eq 256 _ _ _ (Nat.lt_of_le_of_lt (Nat.div_le_self _ _) h2)]
  exact h5 q hq

theorem p2 : IsP 2 := isP_small 2 (by decide) (by decide +kernel)
theorem p3 : IsP 3 := isP_small 3 (by decide) (by decide +kernel)
theorem p17 : IsP 17 := isP_small 17 (by decide) (by decide +kernel)
theorem p479 : IsP 479 := isP_small 479 (by decide) (by decide +kernel)
theorem p32573 : IsP 32573 := (gen_chk 32573 2 [2, 2, 17, 479] (by
  intro q hq
  simp only [List.mem_cons, List.not_mem_nil, or_false] at hq
  rcases hq with rfl | rfl | rfl | rfl
  · exact p2
  · exact p2
  · exact p17
  · exact p479) (by decide +kernel)).isP
theorem p65147 : IsP 65147 := (gen_chk 65147 2 [2, 32573] (by
  intro q hq
  simp only [List.mem_cons, List.not_mem_nil, or_false] at hq
  rcases hq with rfl | rfl
  · exact p2
  · exact p32573) (by decide +kernel)).isP
theorem p353 : IsP 353 := isP_small 353 (by decide) (by decide +kernel)
theorem p59 : IsP 59 := isP_small 59 (by decide) (by decide +kernel)
theorem p487 : IsP 487 := isP_small 487 (by decide) (by decide +kernel)
theorem p57467 : IsP 57467 := (gen_chk 57467 2 [2, 59, 487] (by
  intro q hq
  simp only [List.mem_cons, List.not_mem_nil, or_false] at hq
  rcases hq with rfl | rfl | rfl
  · exact p2
  · exact p59
  · exact p487) (by decide +kernel)).isP
theorem p7 : IsP 7 := isP_small 7 (by decide) (by decide +kernel)
theorem p131 : IsP 131 := isP_small 131 (by decide) (by decide +kernel)
theorem p132049 : IsP 132049 := (gen_chk 132049 26 [2, 2, 2, 2, 3, 3, 7, 131] (by
  intro q hq
  simp only [List.mem_cons, List.not_mem_nil, or_false] at hq
  rcases hq with rfl | rfl | rfl | rfl | rfl | rfl | rfl | rfl
  · exact p2
  · exact p2
  · exact p2
  · exact p2
  · exact p3
  · exact p3
  · exact p7
  · exact p131) (by decide +kernel)).isP
theorem p43 : IsP 43 := isP_small 43 (by decide) (by decide +kernel)
theorem p23 : IsP 23 := isP_small 23 (by decide) (by decide +kernel)
theorem p3727 : IsP 3727 := (gen_chk 3727 3 [2, 3, 3, 3, 3, 23] (by
  intro q hq
  simp only [List.mem_cons, List.not_mem_nil, or_false] at hq
  rcases hq with rfl | rfl | rfl | rfl | rfl | rfl
  · exact p2
  · exact p3
  · exact p3
  · exact p3
  · exact p3
  · exact p23) (by decide +kernel)).isP
theorem p1923133 : IsP 1923133 := (gen_chk 1923133 2 [2, 2, 3, 43, 3727] (by
  intro q hq
  simp only [List.mem_cons, List.not_mem_nil, or_false] at hq
  rcases hq with rfl | rfl | rfl | rfl | rfl
  · exact p2
  · exact p2
  · exact p3
  · exact p43
  · exact p3727) (by decide +kernel)).isP
theorem p31 : IsP 31 := isP_small 31 (by decide) (by decide +kernel)
theorem p107 : IsP 107 := isP_small 107 (by decide) (by decide +kernel)
theorem p223 : IsP 223 := isP_small 223 (by decide) (by decide +kernel)
theorem p173 : IsP 173 := isP_small 173 (by decide) (by decide +kernel)
theorem p4153 : IsP 4153 := (gen_chk 4153 5 [2, 2, 2, 3, 173] (by
  intro q hq
  simp only [List.mem_cons, List.not_mem_nil, or_false] at hq
  rcases hq with rfl | rfl | rfl | rfl | rfl
  · exact p2
  · exact p2
  · exact p2
  · exact p3
  · exact p173) (by decide +kernel)).isP
theorem p5 : IsP 5 := isP_small 5 (by decide) (by decide +kernel)
theorem p41 : IsP 41 := isP_small 41 (by decide) (by decide +kernel)
theorem p1723 : IsP 1723 := (gen_chk 1723 3 [2, 3, 7, 41] (by
  intro q hq
  simp only [List.mem_cons, List.not_mem_nil, or_false] at hq
  rcases hq with rfl | rfl | rfl | rfl
  · exact p2
  · exact p3
  · exact p7
  · exact p41) (by decide +kernel)).isP
theorem p430751 : IsP 430751 := (gen_chk 430751 17 [2, 5, 5, 5, 1723] (by
  intro q hq
  simp only [List.mem_cons, List.not_mem_nil, or_false] at hq
  rcases hq with rfl | rfl | rfl | rfl | rfl
  · exact p2
  · exact p5
  · exact p5
  · exact p5
  · exact p1723) (by decide +kernel)).isP
theorem p31757755568855353 : IsP 31757755568855353 := (gen_chk 31757755568855353 10 [2, 2, 2, 3, 31, 107, 223, 4153, 430751] (by
  intro q hq
  simp only [List.mem_cons, List.not_mem_nil, or_false] at hq
  rcases hq with rfl | rfl | rfl | rfl | rfl | rfl | rfl | rfl | rfl
  · exact p2
  · exact p2
  · exact p2
  · exact p3
  · exact p31
  · exact p107
  · exact p223
  · exact p4153
  · exact p430751) (by decide +kernel)).isP
theorem p19 : IsP 19 := isP_small 19 (by decide) (by decide +kernel)
theorem p83 : IsP 83 := isP_small 83 (by decide) (by decide +kernel)
theorem p9463 : IsP 9463 := (gen_chk 9463 3 [2, 3, 19, 83] (by
  intro q hq
  simp only [List.mem_cons, List.not_mem_nil, or_false] at hq
  rcases hq with rfl | rfl | rfl | rfl
  · exact p2
  · exact p3
  · exact p19
  · exact p83) (by decide +kernel)).isP
theorem p37853 : IsP 37853 := (gen_chk 37853 2 [2, 2, 9463] (by
  intro q hq
  simp only [List.mem_cons, List.not_mem_nil, or_false] at hq
  rcases hq with rfl | rfl | rfl
  · exact p2
  · exact p2
  · exact p9463) (by decide +kernel)).isP
theorem p75707 : IsP 75707 := (gen_chk 75707 2 [2, 37853] (by
  intro q hq
  simp only [List.mem_cons, List.not_mem_nil, or_false] at hq
  rcases hq with rfl | rfl
  · exact p2
  · exact p37853) (by decide +kernel)).isP
theorem p47 : IsP 47 := isP_small 47 (by decide) (by decide +kernel)
theorem p127 : IsP 127 := isP_small 127 (by decide) (by decide +kernel)
theorem p103 : IsP 103 := isP_small 103 (by decide) (by decide +kernel)
theorem p11 : IsP 11 := isP_small 11 (by decide) (by decide +kernel)
theorem p991 : IsP 991 := (gen_chk 991 6 [2, 3, 3, 5, 11] (by
  intro q hq
  simp only [List.mem_cons, List.not_mem_nil, or_false] at hq
  rcases hq with rfl | rfl | rfl | rfl | rfl
  · exact p2
  · exact p3
  · exact p3
  · exact p5
  · exact p11) (by decide +kernel)).isP
theorem p8574133 : IsP 8574133 := (gen_chk 8574133 2 [2, 2, 3, 7, 103, 991] (by
  intro q hq
  simp only [List.mem_cons, List.not_mem_nil, or_false] at hq
  rcases hq with rfl | rfl | rfl | rfl | rfl | rfl
  · exact p2
  · exact p2
  · exact p3
  · exact p7
  · exact p103
  · exact p991) (by decide +kernel)).isP
theorem p1919519569386763 : IsP 1919519569386763 := (gen_chk 1919519569386763 2 [2, 3, 7, 19, 47, 47, 127, 8574133] (by
  intro q hq
  simp only [List.mem_cons, List.not_mem_nil, or_false] at hq
  rcases hq with rfl | rfl | rfl | rfl | rfl | rfl | rfl | rfl
  · exact p2
  · exact p3
  · exact p7
  · exact p19
  · exact p47
  · exact p47
  · exact p127
  · exact p8574133) (by decide +kernel)).isP
theorem p13 : IsP 13 := isP_small 13 (by decide) (by decide +kernel)
theorem p29 : IsP 29 := isP_small 29 (by decide) (by decide +kernel)
theorem p2437 : IsP 2437 := (gen_chk 2437 2 [2, 2, 3, 7, 29] (by
  intro q hq
  simp only [List.mem_cons, List.not_mem_nil, or_false] at hq
  rcases hq with rfl | rfl | rfl | rfl | rfl
  · exact p2
  · exact p2
  · exact p3
  · exact p7
  · exact p29) (by decide +kernel)).isP
theorem p97 : IsP 97 := isP_small 97 (by decide) (by decide +kernel)
theorem p419 : IsP 419 := isP_small 419 (by decide) (by decide +kernel)
theorem p569003 : IsP 569003 := (gen_chk 569003 2 [2, 7, 97, 419] (by
  intro q hq
  simp only [List.mem_cons, List.not_mem_nil, or_false] at hq
  rcases hq with rfl | rfl | rfl | rfl
  · exact p2
  · exact p7
  · exact p97
  · exact p419) (by decide +kernel)).isP
theorem p2773320623 : IsP 2773320623 := (gen_chk 2773320623 5 [2, 2437, 569003] (by
  intro q hq
  simp only [List.mem_cons, List.not_mem_nil, or_false] at hq
  rcases hq with rfl | rfl | rfl
  · exact p2
  · exact p2437
  · exact p569003) (by decide +kernel)).isP
theorem p72106336199 : IsP 72106336199 := (gen_chk 72106336199 7 [2, 13, 2773320623] (by
  intro q hq
  simp only [List.mem_cons, List.not_mem_nil, or_false] at hq
  rcases hq with rfl | rfl | rfl
  · exact p2
  · exact p13
  · exact p2773320623) (by decide +kernel)).isP
theorem p75445702479781427272750846543864801 : IsP 75445702479781427272750846543864801 := (gen_chk 75445702479781427272750846543864801 7 [2, 2, 2, 2, 2, 3, 3, 5, 5, 75707, 1919519569386763, 72106336199] (by
  intro q hq
  simp only [List.mem_cons, List.not_mem_nil, or_false] at hq
  rcases hq with rfl | rfl | rfl | rfl | rfl | rfl | rfl | rfl | rfl | rfl | rfl | rfl
  · exact p2
  · exact p2
  · exact p2
  · exact p2
  · exact p2
  · exact p3
  · exact p3
  · exact p5
  · exact p5
  · exact p75707
  · exact p1919519569386763
  · exact p72106336199) (by decide +kernel)).isP
theorem p74058212732561358302231226437062788676166966415465897661863160754340907 : IsP 74058212732561358302231226437062788676166966415465897661863160754340907 := (gen_chk 74058212732561358302231226437062788676166966415465897661863160754340907 2 [2, 3, 353, 57467, 132049, 1923133, 31757755568855353, 75445702479781427272750846543864801] (by
  intro q hq
  simp only [List.mem_cons, List.not_mem_nil, or_false] at hq
  rcases hq with rfl | rfl | rfl | rfl | rfl | rfl | rfl | rfl
  · exact p2
  · exact p3
  · exact p353
  · exact p57467
  · exact p132049
  · exact p1923133
  · exact p31757755568855353
  · exact p75445702479781427272750846543864801) (by decide +kernel)).isP
theorem genP : Gen 57896044618658097711785492504343953926634992332820282019728792003956564819949 2 := gen_chk 57896044618658097711785492504343953926634992332820282019728792003956564819949 2 [2, 2, 3, 65147, 74058212732561358302231226437062788676166966415465897661863160754340907] (by
  intro q hq
  simp only [List.mem_cons, List.not_mem_nil, or_false] at hq
  rcases hq with rfl | rfl | rfl | rfl | rfl
  · exact p2
  · exact p2
  · exact p3
  · exact p65147
  · exact p74058212732561358302231226437062788676166966415465897661863160754340907) (by decide +kernel)
end Ed
namespace Ed

def P : Nat := 57896044618658097711785492504343953926634992332820282019728792003956564819949
theorem genP' : Gen P 2 := genP
theorem P_lt : P < 2 ^ 255 := by decide
theorem P_gt : 2 ^ 254 < P := by decide
attribute [irreducible] P
theorem P_eq : P = 57896044618658097711785492504343953926634992332820282019728792003956564819949 := by unfold P; rfl
instance : NeZero P := ⟨by rw [P_eq]; decide⟩
abbrev F := Fin P

def fpow (x : F) : Nat → F
  | 0 => 1
  | k + 1 => fpow x k * x

theorem one_val : (1 : F).val = 1 := by
  show 1 % P = 1
  rw [P_eq]

theorem fpow_val (x : F) (k : Nat) : (fpow x k).val = x.val ^ k % P := by
  induction k with
  | zero => show (1 : F).val = _; rw [one_val, Nat.pow_zero, P_eq]
  | succ k ih =>
    show (fpow x k * x).val = _
    rw [Fin.val_mul, ih, Nat.pow_succ, Nat.mod_mul_mod]

theorem fpow_add (x : F) (a b : Nat) : fpow x (a + b) = fpow x a * fpow x b := by
  induction b with
  | zero => show fpow x a = fpow x a * 1; grind
  | succ b ih => show fpow x (a + b) * x = fpow x a * (fpow x b * x); rw [ih]; grind

theorem fpow_mul (x : F) (a b : Nat) : fpow x (a * b) = fpow (fpow x a) b := by
  induction b with
  | zero => rfl
  | succ b ih => rw [Nat.mul_succ, fpow_add, ih]; rfl

theorem mul_fpow (x y : F) (a : Nat) : fpow (x * y) a = fpow x a * fpow y a := by
  induction a with
  | zero => show (1 : F) = 1 * 1; grind
  | succ b ih => show fpow (x * y) b * (x * y) = fpow x b * x * (fpow y b * y); rw [ih]; grind

theorem one_fpow (a : Nat) : fpow 1 a = 1 := by
  induction a with
  | zero => rfl
  | succ b ih => show fpow 1 b * 1 = 1; rw [ih]; grind

theorem zero_fpow (a : Nat) (h : 0 < a) : fpow 0 a = 0 := by
  obtain ⟨b, rfl⟩ : ∃ b, a = b + 1 := ⟨a - 1, by omega⟩
  show fpow 0 b * 0 = 0; grind

theorem val_ne {x : F} (h : x ≠ 0) : x.val % P ≠ 0 := by
  rw [Nat.mod_eq_of_lt x.isLt]
  intro h0
  exact h (Fin.ext (by rw [h0]; rfl))

theorem fermat {x : F} (h : x ≠ 0) : fpow x (P - 1) = 1 := by
  apply Fin.ext
  rw [fpow_val, one_val]
  exact genP'.fermat x.val (val_ne h)

def finv (x : F) : F := fpow x (P - 2)

theorem mul_finv {x : F} (h : x ≠ 0) : x * finv x = 1 := by
  have h1 := fermat h
  rw [show P - 1 = (P - 2) + 1 from by have := P_gt; have : 2 ^ 254 > 4 := by decide
                                       omega] at h1
  have : fpow x (P - 2) * x = 1 := h1
  unfold finv
  grind

theorem finv_zero : finv 0 = 0 := zero_fpow _ (by have := P_gt; have : 2 ^ 254 > 4 := by decide
                                                  omega)

theorem one_ne_zero : (1 : F) ≠ 0 := by
  intro h
  have := congrArg Fin.val h
  rw [one_val] at this
  exact absurd this (by simp)

theorem mul_ne_zero {x y : F} (hx : x ≠ 0) (hy : y ≠ 0) : x * y ≠ 0 := by
  intro h
  have h1 := mul_finv hx
  have h2 := mul_finv hy
  apply one_ne_zero
  grind

theorem eq_zero_of_mul {x y : F} (h : x * y = 0) : x = 0 ∨ y = 0 := by
  by_cases hx : x = 0
  · exact .inl hx
  · by_cases hy : y = 0
    · exact .inr hy
    · exact absurd h (mul_ne_zero hx hy)

theorem mul_cancel {x y z : F} (hx : x ≠ 0) (h : x * y = x * z) : y = z := by
  have h1 := mul_finv hx
  grind

theorem finv_eq {x y : F} (h : x * y = 1) : y = finv x := by
  have hx : x ≠ 0 := by
    rintro rfl
    apply one_ne_zero
    grind
  have h1 := mul_finv hx
  exact mul_cancel hx (by rw [h, h1])

theorem sq_eq {x y : F} (h : x * x = y * y) : x = y ∨ x = -y := by
  have : (x - y) * (x + y) = 0 := by grind
  rcases eq_zero_of_mul this with h | h
  · left; grind
  · right; grind

/-- an element by its number -/
def mk (n : Nat) : F := Fin.ofNat P n
theorem mk_val (n : Nat) : (mk n).val = n % P := rfl
theorem mk_of {n : Nat} (x : F) (h : x.val = n % P) : mk n = x := Fin.ext h.symm
theorem mk_self (x : F) : mk x.val = x := Fin.ext (Nat.mod_eq_of_lt x.isLt)
theorem mk_mod (n : Nat) : mk (n % P) = mk n := Fin.ext (by rw [mk_val, mk_val, Nat.mod_mod])
theorem mk_add (a b : Nat) : mk (a + b) = mk a + mk b := Fin.ext (by rw [mk_val, Fin.val_add, mk_val, mk_val, ← Nat.add_mod])
theorem mk_mul (a b : Nat) : mk (a * b) = mk a * mk b := Fin.ext (by rw [mk_val, Fin.val_mul, mk_val, mk_val, ← Nat.mul_mod])
theorem mk_zero : mk 0 = 0 := Fin.ext (by rw [mk_val]; simp)
theorem mk_one : mk 1 = 1 := Fin.ext (by rw [mk_val, one_val, P_eq])
theorem mk_P : mk P = 0 := Fin.ext (by rw [mk_val]; simp)
theorem mk_eq {a b : Nat} (h : a % P = b % P) : mk a = mk b := Fin.ext h
theorem mk_inj {a b : Nat} (h : mk a = mk b) : a % P = b % P := congrArg Fin.val h

/-- the root of -1 -/
def I : F := mk 19681161376707505956807079304988542015446066515923890162744021073123829784752
/-- the curve's constant -/
def D : F := mk 37095705934669439343138083508754565189542113879843219016388785533085940283555

theorem I_sq : I * I = -1 := by
  have h : I * I + 1 = 0 := by
    unfold I
    rw [← mk_mul, ← mk_one, ← mk_add, ← mk_zero]
    apply mk_eq
    rw [P_eq]
  grind

theorem D_eq : D * mk 121666 = - mk 121665 := by
  have h : D * mk 121666 + mk 121665 = 0 := by
    unfold D
    rw [← mk_mul, ← mk_add, ← mk_zero]
    apply mk_eq
    rw [P_eq]
  grind

theorem two_ne_zero : (1 : F) + 1 ≠ 0 := by
  rw [← mk_one, ← mk_add, ← mk_zero]
  intro h
  have := mk_inj h
  rw [P_eq] at this
  exact absurd this (by decide)

theorem D_half : fpow D ((P - 1) / 2) = -1 := by
  have h : fpow D ((P - 1) / 2) + 1 = 0 := by
    apply Fin.ext
    rw [Fin.val_add, fpow_val, one_val, ← pw_eq 256 _ _ _ (by rw [P_eq]; decide)]
    unfold D
    rw [mk_val, show ((0 : F).val) = 0 from rfl, P_eq]
    decide +kernel
  grind

theorem D_ne_zero : D ≠ 0 := by
  intro h
  have h1 := D_half
  rw [h, zero_fpow _ (by rw [P_eq]; decide)] at h1
  exact one_ne_zero (by grind)

/-- D is no square -/
theorem D_nsq (s : F) : s * s ≠ D := by
  intro h
  have hs : s ≠ 0 := by
    rintro rfl
    exact D_ne_zero (by grind)
  have h1 := D_half
  have h2 := fermat hs
  have e : P - 1 = 2 * ((P - 1) / 2) := by rw [P_eq]
  rw [e, fpow_mul] at h2
  have h3 : fpow s 2 = D := by show (1 * s) * s = D; rw [← h]; grind
  rw [h3] at h2
  exact two_ne_zero (by grind)

/-- D times a square that is not zero is no square -/
theorem D_nsq2 {s t : F} (h : s * s = D * (t * t)) : t = 0 := by
  by_cases ht : t = 0
  · exact ht
  · have h1 := mul_finv ht
    exact absurd (show (s * finv t) * (s * finv t) = D by grind) (D_nsq _)

end Ed
namespace Ed

/-! the curve: -x x + y y = 1 + D x x y y -/

def On (p : F × F) : Prop := p.2 * p.2 - p.1 * p.1 - 1 - D * p.1 * p.1 * p.2 * p.2 = 0

def kk (p q : F × F) : F := D * p.1 * q.1 * p.2 * q.2

def pt0 : F × F := (0, 1)
def neg (p : F × F) : F × F := (-p.1, p.2)
def add (p q : F × F) : F × F :=
  ((p.1 * q.2 + q.1 * p.2) * finv (1 + kk p q), (p.2 * q.2 + p.1 * q.1) * finv (1 - kk p q))

theorem on_pt0 : On pt0 := by unfold On pt0; grind
theorem on_neg {p : F × F} (h : On p) : On (neg p) := by unfold On neg at *; grind

theorem compl_aux (e x1 y1 x2 y2 : F) (he : e * e = 1) (h1 : On (x1, y1)) (h2 : On (x2, y2)) (hk : D * x1 * x2 * y1 * y2 = e) : False := by
  unfold On at h1 h2
  have hI := I_sq
  have hx1 : x1 ≠ 0 := by rintro rfl; exact one_ne_zero (by grind)
  have hy1 : y1 ≠ 0 := by rintro rfl; exact one_ne_zero (by grind)
  have hy2 : y2 ≠ 0 := by rintro rfl; exact one_ne_zero (by grind)
  have hxy := mul_ne_zero hx1 hy1
  have a1 : (e * y1 - I * x1) * (e * y1 - I * x1) = D * ((x1 * y1 * (y2 - I * x2)) * (x1 * y1 * (y2 - I * x2))) := by grind
  have a2 : (e * y1 + I * x1) * (e * y1 + I * x1) = D * ((x1 * y1 * (y2 + I * x2)) * (x1 * y1 * (y2 + I * x2))) := by grind
  have b1 := D_nsq2 a1
  have b2 := D_nsq2 a2
  have c1 : y2 - I * x2 = 0 := by
    rcases eq_zero_of_mul b1 with h | h
    · exact absurd h hxy
    · exact h
  have c2 : y2 + I * x2 = 0 := by
    rcases eq_zero_of_mul b2 with h | h
    · exact absurd h hxy
    · exact h
  have d : (1 + 1) * y2 = 0 := by grind
  rcases eq_zero_of_mul d with h | h
  · exact two_ne_zero h
  · exact hy2 h

theorem compl1 {p q : F × F} (h1 : On p) (h2 : On q) : 1 + kk p q ≠ 0 := by
  intro h
  exact compl_aux (-1) p.1 p.2 q.1 q.2 (by grind) h1 h2 (by unfold kk at h; grind)

theorem compl2 {p q : F × F} (h1 : On p) (h2 : On q) : 1 - kk p q ≠ 0 := by
  intro h
  exact compl_aux 1 p.1 p.2 q.1 q.2 (by grind) h1 h2 (by unfold kk at h; grind)

theorem on_add_aux (x1 y1 x2 y2 u v d : F)
    (e1 : y1 * y1 - x1 * x1 - 1 - d * x1 * x1 * y1 * y1 = 0) (e2 : y2 * y2 - x2 * x2 - 1 - d * x2 * x2 * y2 * y2 = 0)
    (hu : (1 + d * x1 * x2 * y1 * y2) * u = 1) (hv : (1 - d * x1 * x2 * y1 * y2) * v = 1) :
    ((y1 * y2 + x1 * x2) * v) * ((y1 * y2 + x1 * x2) * v) - ((x1 * y2 + x2 * y1) * u) * ((x1 * y2 + x2 * y1) * u) - 1
      - d * ((x1 * y2 + x2 * y1) * u) * ((x1 * y2 + x2 * y1) * u) * ((y1 * y2 + x1 * x2) * v) * ((y1 * y2 + x1 * x2) * v) = 0 := by
  have key : (y1 * y2 + x1 * x2) * (y1 * y2 + x1 * x2) * ((1 + d * x1 * x2 * y1 * y2) * (1 + d * x1 * x2 * y1 * y2))
      - (x1 * y2 + x2 * y1) * (x1 * y2 + x2 * y1) * ((1 - d * x1 * x2 * y1 * y2) * (1 - d * x1 * x2 * y1 * y2))
      - (1 + d * x1 * x2 * y1 * y2) * (1 + d * x1 * x2 * y1 * y2) * ((1 - d * x1 * x2 * y1 * y2) * (1 - d * x1 * x2 * y1 * y2))
      - d * (x1 * y2 + x2 * y1) * (x1 * y2 + x2 * y1) * (y1 * y2 + x1 * x2) * (y1 * y2 + x1 * x2) = 0 := by
    clear hu hv u v
    grind
  generalize hA : x1 * y2 + x2 * y1 = A at *
  generalize hB : y1 * y2 + x1 * x2 = B at *
  generalize hk : d * x1 * x2 * y1 * y2 = k at *
  clear hA hB hk e1 e2
  grind

theorem on_add {p q : F × F} (h1 : On p) (h2 : On q) : On (add p q) := by
  have hu := mul_finv (compl1 h1 h2)
  have hv := mul_finv (compl2 h1 h2)
  exact on_add_aux p.1 p.2 q.1 q.2 _ _ D h1 h2 hu hv

theorem add_comm (p q : F × F) : add p q = add q p := by
  have h : kk p q = kk q p := by unfold kk; grind
  unfold add
  rw [h]
  congr 1 <;> grind

theorem finv_one : finv 1 = 1 := (finv_eq (by grind)).symm

theorem pt0_add (p : F × F) : add pt0 p = p := by
  have h : kk pt0 p = 0 := by unfold kk pt0; grind
  have h1 := finv_one
  unfold add
  rw [h, show (1 : F) + 0 = 1 by grind, show (1 : F) - 0 = 1 by grind, h1]
  unfold pt0
  refine Prod.ext ?_ ?_
  · dsimp only; grind
  · dsimp only; grind

theorem add_pt0 (p : F × F) : add p pt0 = p := by rw [add_comm, pt0_add]

theorem add_neg {p : F × F} (h : On p) : add p (neg p) = pt0 := by
  have hv := mul_finv (compl2 h (on_neg h))
  unfold add
  refine Prod.ext ?_ ?_
  · show (p.1 * p.2 + -p.1 * p.2) * _ = 0; grind
  · show (p.2 * p.2 + p.1 * -p.1) * finv (1 - kk p (neg p)) = 1
    unfold On at h
    have : kk p (neg p) = - (D * p.1 * p.1 * p.2 * p.2) := by unfold kk neg; grind
    have e : p.2 * p.2 + p.1 * -p.1 = 1 - kk p (neg p) := by rw [this]; grind
    rw [e]; exact hv

theorem neg_add {p q : F × F} : neg (add p q) = add (neg p) (neg q) := by
  have h : kk (neg p) (neg q) = kk p q := by unfold kk neg; grind
  unfold add
  rw [h]
  unfold neg
  dsimp only
  congr 1 <;> grind

theorem assocX (d x1 y1 x2 y2 x3 y3 : F)
    (e1 : y1 * y1 - x1 * x1 - 1 - d * x1 * x1 * y1 * y1 = 0) (e2 : y2 * y2 - x2 * x2 - 1 - d * x2 * x2 * y2 * y2 = 0)
    (e3 : y3 * y3 - x3 * x3 - 1 - d * x3 * x3 * y3 * y3 = 0) :
    ((x1 * y2 + x2 * y1) * (1 - d * x1 * x2 * y1 * y2) * y3 + (y1 * y2 + x1 * x2) * (1 + d * x1 * x2 * y1 * y2) * x3)
        * ((1 - (d * x2 * x3 * y2 * y3) * (d * x2 * x3 * y2 * y3)) + d * (x2 * y3 + x3 * y2) * (y2 * y3 + x2 * x3) * x1 * y1)
      = ((x2 * y3 + x3 * y2) * (1 - d * x2 * x3 * y2 * y3) * y1 + (y2 * y3 + x2 * x3) * (1 + d * x2 * x3 * y2 * y3) * x1)
        * ((1 - (d * x1 * x2 * y1 * y2) * (d * x1 * x2 * y1 * y2)) + d * (x1 * y2 + x2 * y1) * (y1 * y2 + x1 * x2) * x3 * y3) := by grind

theorem assocY (d x1 y1 x2 y2 x3 y3 : F)
    (e1 : y1 * y1 - x1 * x1 - 1 - d * x1 * x1 * y1 * y1 = 0) (e2 : y2 * y2 - x2 * x2 - 1 - d * x2 * x2 * y2 * y2 = 0)
    (e3 : y3 * y3 - x3 * x3 - 1 - d * x3 * x3 * y3 * y3 = 0) :
    ((y1 * y2 + x1 * x2) * (1 + d * x1 * x2 * y1 * y2) * y3 + (x1 * y2 + x2 * y1) * (1 - d * x1 * x2 * y1 * y2) * x3)
        * ((1 - (d * x2 * x3 * y2 * y3) * (d * x2 * x3 * y2 * y3)) - d * (x2 * y3 + x3 * y2) * (y2 * y3 + x2 * x3) * x1 * y1)
      = ((y2 * y3 + x2 * x3) * (1 + d * x2 * x3 * y2 * y3) * y1 + (x2 * y3 + x3 * y2) * (1 - d * x2 * x3 * y2 * y3) * x1)
        * ((1 - (d * x1 * x2 * y1 * y2) * (d * x1 * x2 * y1 * y2)) - d * (x1 * y2 + x2 * y1) * (y1 * y2 + x1 * x2) * x3 * y3) := by grind

/-- one coordinate of (p + q) + r: a fraction -/
theorem frac (A B k u v x y w d : F) (hu : (1 + k) * u = 1) (hv : (1 - k) * v = 1) (hw : (1 + d * (A * u) * x * (B * v) * y) * w = 1) :
    ((A * u) * y + x * (B * v)) * w * ((1 - k * k) + d * A * B * x * y) = A * (1 - k) * y + B * (1 + k) * x ∧ (1 - k * k) + d * A * B * x * y ≠ 0 := by
  have e : (1 + d * (A * u) * x * (B * v) * y) * (1 - k * k) = (1 - k * k) + d * A * B * x * y := by grind
  constructor
  · rw [← e]; grind
  · rw [← e]
    refine mul_ne_zero ?_ ?_
    · intro h; exact one_ne_zero (by grind)
    · intro h; exact one_ne_zero (by grind)

theorem frac2 (A B k u v x y w d : F) (hu : (1 + k) * u = 1) (hv : (1 - k) * v = 1) (hw : (1 - d * (A * u) * x * (B * v) * y) * w = 1) :
    ((B * v) * y + (A * u) * x) * w * ((1 - k * k) - d * A * B * x * y) = B * (1 + k) * y + A * (1 - k) * x ∧ (1 - k * k) - d * A * B * x * y ≠ 0 := by
  have e : (1 - d * (A * u) * x * (B * v) * y) * (1 - k * k) = (1 - k * k) - d * A * B * x * y := by grind
  constructor
  · rw [← e]; grind
  · rw [← e]
    refine mul_ne_zero ?_ ?_
    · intro h; exact one_ne_zero (by grind)
    · intro h; exact one_ne_zero (by grind)

theorem cross {a b m n L R : F} (h1 : a * L = m) (h2 : b * R = n) (hL : L ≠ 0) (hR : R ≠ 0) (h : m * R = n * L) : a = b := by
  have : (L * R) * a = (L * R) * b := by grind
  exact mul_cancel (mul_ne_zero hL hR) this

theorem add_fst (p q : F × F) : (add p q).1 = (p.1 * q.2 + q.1 * p.2) * finv (1 + kk p q) := rfl
theorem add_snd (p q : F × F) : (add p q).2 = (p.2 * q.2 + p.1 * q.1) * finv (1 - kk p q) := rfl

theorem add_assoc {p q r : F × F} (hp : On p) (hq : On q) (hr : On r) : add (add p q) r = add p (add q r) := by
  have hu := mul_finv (compl1 hp hq)
  have hv := mul_finv (compl2 hp hq)
  have hu' := mul_finv (compl1 hq hr)
  have hv' := mul_finv (compl2 hq hr)
  have hw := mul_finv (compl1 (on_add hp hq) hr)
  have hz := mul_finv (compl2 (on_add hp hq) hr)
  have hw' := mul_finv (compl1 (on_add hq hr) hp)
  have hz' := mul_finv (compl2 (on_add hq hr) hp)
  rw [add_comm p (add q r)]
  obtain ⟨x1, y1⟩ := p
  obtain ⟨x2, y2⟩ := q
  obtain ⟨x3, y3⟩ := r
  unfold On at hp hq hr
  have f1 := frac (x1 * y2 + x2 * y1) (y1 * y2 + x1 * x2) (kk (x1, y1) (x2, y2)) _ _ x3 y3 _ D hu hv hw
  have f2 := frac (x2 * y3 + x3 * y2) (y2 * y3 + x2 * x3) (kk (x2, y2) (x3, y3)) _ _ x1 y1 _ D hu' hv' hw'
  have g1 := frac2 (x1 * y2 + x2 * y1) (y1 * y2 + x1 * x2) (kk (x1, y1) (x2, y2)) _ _ x3 y3 _ D hu hv hz
  have g2 := frac2 (x2 * y3 + x3 * y2) (y2 * y3 + x2 * x3) (kk (x2, y2) (x3, y3)) _ _ x1 y1 _ D hu' hv' hz'
  refine Prod.ext ?_ ?_
  · exact cross f1.1 f2.1 f1.2 f2.2 (assocX D x1 y1 x2 y2 x3 y3 hp hq hr)
  · exact cross g1.1 g2.1 g1.2 g2.2 (assocY D x1 y1 x2 y2 x3 y3 hp hq hr)

end Ed
namespace Ed

/-- a whole number as an element -/
def z (n : Int) : F := mk (n % (P : Int)).toNat

theorem P_pos : (0 : Int) < (P : Int) := by have := P_gt; have : 2 ^ 254 > 0 := by decide
                                            omega

theorem z_nat (n : Nat) : z (n : Int) = mk n := by
  unfold z
  rw [← mk_mod n]
  congr 1

theorem z_eq {a b : Int} (h : a % (P : Int) = b % (P : Int)) : z a = z b := by unfold z; rw [h]

theorem z_add (a b : Int) : z (a + b) = z a + z b := by
  unfold z
  rw [← mk_add]
  apply mk_eq
  have ha := Int.emod_nonneg a (Int.ne_of_gt P_pos)
  have hb := Int.emod_nonneg b (Int.ne_of_gt P_pos)
  have hc := Int.emod_nonneg (a + b) (Int.ne_of_gt P_pos)
  apply Int.ofNat_inj.1
  rw [Int.natCast_emod, Int.natCast_emod, Int.natCast_add, Int.toNat_of_nonneg ha, Int.toNat_of_nonneg hb, Int.toNat_of_nonneg hc, Int.emod_emod, ← Int.add_emod]

theorem z_mul (a b : Int) : z (a * b) = z a * z b := by
  unfold z
  rw [← mk_mul]
  apply mk_eq
  have ha := Int.emod_nonneg a (Int.ne_of_gt P_pos)
  have hb := Int.emod_nonneg b (Int.ne_of_gt P_pos)
  have hc := Int.emod_nonneg (a * b) (Int.ne_of_gt P_pos)
  apply Int.ofNat_inj.1
  rw [Int.natCast_emod, Int.natCast_emod, Int.natCast_mul, Int.toNat_of_nonneg ha, Int.toNat_of_nonneg hb, Int.toNat_of_nonneg hc, Int.emod_emod, ← Int.mul_emod]

theorem z_zero : z 0 = 0 := by rw [show (0 : Int) = ((0 : Nat) : Int) from rfl, z_nat, mk_zero]
theorem z_one : z 1 = 1 := by rw [show (1 : Int) = ((1 : Nat) : Int) from rfl, z_nat, mk_one]
theorem z_P : z (P : Int) = 0 := by rw [z_nat, mk_P]
theorem z_neg (a : Int) : z (-a) = - z a := by
  have h : z (-a) + z a = 0 := by rw [← z_add, show -a + a = 0 by omega, z_zero]
  grind
theorem z_sub (a b : Int) : z (a - b) = z a - z b := by rw [Int.sub_eq_add_neg, z_add, z_neg]; grind

theorem z_val (x : F) : z (x.val : Int) = x := by rw [z_nat, mk_self]
theorem val_z (n : Int) : ((z n).val : Int) = n % (P : Int) := by
  have h0 := Int.emod_nonneg n (Int.ne_of_gt P_pos)
  have h1 := Int.emod_lt_of_pos n P_pos
  unfold z
  rw [mk_val, Nat.mod_eq_of_lt (by omega), Int.toNat_of_nonneg h0]

theorem z_inj {a b : Int} (h : z a = z b) : a % (P : Int) = b % (P : Int) := by rw [← val_z, ← val_z, h]

/-- the number of five limbs -/
def lv (l0 l1 l2 l3 l4 : Int) : Int := l0 + 2251799813685248 * l1 + 5070602400912917605986812821504 * l2 + 11417981541647679048466287755595961091061972992 * l3 + 25711008708143844408671393477458601640355247900524685364822016 * l4

theorem P_int : (P : Int) = 57896044618658097711785492504343953926634992332820282019728792003956564819949 := by rw [P_eq]; rfl

/-- five limbs, their carries handed on once -/
theorem z_carry (l0 l1 l2 l3 l4 : Int) :
    z (lv (l0 % 2251799813685248 + 19 * (l4 / 2251799813685248)) (l1 % 2251799813685248 + l0 / 2251799813685248) (l2 % 2251799813685248 + l1 / 2251799813685248)
      (l3 % 2251799813685248 + l2 / 2251799813685248) (l4 % 2251799813685248 + l3 / 2251799813685248)) = z (lv l0 l1 l2 l3 l4) := by
  have h : lv l0 l1 l2 l3 l4 = lv (l0 % 2251799813685248 + 19 * (l4 / 2251799813685248)) (l1 % 2251799813685248 + l0 / 2251799813685248) (l2 % 2251799813685248 + l1 / 2251799813685248)
      (l3 % 2251799813685248 + l2 / 2251799813685248) (l4 % 2251799813685248 + l3 / 2251799813685248) + (P : Int) * (l4 / 2251799813685248) := by
    rw [P_int]
    unfold lv
    have e0 := Int.mul_ediv_add_emod l0 2251799813685248
    have e1 := Int.mul_ediv_add_emod l1 2251799813685248
    have e2 := Int.mul_ediv_add_emod l2 2251799813685248
    have e3 := Int.mul_ediv_add_emod l3 2251799813685248
    have e4 := Int.mul_ediv_add_emod l4 2251799813685248
    generalize l0 / 2251799813685248 = q0 at *
    generalize l1 / 2251799813685248 = q1 at *
    generalize l2 / 2251799813685248 = q2 at *
    generalize l3 / 2251799813685248 = q3 at *
    generalize l4 / 2251799813685248 = q4 at *
    generalize l0 % 2251799813685248 = r0 at *
    generalize l1 % 2251799813685248 = r1 at *
    generalize l2 % 2251799813685248 = r2 at *
    generalize l3 % 2251799813685248 = r3 at *
    generalize l4 % 2251799813685248 = r4 at *
    omega
  rw [h, z_add, z_mul, z_P]
  grind

theorem z_c5 : z 2251799813685248 * z 2251799813685248 * z 2251799813685248 * z 2251799813685248 * z 2251799813685248 = z 19 := by
  rw [← z_mul, ← z_mul, ← z_mul, ← z_mul]
  apply z_eq
  rw [P_int]
  decide

theorem z_lv (l0 l1 l2 l3 l4 : Int) : z (lv l0 l1 l2 l3 l4) = z l0 + z 2251799813685248 * (z l1 + z 2251799813685248 * (z l2 + z 2251799813685248 * (z l3 + z 2251799813685248 * z l4))) := by
  rw [← z_mul, ← z_add, ← z_mul, ← z_add, ← z_mul, ← z_add, ← z_mul, ← z_add]
  unfold lv
  congr 1
  omega

/-- the product by its five columns -/
theorem z_prod (a0 a1 a2 a3 a4 b0 b1 b2 b3 b4 : Int) :
    z (lv (a0 * b0 + 19 * (a1 * b4 + a2 * b3 + a3 * b2 + a4 * b1)) (a0 * b1 + a1 * b0 + 19 * (a2 * b4 + a3 * b3 + a4 * b2)) (a0 * b2 + a1 * b1 + a2 * b0 + 19 * (a3 * b4 + a4 * b3))
      (a0 * b3 + a1 * b2 + a2 * b1 + a3 * b0 + 19 * (a4 * b4)) (a0 * b4 + a1 * b3 + a2 * b2 + a3 * b1 + a4 * b0)) = z (lv a0 a1 a2 a3 a4) * z (lv b0 b1 b2 b3 b4) := by
  have h := z_c5
  simp only [z_lv, z_add, z_mul]
  generalize z 2251799813685248 = c at *
  generalize z 19 = n at *
  grind

end Ed
end Go.Proofs.YtkibnongmkhbaaaGreatDoor
end

section
namespace Go.Proofs.YtkibnongmkhbaaaGreatDoor

theorem mont_zero {t m h p h' y d : Int} (hm : m + 18446744073709551616 * h = t * 15183074304973897243) (hp : p + 18446744073709551616 * h' = m * 6346243789798364141) (hy : y + 18446744073709551616 * d = t + p + 0)
    (y0 : 0 ≤ y) (y1 : y < 18446744073709551616) : y = 0 := by omega

theorem from_r0 {a0 x2 x4 x5 x6 x7 x8 x9 x10 x11 x13 x14 x15 y1 y6 : Int}
    (H1 : x2 + 18446744073709551616 * y1 = a0 * 15183074304973897243)
    (H2 : x4 + 18446744073709551616 * x5 = x2 * 1152921504606846976)
    (H3 : x6 + 18446744073709551616 * x7 = x2 * 1503914060200516822)
    (H4 : x8 + 18446744073709551616 * x9 = x2 * 6346243789798364141)
    (H5 : x10 + 18446744073709551616 * x11 = x9 + x6 + 0)
    (H6 : y6 + 18446744073709551616 * x13 = a0 + x8 + 0)
    (H7 : x14 + 18446744073709551616 * x15 = 0 + x10 + x13)
    (z0 : 0 ≤ y6) (z1 : y6 < 18446744073709551616) :
    18446744073709551616 * (x14 + 18446744073709551616 * (x15 + (x11 + x7)) + 340282366920938463463374607431768211456 * x4 + 6277101735386680763835789423207666416102355444464034512896 * x5) = 0 + a0 + x2 * 7237005577332262213973186563042994240857116359379907606001950938285454250989 := by
  have hz : y6 = 0 := mont_zero H1 H4 H6 z0 z1
  subst hz
  clear H1 z0 z1
  have e : 6277101735386680763835789423207666416102355444464034512896 * (x4 + 18446744073709551616 * x5) + 18446744073709551616 * (x6 + 18446744073709551616 * x7) + 1 * (x8 + 18446744073709551616 * x9) + 18446744073709551616 * (x10 + 18446744073709551616 * x11) + 1 * (0 + 18446744073709551616 * x13) + 18446744073709551616 * (x14 + 18446744073709551616 * x15) = 6277101735386680763835789423207666416102355444464034512896 * (x2 * 1152921504606846976) + 18446744073709551616 * (x2 * 1503914060200516822) + 1 * (x2 * 6346243789798364141) + 18446744073709551616 * (x9 + x6 + 0) + 1 * (a0 + x8 + 0) + 18446744073709551616 * (0 + x10 + x13) := by rw [H2, H3, H4, H5, H6, H7]
  clear H2 H3 H4 H5 H6 H7
  omega

theorem from_r1 {a1 x4 x5 x7 x11 x14 x15 x16 x17 x18 x20 x21 x22 x23 x24 x25 x26 x27 x29 x30 x31 x32 x33 x34 x35 y9 y14 : Int}
    (H8 : x16 + 18446744073709551616 * x17 = x14 + a1 + 0)
    (H9 : x18 + 18446744073709551616 * y9 = x16 * 15183074304973897243)
    (H10 : x20 + 18446744073709551616 * x21 = x18 * 1152921504606846976)
    (H11 : x22 + 18446744073709551616 * x23 = x18 * 1503914060200516822)
    (H12 : x24 + 18446744073709551616 * x25 = x18 * 6346243789798364141)
    (H13 : x26 + 18446744073709551616 * x27 = x25 + x22 + 0)
    (H14 : y14 + 18446744073709551616 * x29 = x16 + x24 + 0)
    (H15 : x30 + 18446744073709551616 * x31 = (x17 + (x15 + (x11 + x7))) + x26 + x29)
    (H16 : x32 + 18446744073709551616 * x33 = x4 + (x27 + x23) + x31)
    (H17 : x34 + 18446744073709551616 * x35 = x5 + x20 + x33)
    (z0 : 0 ≤ y14) (z1 : y14 < 18446744073709551616) :
    18446744073709551616 * (x30 + 18446744073709551616 * x32 + 340282366920938463463374607431768211456 * x34 + 6277101735386680763835789423207666416102355444464034512896 * (x35 + x21)) = (x14 + 18446744073709551616 * (x15 + (x11 + x7)) + 340282366920938463463374607431768211456 * x4 + 6277101735386680763835789423207666416102355444464034512896 * x5) + a1 + x18 * 7237005577332262213973186563042994240857116359379907606001950938285454250989 := by
  have hz : y14 = 0 := mont_zero H9 H12 H14 z0 z1
  subst hz
  clear H9 z0 z1
  have e : 1 * (x16 + 18446744073709551616 * x17) + 6277101735386680763835789423207666416102355444464034512896 * (x20 + 18446744073709551616 * x21) + 18446744073709551616 * (x22 + 18446744073709551616 * x23) + 1 * (x24 + 18446744073709551616 * x25) + 18446744073709551616 * (x26 + 18446744073709551616 * x27) + 1 * (0 + 18446744073709551616 * x29) + 18446744073709551616 * (x30 + 18446744073709551616 * x31) + 340282366920938463463374607431768211456 * (x32 + 18446744073709551616 * x33) + 6277101735386680763835789423207666416102355444464034512896 * (x34 + 18446744073709551616 * x35) = 1 * (x14 + a1 + 0) + 6277101735386680763835789423207666416102355444464034512896 * (x18 * 1152921504606846976) + 18446744073709551616 * (x18 * 1503914060200516822) + 1 * (x18 * 6346243789798364141) + 18446744073709551616 * (x25 + x22 + 0) + 1 * (x16 + x24 + 0) + 18446744073709551616 * ((x17 + (x15 + (x11 + x7))) + x26 + x29) + 340282366920938463463374607431768211456 * (x4 + (x27 + x23) + x31) + 6277101735386680763835789423207666416102355444464034512896 * (x5 + x20 + x33) := by rw [H8, H10, H11, H12, H13, H14, H15, H16, H17]
  clear H8 H10 H11 H12 H13 H14 H15 H16 H17
  omega

theorem from_r2 {a2 x21 x30 x32 x34 x35 x36 x37 x38 x39 x40 x41 x42 x44 x45 x46 x47 x48 x49 x50 x51 x53 x54 x55 x56 x57 x58 x59 y21 y26 : Int}
    (H18 : x36 + 18446744073709551616 * x37 = x30 + a2 + 0)
    (H19 : x38 + 18446744073709551616 * x39 = x32 + 0 + x37)
    (H20 : x40 + 18446744073709551616 * x41 = x34 + 0 + x39)
    (H21 : x42 + 18446744073709551616 * y21 = x36 * 15183074304973897243)
    (H22 : x44 + 18446744073709551616 * x45 = x42 * 1152921504606846976)
    (H23 : x46 + 18446744073709551616 * x47 = x42 * 1503914060200516822)
    (H24 : x48 + 18446744073709551616 * x49 = x42 * 6346243789798364141)
    (H25 : x50 + 18446744073709551616 * x51 = x49 + x46 + 0)
    (H26 : y26 + 18446744073709551616 * x53 = x36 + x48 + 0)
    (H27 : x54 + 18446744073709551616 * x55 = x38 + x50 + x53)
    (H28 : x56 + 18446744073709551616 * x57 = x40 + (x51 + x47) + x55)
    (H29 : x58 + 18446744073709551616 * x59 = (x41 + (x35 + x21)) + x44 + x57)
    (z0 : 0 ≤ y26) (z1 : y26 < 18446744073709551616) :
    18446744073709551616 * (x54 + 18446744073709551616 * x56 + 340282366920938463463374607431768211456 * x58 + 6277101735386680763835789423207666416102355444464034512896 * (x59 + x45)) = (x30 + 18446744073709551616 * x32 + 340282366920938463463374607431768211456 * x34 + 6277101735386680763835789423207666416102355444464034512896 * (x35 + x21)) + a2 + x42 * 7237005577332262213973186563042994240857116359379907606001950938285454250989 := by
  have hz : y26 = 0 := mont_zero H21 H24 H26 z0 z1
  subst hz
  clear H21 z0 z1
  have e : 1 * (x36 + 18446744073709551616 * x37) + 18446744073709551616 * (x38 + 18446744073709551616 * x39) + 340282366920938463463374607431768211456 * (x40 + 18446744073709551616 * x41) + 6277101735386680763835789423207666416102355444464034512896 * (x44 + 18446744073709551616 * x45) + 18446744073709551616 * (x46 + 18446744073709551616 * x47) + 1 * (x48 + 18446744073709551616 * x49) + 18446744073709551616 * (x50 + 18446744073709551616 * x51) + 1 * (0 + 18446744073709551616 * x53) + 18446744073709551616 * (x54 + 18446744073709551616 * x55) + 340282366920938463463374607431768211456 * (x56 + 18446744073709551616 * x57) + 6277101735386680763835789423207666416102355444464034512896 * (x58 + 18446744073709551616 * x59) = 1 * (x30 + a2 + 0) + 18446744073709551616 * (x32 + 0 + x37) + 340282366920938463463374607431768211456 * (x34 + 0 + x39) + 6277101735386680763835789423207666416102355444464034512896 * (x42 * 1152921504606846976) + 18446744073709551616 * (x42 * 1503914060200516822) + 1 * (x42 * 6346243789798364141) + 18446744073709551616 * (x49 + x46 + 0) + 1 * (x36 + x48 + 0) + 18446744073709551616 * (x38 + x50 + x53) + 340282366920938463463374607431768211456 * (x40 + (x51 + x47) + x55) + 6277101735386680763835789423207666416102355444464034512896 * ((x41 + (x35 + x21)) + x44 + x57) := by rw [H18, H19, H20, H22, H23, H24, H25, H26, H27, H28, H29]
  clear H18 H19 H20 H22 H23 H24 H25 H26 H27 H28 H29
  omega

theorem from_r3 {a3 x45 x54 x56 x58 x59 x60 x61 x62 x63 x64 x65 x66 x68 x69 x70 x71 x72 x73 x74 x75 x77 x78 x79 x80 x81 x82 x83 x84 y33 y38 : Int}
    (H30 : x60 + 18446744073709551616 * x61 = x54 + a3 + 0)
    (H31 : x62 + 18446744073709551616 * x63 = x56 + 0 + x61)
    (H32 : x64 + 18446744073709551616 * x65 = x58 + 0 + x63)
    (H33 : x66 + 18446744073709551616 * y33 = x60 * 15183074304973897243)
    (H34 : x68 + 18446744073709551616 * x69 = x66 * 1152921504606846976)
    (H35 : x70 + 18446744073709551616 * x71 = x66 * 1503914060200516822)
    (H36 : x72 + 18446744073709551616 * x73 = x66 * 6346243789798364141)
    (H37 : x74 + 18446744073709551616 * x75 = x73 + x70 + 0)
    (H38 : y38 + 18446744073709551616 * x77 = x60 + x72 + 0)
    (H39 : x78 + 18446744073709551616 * x79 = x62 + x74 + x77)
    (H40 : x80 + 18446744073709551616 * x81 = x64 + (x75 + x71) + x79)
    (H41 : x82 + 18446744073709551616 * x83 = (x65 + (x59 + x45)) + x68 + x81)
    (Dx84 : x84 = x83 + x69)
    (z0 : 0 ≤ y38) (z1 : y38 < 18446744073709551616) :
    18446744073709551616 * (x78 + 18446744073709551616 * x80 + 340282366920938463463374607431768211456 * x82 + 6277101735386680763835789423207666416102355444464034512896 * x84) = (x54 + 18446744073709551616 * x56 + 340282366920938463463374607431768211456 * x58 + 6277101735386680763835789423207666416102355444464034512896 * (x59 + x45)) + a3 + x66 * 7237005577332262213973186563042994240857116359379907606001950938285454250989 := by
  have hz : y38 = 0 := mont_zero H33 H36 H38 z0 z1
  subst hz
  clear H33 z0 z1
  have e : 1 * (x60 + 18446744073709551616 * x61) + 18446744073709551616 * (x62 + 18446744073709551616 * x63) + 340282366920938463463374607431768211456 * (x64 + 18446744073709551616 * x65) + 6277101735386680763835789423207666416102355444464034512896 * (x68 + 18446744073709551616 * x69) + 18446744073709551616 * (x70 + 18446744073709551616 * x71) + 1 * (x72 + 18446744073709551616 * x73) + 18446744073709551616 * (x74 + 18446744073709551616 * x75) + 1 * (0 + 18446744073709551616 * x77) + 18446744073709551616 * (x78 + 18446744073709551616 * x79) + 340282366920938463463374607431768211456 * (x80 + 18446744073709551616 * x81) + 6277101735386680763835789423207666416102355444464034512896 * (x82 + 18446744073709551616 * x83) + 115792089237316195423570985008687907853269984665640564039457584007913129639936 * (x84) = 1 * (x54 + a3 + 0) + 18446744073709551616 * (x56 + 0 + x61) + 340282366920938463463374607431768211456 * (x58 + 0 + x63) + 6277101735386680763835789423207666416102355444464034512896 * (x66 * 1152921504606846976) + 18446744073709551616 * (x66 * 1503914060200516822) + 1 * (x66 * 6346243789798364141) + 18446744073709551616 * (x73 + x70 + 0) + 1 * (x60 + x72 + 0) + 18446744073709551616 * (x62 + x74 + x77) + 340282366920938463463374607431768211456 * (x64 + (x75 + x71) + x79) + 6277101735386680763835789423207666416102355444464034512896 * ((x65 + (x59 + x45)) + x68 + x81) + 115792089237316195423570985008687907853269984665640564039457584007913129639936 * (x83 + x69) := by rw [H30, H31, H32, H34, H35, H36, H37, H38, H39, H40, H41, Dx84]
  clear H30 H31 H32 H34 H35 H36 H37 H38 H39 H40 H41 Dx84
  omega




theorem to_r0 {a0 x5 x6 x7 x8 x9 x10 x11 x12 x13 x14 x15 x16 x17 x18 x19 x21 x22 x23 x24 x25 x26 x27 x28 x30 x31 x32 x33 x34 x35 x36 y8 y13 : Int}
    (H1 : x5 + 18446744073709551616 * x6 = a0 * 259310039853996605)
    (H2 : x7 + 18446744073709551616 * x8 = a0 * 14910419812499177061)
    (H3 : x9 + 18446744073709551616 * x10 = a0 * 14991950615390032711)
    (H4 : x11 + 18446744073709551616 * x12 = a0 * 11819153939886771969)
    (H5 : x13 + 18446744073709551616 * x14 = x12 + x9 + 0)
    (H6 : x15 + 18446744073709551616 * x16 = x10 + x7 + x14)
    (H7 : x17 + 18446744073709551616 * x18 = x8 + x5 + x16)
    (H8 : x19 + 18446744073709551616 * y8 = x11 * 15183074304973897243)
    (H9 : x21 + 18446744073709551616 * x22 = x19 * 1152921504606846976)
    (H10 : x23 + 18446744073709551616 * x24 = x19 * 1503914060200516822)
    (H11 : x25 + 18446744073709551616 * x26 = x19 * 6346243789798364141)
    (H12 : x27 + 18446744073709551616 * x28 = x26 + x23 + 0)
    (H13 : y13 + 18446744073709551616 * x30 = x11 + x25 + 0)
    (H14 : x31 + 18446744073709551616 * x32 = x13 + x27 + x30)
    (H15 : x33 + 18446744073709551616 * x34 = x15 + (x28 + x24) + x32)
    (H16 : x35 + 18446744073709551616 * x36 = x17 + x21 + x34)
    (z0 : 0 ≤ y13) (z1 : y13 < 18446744073709551616) :
    18446744073709551616 * (x31 + 18446744073709551616 * x33 + 340282366920938463463374607431768211456 * x35 + 6277101735386680763835789423207666416102355444464034512896 * (x36 + (x18 + x6) + x22)) = 0 + 1627715501170711445284395025044413883736156588369414752970002579683115011841 * a0 + x19 * 7237005577332262213973186563042994240857116359379907606001950938285454250989 := by
  have hz : y13 = 0 := mont_zero H8 H11 H13 z0 z1
  subst hz
  clear H8 z0 z1
  have e : 6277101735386680763835789423207666416102355444464034512896 * (x5 + 18446744073709551616 * x6) + 340282366920938463463374607431768211456 * (x7 + 18446744073709551616 * x8) + 18446744073709551616 * (x9 + 18446744073709551616 * x10) + 1 * (x11 + 18446744073709551616 * x12) + 18446744073709551616 * (x13 + 18446744073709551616 * x14) + 340282366920938463463374607431768211456 * (x15 + 18446744073709551616 * x16) + 6277101735386680763835789423207666416102355444464034512896 * (x17 + 18446744073709551616 * x18) + 6277101735386680763835789423207666416102355444464034512896 * (x21 + 18446744073709551616 * x22) + 18446744073709551616 * (x23 + 18446744073709551616 * x24) + 1 * (x25 + 18446744073709551616 * x26) + 18446744073709551616 * (x27 + 18446744073709551616 * x28) + 1 * (0 + 18446744073709551616 * x30) + 18446744073709551616 * (x31 + 18446744073709551616 * x32) + 340282366920938463463374607431768211456 * (x33 + 18446744073709551616 * x34) + 6277101735386680763835789423207666416102355444464034512896 * (x35 + 18446744073709551616 * x36) = 6277101735386680763835789423207666416102355444464034512896 * (a0 * 259310039853996605) + 340282366920938463463374607431768211456 * (a0 * 14910419812499177061) + 18446744073709551616 * (a0 * 14991950615390032711) + 1 * (a0 * 11819153939886771969) + 18446744073709551616 * (x12 + x9 + 0) + 340282366920938463463374607431768211456 * (x10 + x7 + x14) + 6277101735386680763835789423207666416102355444464034512896 * (x8 + x5 + x16) + 6277101735386680763835789423207666416102355444464034512896 * (x19 * 1152921504606846976) + 18446744073709551616 * (x19 * 1503914060200516822) + 1 * (x19 * 6346243789798364141) + 18446744073709551616 * (x26 + x23 + 0) + 1 * (x11 + x25 + 0) + 18446744073709551616 * (x13 + x27 + x30) + 340282366920938463463374607431768211456 * (x15 + (x28 + x24) + x32) + 6277101735386680763835789423207666416102355444464034512896 * (x17 + x21 + x34) := by rw [H1, H2, H3, H4, H5, H6, H7, H9, H10, H11, H12, H13, H14, H15, H16]
  clear H1 H2 H3 H4 H5 H6 H7 H9 H10 H11 H12 H13 H14 H15 H16
  grind

theorem to_r1 {a1 x6 x18 x22 x31 x33 x35 x36 x37 x38 x39 x40 x41 x42 x43 x44 x45 x46 x47 x48 x49 x50 x51 x52 x53 x54 x55 x56 x57 x58 x59 x61 x62 x63 x64 x65 x66 x67 x68 x70 x71 x72 x73 x74 x75 x76 y28 y33 : Int}
    (H17 : x37 + 18446744073709551616 * x38 = a1 * 259310039853996605)
    (H18 : x39 + 18446744073709551616 * x40 = a1 * 14910419812499177061)
    (H19 : x41 + 18446744073709551616 * x42 = a1 * 14991950615390032711)
    (H20 : x43 + 18446744073709551616 * x44 = a1 * 11819153939886771969)
    (H21 : x45 + 18446744073709551616 * x46 = x44 + x41 + 0)
    (H22 : x47 + 18446744073709551616 * x48 = x42 + x39 + x46)
    (H23 : x49 + 18446744073709551616 * x50 = x40 + x37 + x48)
    (H24 : x51 + 18446744073709551616 * x52 = x31 + x43 + 0)
    (H25 : x53 + 18446744073709551616 * x54 = x33 + x45 + x52)
    (H26 : x55 + 18446744073709551616 * x56 = x35 + x47 + x54)
    (H27 : x57 + 18446744073709551616 * x58 = ((x36 + (x18 + x6)) + x22) + x49 + x56)
    (H28 : x59 + 18446744073709551616 * y28 = x51 * 15183074304973897243)
    (H29 : x61 + 18446744073709551616 * x62 = x59 * 1152921504606846976)
    (H30 : x63 + 18446744073709551616 * x64 = x59 * 1503914060200516822)
    (H31 : x65 + 18446744073709551616 * x66 = x59 * 6346243789798364141)
    (H32 : x67 + 18446744073709551616 * x68 = x66 + x63 + 0)
    (H33 : y33 + 18446744073709551616 * x70 = x51 + x65 + 0)
    (H34 : x71 + 18446744073709551616 * x72 = x53 + x67 + x70)
    (H35 : x73 + 18446744073709551616 * x74 = x55 + (x68 + x64) + x72)
    (H36 : x75 + 18446744073709551616 * x76 = x57 + x61 + x74)
    (z0 : 0 ≤ y33) (z1 : y33 < 18446744073709551616) :
    18446744073709551616 * (x71 + 18446744073709551616 * x73 + 340282366920938463463374607431768211456 * x75 + 6277101735386680763835789423207666416102355444464034512896 * (x76 + (x58 + (x50 + x38)) + x62)) = (x31 + 18446744073709551616 * x33 + 340282366920938463463374607431768211456 * x35 + 6277101735386680763835789423207666416102355444464034512896 * (x36 + (x18 + x6) + x22)) + 1627715501170711445284395025044413883736156588369414752970002579683115011841 * a1 + x59 * 7237005577332262213973186563042994240857116359379907606001950938285454250989 := by
  have hz : y33 = 0 := mont_zero H28 H31 H33 z0 z1
  subst hz
  clear H28 z0 z1
  have e : 6277101735386680763835789423207666416102355444464034512896 * (x37 + 18446744073709551616 * x38) + 340282366920938463463374607431768211456 * (x39 + 18446744073709551616 * x40) + 18446744073709551616 * (x41 + 18446744073709551616 * x42) + 1 * (x43 + 18446744073709551616 * x44) + 18446744073709551616 * (x45 + 18446744073709551616 * x46) + 340282366920938463463374607431768211456 * (x47 + 18446744073709551616 * x48) + 6277101735386680763835789423207666416102355444464034512896 * (x49 + 18446744073709551616 * x50) + 1 * (x51 + 18446744073709551616 * x52) + 18446744073709551616 * (x53 + 18446744073709551616 * x54) + 340282366920938463463374607431768211456 * (x55 + 18446744073709551616 * x56) + 6277101735386680763835789423207666416102355444464034512896 * (x57 + 18446744073709551616 * x58) + 6277101735386680763835789423207666416102355444464034512896 * (x61 + 18446744073709551616 * x62) + 18446744073709551616 * (x63 + 18446744073709551616 * x64) + 1 * (x65 + 18446744073709551616 * x66) + 18446744073709551616 * (x67 + 18446744073709551616 * x68) + 1 * (0 + 18446744073709551616 * x70) + 18446744073709551616 * (x71 + 18446744073709551616 * x72) + 340282366920938463463374607431768211456 * (x73 + 18446744073709551616 * x74) + 6277101735386680763835789423207666416102355444464034512896 * (x75 + 18446744073709551616 * x76) = 6277101735386680763835789423207666416102355444464034512896 * (a1 * 259310039853996605) + 340282366920938463463374607431768211456 * (a1 * 14910419812499177061) + 18446744073709551616 * (a1 * 14991950615390032711) + 1 * (a1 * 11819153939886771969) + 18446744073709551616 * (x44 + x41 + 0) + 340282366920938463463374607431768211456 * (x42 + x39 + x46) + 6277101735386680763835789423207666416102355444464034512896 * (x40 + x37 + x48) + 1 * (x31 + x43 + 0) + 18446744073709551616 * (x33 + x45 + x52) + 340282366920938463463374607431768211456 * (x35 + x47 + x54) + 6277101735386680763835789423207666416102355444464034512896 * (((x36 + (x18 + x6)) + x22) + x49 + x56) + 6277101735386680763835789423207666416102355444464034512896 * (x59 * 1152921504606846976) + 18446744073709551616 * (x59 * 1503914060200516822) + 1 * (x59 * 6346243789798364141) + 18446744073709551616 * (x66 + x63 + 0) + 1 * (x51 + x65 + 0) + 18446744073709551616 * (x53 + x67 + x70) + 340282366920938463463374607431768211456 * (x55 + (x68 + x64) + x72) + 6277101735386680763835789423207666416102355444464034512896 * (x57 + x61 + x74) := by rw [H17, H18, H19, H20, H21, H22, H23, H24, H25, H26, H27, H29, H30, H31, H32, H33, H34, H35, H36]
  clear H17 H18 H19 H20 H21 H22 H23 H24 H25 H26 H27 H29 H30 H31 H32 H33 H34 H35 H36
  omega

theorem to_r2 {a2 x38 x50 x58 x62 x71 x73 x75 x76 x77 x78 x79 x80 x81 x82 x83 x84 x85 x86 x87 x88 x89 x90 x91 x92 x93 x94 x95 x96 x97 x98 x99 x101 x102 x103 x104 x105 x106 x107 x108 x110 x111 x112 x113 x114 x115 x116 y48 y53 : Int}
    (H37 : x77 + 18446744073709551616 * x78 = a2 * 259310039853996605)
    (H38 : x79 + 18446744073709551616 * x80 = a2 * 14910419812499177061)
    (H39 : x81 + 18446744073709551616 * x82 = a2 * 14991950615390032711)
    (H40 : x83 + 18446744073709551616 * x84 = a2 * 11819153939886771969)
    (H41 : x85 + 18446744073709551616 * x86 = x84 + x81 + 0)
    (H42 : x87 + 18446744073709551616 * x88 = x82 + x79 + x86)
    (H43 : x89 + 18446744073709551616 * x90 = x80 + x77 + x88)
    (H44 : x91 + 18446744073709551616 * x92 = x71 + x83 + 0)
    (H45 : x93 + 18446744073709551616 * x94 = x73 + x85 + x92)
    (H46 : x95 + 18446744073709551616 * x96 = x75 + x87 + x94)
    (H47 : x97 + 18446744073709551616 * x98 = ((x76 + (x58 + (x50 + x38))) + x62) + x89 + x96)
    (H48 : x99 + 18446744073709551616 * y48 = x91 * 15183074304973897243)
    (H49 : x101 + 18446744073709551616 * x102 = x99 * 1152921504606846976)
    (H50 : x103 + 18446744073709551616 * x104 = x99 * 1503914060200516822)
    (H51 : x105 + 18446744073709551616 * x106 = x99 * 6346243789798364141)
    (H52 : x107 + 18446744073709551616 * x108 = x106 + x103 + 0)
    (H53 : y53 + 18446744073709551616 * x110 = x91 + x105 + 0)
    (H54 : x111 + 18446744073709551616 * x112 = x93 + x107 + x110)
    (H55 : x113 + 18446744073709551616 * x114 = x95 + (x108 + x104) + x112)
    (H56 : x115 + 18446744073709551616 * x116 = x97 + x101 + x114)
    (z0 : 0 ≤ y53) (z1 : y53 < 18446744073709551616) :
    18446744073709551616 * (x111 + 18446744073709551616 * x113 + 340282366920938463463374607431768211456 * x115 + 6277101735386680763835789423207666416102355444464034512896 * (x116 + (x98 + (x90 + x78)) + x102)) = (x71 + 18446744073709551616 * x73 + 340282366920938463463374607431768211456 * x75 + 6277101735386680763835789423207666416102355444464034512896 * (x76 + (x58 + (x50 + x38)) + x62)) + 1627715501170711445284395025044413883736156588369414752970002579683115011841 * a2 + x99 * 7237005577332262213973186563042994240857116359379907606001950938285454250989 := by
  have hz : y53 = 0 := mont_zero H48 H51 H53 z0 z1
  subst hz
  clear H48 z0 z1
  have e : 6277101735386680763835789423207666416102355444464034512896 * (x77 + 18446744073709551616 * x78) + 340282366920938463463374607431768211456 * (x79 + 18446744073709551616 * x80) + 18446744073709551616 * (x81 + 18446744073709551616 * x82) + 1 * (x83 + 18446744073709551616 * x84) + 18446744073709551616 * (x85 + 18446744073709551616 * x86) + 340282366920938463463374607431768211456 * (x87 + 18446744073709551616 * x88) + 6277101735386680763835789423207666416102355444464034512896 * (x89 + 18446744073709551616 * x90) + 1 * (x91 + 18446744073709551616 * x92) + 18446744073709551616 * (x93 + 18446744073709551616 * x94) + 340282366920938463463374607431768211456 * (x95 + 18446744073709551616 * x96) + 6277101735386680763835789423207666416102355444464034512896 * (x97 + 18446744073709551616 * x98) + 6277101735386680763835789423207666416102355444464034512896 * (x101 + 18446744073709551616 * x102) + 18446744073709551616 * (x103 + 18446744073709551616 * x104) + 1 * (x105 + 18446744073709551616 * x106) + 18446744073709551616 * (x107 + 18446744073709551616 * x108) + 1 * (0 + 18446744073709551616 * x110) + 18446744073709551616 * (x111 + 18446744073709551616 * x112) + 340282366920938463463374607431768211456 * (x113 + 18446744073709551616 * x114) + 6277101735386680763835789423207666416102355444464034512896 * (x115 + 18446744073709551616 * x116) = 6277101735386680763835789423207666416102355444464034512896 * (a2 * 259310039853996605) + 340282366920938463463374607431768211456 * (a2 * 14910419812499177061) + 18446744073709551616 * (a2 * 14991950615390032711) + 1 * (a2 * 11819153939886771969) + 18446744073709551616 * (x84 + x81 + 0) + 340282366920938463463374607431768211456 * (x82 + x79 + x86) + 6277101735386680763835789423207666416102355444464034512896 * (x80 + x77 + x88) + 1 * (x71 + x83 + 0) + 18446744073709551616 * (x73 + x85 + x92) + 340282366920938463463374607431768211456 * (x75 + x87 + x94) + 6277101735386680763835789423207666416102355444464034512896 * (((x76 + (x58 + (x50 + x38))) + x62) + x89 + x96) + 6277101735386680763835789423207666416102355444464034512896 * (x99 * 1152921504606846976) + 18446744073709551616 * (x99 * 1503914060200516822) + 1 * (x99 * 6346243789798364141) + 18446744073709551616 * (x106 + x103 + 0) + 1 * (x91 + x105 + 0) + 18446744073709551616 * (x93 + x107 + x110) + 340282366920938463463374607431768211456 * (x95 + (x108 + x104) + x112) + 6277101735386680763835789423207666416102355444464034512896 * (x97 + x101 + x114) := by rw [H37, H38, H39, H40, H41, H42, H43, H44, H45, H46, H47, H49, H50, H51, H52, H53, H54, H55, H56]
  clear H37 H38 H39 H40 H41 H42 H43 H44 H45 H46 H47 H49 H50 H51 H52 H53 H54 H55 H56
  omega

theorem to_r3 {a3 x78 x90 x98 x102 x111 x113 x115 x116 x117 x118 x119 x120 x121 x122 x123 x124 x125 x126 x127 x128 x129 x130 x131 x132 x133 x134 x135 x136 x137 x138 x139 x141 x142 x143 x144 x145 x146 x147 x148 x150 x151 x152 x153 x154 x155 x156 x157 y68 y73 : Int}
    (H57 : x117 + 18446744073709551616 * x118 = a3 * 259310039853996605)
    (H58 : x119 + 18446744073709551616 * x120 = a3 * 14910419812499177061)
    (H59 : x121 + 18446744073709551616 * x122 = a3 * 14991950615390032711)
    (H60 : x123 + 18446744073709551616 * x124 = a3 * 11819153939886771969)
    (H61 : x125 + 18446744073709551616 * x126 = x124 + x121 + 0)
    (H62 : x127 + 18446744073709551616 * x128 = x122 + x119 + x126)
    (H63 : x129 + 18446744073709551616 * x130 = x120 + x117 + x128)
    (H64 : x131 + 18446744073709551616 * x132 = x111 + x123 + 0)
    (H65 : x133 + 18446744073709551616 * x134 = x113 + x125 + x132)
    (H66 : x135 + 18446744073709551616 * x136 = x115 + x127 + x134)
    (H67 : x137 + 18446744073709551616 * x138 = ((x116 + (x98 + (x90 + x78))) + x102) + x129 + x136)
    (H68 : x139 + 18446744073709551616 * y68 = x131 * 15183074304973897243)
    (H69 : x141 + 18446744073709551616 * x142 = x139 * 1152921504606846976)
    (H70 : x143 + 18446744073709551616 * x144 = x139 * 1503914060200516822)
    (H71 : x145 + 18446744073709551616 * x146 = x139 * 6346243789798364141)
    (H72 : x147 + 18446744073709551616 * x148 = x146 + x143 + 0)
    (H73 : y73 + 18446744073709551616 * x150 = x131 + x145 + 0)
    (H74 : x151 + 18446744073709551616 * x152 = x133 + x147 + x150)
    (H75 : x153 + 18446744073709551616 * x154 = x135 + (x148 + x144) + x152)
    (H76 : x155 + 18446744073709551616 * x156 = x137 + x141 + x154)
    (Dx157 : x157 = ((x156 + (x138 + (x130 + x118))) + x142))
    (z0 : 0 ≤ y73) (z1 : y73 < 18446744073709551616) :
    18446744073709551616 * (x151 + 18446744073709551616 * x153 + 340282366920938463463374607431768211456 * x155 + 6277101735386680763835789423207666416102355444464034512896 * x157) = (x111 + 18446744073709551616 * x113 + 340282366920938463463374607431768211456 * x115 + 6277101735386680763835789423207666416102355444464034512896 * (x116 + (x98 + (x90 + x78)) + x102)) + 1627715501170711445284395025044413883736156588369414752970002579683115011841 * a3 + x139 * 7237005577332262213973186563042994240857116359379907606001950938285454250989 := by
  have hz : y73 = 0 := mont_zero H68 H71 H73 z0 z1
  subst hz
  clear H68 z0 z1
  have e : 6277101735386680763835789423207666416102355444464034512896 * (x117 + 18446744073709551616 * x118) + 340282366920938463463374607431768211456 * (x119 + 18446744073709551616 * x120) + 18446744073709551616 * (x121 + 18446744073709551616 * x122) + 1 * (x123 + 18446744073709551616 * x124) + 18446744073709551616 * (x125 + 18446744073709551616 * x126) + 340282366920938463463374607431768211456 * (x127 + 18446744073709551616 * x128) + 6277101735386680763835789423207666416102355444464034512896 * (x129 + 18446744073709551616 * x130) + 1 * (x131 + 18446744073709551616 * x132) + 18446744073709551616 * (x133 + 18446744073709551616 * x134) + 340282366920938463463374607431768211456 * (x135 + 18446744073709551616 * x136) + 6277101735386680763835789423207666416102355444464034512896 * (x137 + 18446744073709551616 * x138) + 6277101735386680763835789423207666416102355444464034512896 * (x141 + 18446744073709551616 * x142) + 18446744073709551616 * (x143 + 18446744073709551616 * x144) + 1 * (x145 + 18446744073709551616 * x146) + 18446744073709551616 * (x147 + 18446744073709551616 * x148) + 1 * (0 + 18446744073709551616 * x150) + 18446744073709551616 * (x151 + 18446744073709551616 * x152) + 340282366920938463463374607431768211456 * (x153 + 18446744073709551616 * x154) + 6277101735386680763835789423207666416102355444464034512896 * (x155 + 18446744073709551616 * x156) + 115792089237316195423570985008687907853269984665640564039457584007913129639936 * (x157) = 6277101735386680763835789423207666416102355444464034512896 * (a3 * 259310039853996605) + 340282366920938463463374607431768211456 * (a3 * 14910419812499177061) + 18446744073709551616 * (a3 * 14991950615390032711) + 1 * (a3 * 11819153939886771969) + 18446744073709551616 * (x124 + x121 + 0) + 340282366920938463463374607431768211456 * (x122 + x119 + x126) + 6277101735386680763835789423207666416102355444464034512896 * (x120 + x117 + x128) + 1 * (x111 + x123 + 0) + 18446744073709551616 * (x113 + x125 + x132) + 340282366920938463463374607431768211456 * (x115 + x127 + x134) + 6277101735386680763835789423207666416102355444464034512896 * (((x116 + (x98 + (x90 + x78))) + x102) + x129 + x136) + 6277101735386680763835789423207666416102355444464034512896 * (x139 * 1152921504606846976) + 18446744073709551616 * (x139 * 1503914060200516822) + 1 * (x139 * 6346243789798364141) + 18446744073709551616 * (x146 + x143 + 0) + 1 * (x131 + x145 + 0) + 18446744073709551616 * (x133 + x147 + x150) + 340282366920938463463374607431768211456 * (x135 + (x148 + x144) + x152) + 6277101735386680763835789423207666416102355444464034512896 * (x137 + x141 + x154) + 115792089237316195423570985008687907853269984665640564039457584007913129639936 * (((x156 + (x138 + (x130 + x118))) + x142)) := by rw [H57, H58, H59, H60, H61, H62, H63, H64, H65, H66, H67, H69, H70, H71, H72, H73, H74, H75, H76, Dx157]
  clear H57 H58 H59 H60 H61 H62 H63 H64 H65 H66 H67 H69 H70 H71 H72 H73 H74 H75 H76 Dx157
  omega



/-- four words, the lowest first -/
def val4 (l0 l1 l2 l3 : Int) : Int := l0 + 18446744073709551616 * l1 + 340282366920938463463374607431768211456 * l2 + 6277101735386680763835789423207666416102355444464034512896 * l3
/-- the order of the group -/
def ell : Int := 7237005577332262213973186563042994240857116359379907606001950938285454250989
/-- 2^512 modulo the order -/
def rr : Int := 1627715501170711445284395025044413883736156588369414752970002579683115011841
/-- 2^256 -/
def B4 : Int := 115792089237316195423570985008687907853269984665640564039457584007913129639936

theorem sub_law {s0 s1 s2 s3 t0 t1 t2 t3 b0 b1 b2 b3 y b : Int} (h0 : t0 - 18446744073709551616 * b0 = s0 - 6346243789798364141 - 0) (h1 : t1 - 18446744073709551616 * b1 = s1 - 1503914060200516822 - b0) (h2 : t2 - 18446744073709551616 * b2 = s2 - 0 - b1)
    (h3 : t3 - 18446744073709551616 * b3 = s3 - 1152921504606846976 - b2) (h4 : y - 18446744073709551616 * b = 0 - 0 - b3) (y0 : 0 ≤ y) (y1 : y < 18446744073709551616) (c0 : 0 ≤ b3) (c1 : b3 ≤ 1) (d0 : 0 ≤ b) (d1 : b ≤ 1) :
    val4 t0 t1 t2 t3 = val4 s0 s1 s2 s3 - ell + B4 * b := by
  have hb : b = b3 := by omega
  subst hb
  unfold val4 ell B4
  omega

theorem red_law {s0 s1 s2 s3 t0 t1 t2 t3 b r0 r1 r2 r3 : Int} (h : val4 t0 t1 t2 t3 = val4 s0 s1 s2 s3 - ell + B4 * b) (d0 : 0 ≤ b) (d1 : b ≤ 1) (hs : val4 s0 s1 s2 s3 < 2 * ell) (hp : 0 ≤ val4 s0 s1 s2 s3)
    (t00 : 0 ≤ t0) (t01 : t0 < 18446744073709551616) (t10 : 0 ≤ t1) (t11 : t1 < 18446744073709551616) (t20 : 0 ≤ t2) (t21 : t2 < 18446744073709551616) (t30 : 0 ≤ t3) (t31 : t3 < 18446744073709551616)
    (e0 : r0 = if b = 0 then t0 else s0) (e1 : r1 = if b = 0 then t1 else s1) (e2 : r2 = if b = 0 then t2 else s2) (e3 : r3 = if b = 0 then t3 else s3) :
    0 ≤ val4 r0 r1 r2 r3 ∧ val4 r0 r1 r2 r3 < ell ∧ ∃ k, val4 r0 r1 r2 r3 = val4 s0 s1 s2 s3 + ell * k := by
  have ht : 0 ≤ val4 t0 t1 t2 t3 ∧ val4 t0 t1 t2 t3 < B4 := by unfold val4 B4; omega
  by_cases hb : b = 0
  · rw [if_pos hb] at e0 e1 e2 e3
    subst hb
    rw [e0, e1, e2, e3]
    generalize val4 t0 t1 t2 t3 = t at *
    generalize val4 s0 s1 s2 s3 = s at *
    refine ⟨by omega, by unfold ell B4 at *; omega, -1, by omega⟩
  · rw [if_neg hb] at e0 e1 e2 e3
    have hb1 : b = 1 := by omega
    subst hb1
    rw [e0, e1, e2, e3]
    generalize val4 t0 t1 t2 t3 = t at *
    generalize val4 s0 s1 s2 s3 = s at *
    refine ⟨by omega, by unfold ell B4 at *; omega, 0, by omega⟩

theorem four_law {V0 V1 V2 S A0 A1 A2 A3 m0 m1 m2 m3 : Int} (e0 : 18446744073709551616 * V0 = 0 + A0 + m0 * ell) (e1 : 18446744073709551616 * V1 = V0 + A1 + m1 * ell) (e2 : 18446744073709551616 * V2 = V1 + A2 + m2 * ell)
    (e3 : 18446744073709551616 * S = V2 + A3 + m3 * ell) : B4 * S = val4 A0 A1 A2 A3 + ell * val4 m0 m1 m2 m3 := by
  unfold val4 B4 ell at *
  omega

theorem val4_lt {m0 m1 m2 m3 : Int} (h00 : 0 ≤ m0) (h01 : m0 < 18446744073709551616) (h10 : 0 ≤ m1) (h11 : m1 < 18446744073709551616) (h20 : 0 ≤ m2) (h21 : m2 < 18446744073709551616) (h30 : 0 ≤ m3) (h31 : m3 < 18446744073709551616) : 0 ≤ val4 m0 m1 m2 m3 ∧ val4 m0 m1 m2 m3 < B4 := by
  unfold val4 B4
  omega

theorem from_fin {S a m : Int} (h : B4 * S = a + ell * m) (a0 : 0 ≤ a) (a1 : a < B4) (m0 : 0 ≤ m) (m1 : m < B4) : 0 ≤ S ∧ S < 2 * ell := by
  unfold B4 ell at *
  omega
theorem to_fin {S a m : Int} (h : B4 * S = rr * a + ell * m) (a0 : 0 ≤ a) (a1 : a < B4) (m0 : 0 ≤ m) (m1 : m < B4) : 0 ≤ S ∧ S < 2 * ell := by
  have h1 : 0 ≤ rr * a := by clear h; unfold rr; omega
  have h2 : rr * a ≤ ell * B4 := by clear h; unfold rr ell B4 at *; omega
  have h3 : 0 ≤ ell * m := by clear h; unfold ell; omega
  have h4 : ell * m + 1 ≤ ell * B4 := by clear h; unfold ell B4 at *; omega
  generalize rr * a = p at *
  generalize ell * m = q at *
  unfold B4 ell at *
  omega
theorem to_val (a0 a1 a2 a3 : Int) : val4 (rr * a0) (rr * a1) (rr * a2) (rr * a3) = rr * val4 a0 a1 a2 a3 := by
  unfold val4 rr
  omega

/-- into the Montgomery domain and out again -/
theorem to_from {n M N k1 k2 : Int} (h1 : B4 * M = rr * n + ell * k1) (h2 : B4 * N = M + ell * k2) (n0 : 0 ≤ n) (n1 : n < ell) (N0 : 0 ≤ N) (N1 : N < ell) : N = n := by
  have e : N - n = ell * (6066996205026858523957696384966770032717987752869616155354548954357763152994 * (k1 + B4 * k2 - 1852673427797059126777135760139006525645217721299241702126143248052143860224795 * N) - 1364562133183596549824717792500182766878462056067913576027881806822765902277 * (N - n)) := by
    unfold B4 ell rr at *
    grind
  generalize 6066996205026858523957696384966770032717987752869616155354548954357763152994 * (k1 + B4 * k2 - 1852673427797059126777135760139006525645217721299241702126143248052143860224795 * N) - 1364562133183596549824717792500182766878462056067913576027881806822765902277 * (N - n) = T at e
  clear h1 h2
  unfold ell at *
  omega

end Go.Proofs.YtkibnongmkhbaaaGreatDoor
end

section
namespace Go.Proofs.YtkibnongmkhbaaaGreatDoor
namespace Ed

/-! square roots -/

/-- a power of an element that is not zero to half of what Fermat says is 1 or -1 -/
theorem sq_half {s : F} (h : s ≠ 0) : fpow s ((P - 1) / 2) = 1 ∨ fpow s ((P - 1) / 2) = -1 := by
  have h1 := fermat h
  have e : P - 1 = (P - 1) / 2 + (P - 1) / 2 := by rw [P_eq]
  rw [e, fpow_add] at h1
  exact sq_eq (by rw [h1]; grind)

theorem fpow_two (s : F) : fpow s 2 = s * s := by show (1 * s) * s = s * s; grind
theorem fpow_one (s : F) : fpow s 1 = s := by show 1 * s = s; grind

theorem I_pow : fpow (mk 2) ((P - 1) / 4) = I := by
  apply Fin.ext
  rw [fpow_val, ← pw_eq 256 _ _ _ (by rw [P_eq]; decide)]
  unfold I
  rw [mk_val, mk_val, P_eq]
  decide +kernel

theorem I_ne_zero : I ≠ 0 := by
  intro h
  have := I_sq
  rw [h] at this
  exact one_ne_zero (by grind)
theorem one_I : (1 : F) + I ≠ 0 := by
  intro h
  have := I_sq
  exact two_ne_zero (by grind)

/-- the root that is tried first, of a square: right, or right up to I -/
theorem root1 {a s : F} (h : s * s = a) : fpow a 7237005577332262213973186563042994240829374041602535252466099000494570602494 * fpow a 7237005577332262213973186563042994240829374041602535252466099000494570602494 = a ∨ fpow a 7237005577332262213973186563042994240829374041602535252466099000494570602494 * fpow a 7237005577332262213973186563042994240829374041602535252466099000494570602494 = -a := by
  by_cases hs : s = 0
  · left
    subst hs
    have : a = 0 := by grind
    subst this
    rw [zero_fpow _ (by decide)]; grind
  · rw [← fpow_add, show (7237005577332262213973186563042994240829374041602535252466099000494570602494 + 7237005577332262213973186563042994240829374041602535252466099000494570602494 : Nat) = 14474011154664524427946373126085988481658748083205070504932198000989141204988 from by decide]
    have e : fpow a 14474011154664524427946373126085988481658748083205070504932198000989141204988 = fpow s ((P - 1) / 2) * a := by
      rw [← h, ← fpow_two, ← fpow_mul, show 2 * 14474011154664524427946373126085988481658748083205070504932198000989141204988 = (P - 1) / 2 + 2 from by rw [P_eq], fpow_add]
    rw [e]
    rcases sq_half hs with h1 | h1
    · left; rw [h1]; grind
    · right; rw [h1]; grind

/-- v is not zero -/
theorem vNe (y : F) : y * y * D + 1 ≠ 0 := by
  intro h
  have h1 : I * I = D * (y * y) := by rw [I_sq]; grind
  have h2 := D_nsq2 h1
  subst h2
  exact one_ne_zero (by grind)

/-- the root that the package reckons -/
theorem sroot {u v s : F} (h : v * (s * s) = u) (hv : v ≠ 0) (R : F) (hR : R = u * (v * v * v) * fpow (u * (v * v * v) * (v * v * (v * v))) 7237005577332262213973186563042994240829374041602535252466099000494570602493) :
    v * (R * R) = u ∨ v * (R * R) = -u := by
  by_cases hs : s = 0
  · left
    subst hs
    have : u = 0 := by grind
    subst this
    have : R = 0 := by rw [hR]; grind
    rw [this]; grind
  · have ht : v * v * (v * v) * s ≠ 0 := mul_ne_zero (mul_ne_zero (mul_ne_zero hv hv) (mul_ne_zero hv hv)) hs
    obtain ⟨t, et⟩ : ∃ t, t = v * v * (v * v) * s := ⟨_, rfl⟩
    rw [← et] at ht
    have e1 : u * (v * v * v) * (v * v * (v * v)) = t * t := by rw [et, ← h]; grind
    rw [e1] at hR
    obtain ⟨q, eq⟩ : ∃ q, q = fpow (t * t) 7237005577332262213973186563042994240829374041602535252466099000494570602493 := ⟨_, rfl⟩
    rw [← eq] at hR
    have e2 : q * q * (t * t) = fpow t ((P - 1) / 2) := by
      rw [eq, ← fpow_add, ← fpow_two t, ← fpow_mul, ← fpow_add, show 2 * (7237005577332262213973186563042994240829374041602535252466099000494570602493 + 7237005577332262213973186563042994240829374041602535252466099000494570602493) + 2 = (P - 1) / 2 from by rw [P_eq]]
    have e3 : v * (R * R) = u * (q * q * (t * t)) := by rw [hR, ← e1]; grind
    rw [e3, e2]
    rcases sq_half ht with h1 | h1
    · left; rw [h1]; grind
    · right; rw [h1]; grind

/-- the absolute value, by its parity -/
theorem neg_val {x : F} (h : x ≠ 0) : (-x : F).val = P - x.val := by
  have h0 : x.val ≠ 0 := fun e => h (Fin.ext e)
  rw [Fin.val_neg, if_neg h]
theorem P_odd : P % 2 = 1 := by rw [P_eq]
theorem neg_par {x : F} (h : x ≠ 0) : (-x : F).val % 2 = 1 - x.val % 2 := by
  have := P_odd
  have := x.isLt
  rw [neg_val h]; omega
theorem root_unique {x y : F} (h : x * x = y * y) (hx : x.val % 2 = 0) (hy : y.val % 2 = 0) : x = y := by
  rcases sq_eq h with h1 | h1
  · exact h1
  · by_cases h0 : y = 0
    · subst h0; rw [h1]; grind
    · have := neg_par h0
      rw [← h1] at this
      omega
theorem eq_of_val_neg {x : F} : (-x) * (-x) = x * x := by grind

end Ed
end Go.Proofs.YtkibnongmkhbaaaGreatDoor
end
