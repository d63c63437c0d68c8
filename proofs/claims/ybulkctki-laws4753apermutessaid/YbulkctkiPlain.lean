namespace Go.Proofs.Ybulkctki.Plain

/-- the k-th turn -/
def turn (f : Nat → Nat) : Nat → Nat → Nat
  | 0, x => x
  | k + 1, x => f (turn f k x)

theorem turn_succ (f : Nat → Nat) (k x : Nat) : turn f (k + 1) x = f (turn f k x) := rfl

theorem turn_lt {f : Nat → Nat} {N : Nat} (hf : ∀ x, x < N → f x < N) (k x : Nat) (hx : x < N) : turn f k x < N := by
  induction k with
  | zero => exact hx
  | succ k ih => exact hf _ ih

theorem turn_add (f : Nat → Nat) (i j x : Nat) : turn f (i + j) x = turn f i (turn f j x) := by
  induction i with
  | zero => rw [Nat.zero_add]; rfl
  | succ i ih => rw [Nat.succ_add, turn_succ, ih]; rfl

theorem turn_inj {f : Nat → Nat} {N : Nat} (hf : ∀ x, x < N → f x < N) (hi : ∀ x y, x < N → y < N → f x = f y → x = y) (k x y : Nat) (hx : x < N) (hy : y < N) (h : turn f k x = turn f k y) : x = y := by
  induction k with
  | zero => exact h
  | succ k ih => exact ih (hi _ _ (turn_lt hf k x hx) (turn_lt hf k y hy) h)

/-- N + 1 numbers below N: two are one -/
theorem pigeon (N : Nat) (g : Nat → Nat) (h : ∀ i, i ≤ N → g i < N) : ∃ i j, i < j ∧ j ≤ N ∧ g i = g j := by
  induction N generalizing g with
  | zero => exact absurd (h 0 (Nat.le_refl _)) (Nat.not_lt_zero _)
  | succ N ih =>
    by_cases hc : ∃ i, i ≤ N ∧ g i = g (N + 1)
    · obtain ⟨i, hi, e⟩ := hc
      exact ⟨i, N + 1, by omega, Nat.le_refl _, e⟩
    · have hne : ∀ i, i ≤ N → g i ≠ g (N + 1) := fun i hi e => hc ⟨i, hi, e⟩
      obtain ⟨i, j, hij, hj, e⟩ := ih (fun i => if g i < g (N + 1) then g i else g i - 1) (fun i hi => by
        have h1 := h i (by omega)
        have h2 := h (N + 1) (Nat.le_refl _)
        have h3 := hne i hi
        show (if g i < g (N + 1) then g i else g i - 1) < N
        split <;> omega)
      refine ⟨i, j, hij, by omega, ?_⟩
      have h1 := hne i (by omega)
      have h2 := hne j hj
      have e' : (if g i < g (N + 1) then g i else g i - 1) = (if g j < g (N + 1) then g j else g j - 1) := e
      revert e'
      split <;> split <;> omega

/-- a turn comes back -/
theorem comes_back {f : Nat → Nat} {N : Nat} (hf : ∀ x, x < N → f x < N) (hi : ∀ x y, x < N → y < N → f x = f y → x = y) (x : Nat) (hx : x < N) : ∃ k, turn f (k + 1) x = x := by
  obtain ⟨i, j, hij, hj, e⟩ := pigeon N (fun i => turn f i x) (fun i _ => turn_lt hf i x hx)
  obtain ⟨d, rfl⟩ : ∃ d, j = i + (d + 1) := ⟨j - i - 1, by omega⟩
  have e' : turn f i x = turn f (i + (d + 1)) x := e
  rw [turn_add] at e'
  exact ⟨d, (turn_inj hf hi i _ _ hx (turn_lt hf _ x hx) e').symm⟩

/-- the first turn that lands below b -/
theorem first_back {f : Nat → Nat} {N b : Nat} (hf : ∀ x, x < N → f x < N) (hi : ∀ x y, x < N → y < N → f x = f y → x = y) (hb : b ≤ N) (x : Nat) (hx : x < b) :
    ∃ k, turn f (k + 1) x < b ∧ ∀ j, j < k → b ≤ turn f (j + 1) x := by
  obtain ⟨k, hk⟩ := comes_back hf hi x (by omega)
  have hk' : turn f (k + 1) x < b := by rw [hk]; exact hx
  clear hk
  induction k using Nat.strongRecOn with
  | ind k ih =>
    by_cases hc : ∃ j, j < k ∧ turn f (j + 1) x < b
    · obtain ⟨j, hj, h⟩ := hc
      exact ih j hj h
    · exact ⟨k, hk', fun j hj => by
        by_cases h : turn f (j + 1) x < b
        · exact absurd ⟨j, hj, h⟩ hc
        · omega⟩

/-- the first turns' landings are apart -/
theorem back_inj {f : Nat → Nat} {N b : Nat} (hf : ∀ x, x < N → f x < N) (hi : ∀ x y, x < N → y < N → f x = f y → x = y) (hb : b ≤ N) (x y : Nat) (hx : x < b) (hy : y < b)
    (k l : Nat) (hk : ∀ j, j < k → b ≤ turn f (j + 1) x) (hl : ∀ j, j < l → b ≤ turn f (j + 1) y) (e : turn f (k + 1) x = turn f (l + 1) y) : x = y := by
  have main : ∀ (x y : Nat) (hx : x < b) (hy : y < b) (k l : Nat) (_ : ∀ j, j < l → b ≤ turn f (j + 1) y) (_ : turn f (k + 1) x = turn f (l + 1) y), k ≤ l → x = y := by
    intro x y hx hy k l hl e hkl
    obtain ⟨d, rfl⟩ : ∃ d, l = k + d := ⟨l - k, by omega⟩
    rw [show k + d + 1 = (k + 1) + d by omega, turn_add f (k + 1) d y] at e
    have e2 := turn_inj hf hi (k + 1) x (turn f d y) (by omega) (turn_lt hf d y (by omega)) e
    cases d with
    | zero => exact e2
    | succ d =>
      have := hl d (by omega)
      omega
  by_cases h : k ≤ l
  · exact main x y hx hy k l hl e h
  · exact (main y x hy hx l k hk e.symm (by omega)).symm

/-! ### the turn itself -/
def mix (m s key x : Nat) : Nat :=
  let a1 := (x ^^^ key) % 2 ^ m
  let a2 := a1 * ((key / 65536) ||| 1) % 2 ^ m
  let a3 := a2 ^^^ (a2 / 2 ^ s)
  let a4 := a3 * ((key / 4294967296) ||| 1) % 2 ^ m
  let a5 := a4 ^^^ (a4 / 2 ^ s)
  (a5 ^^^ (key / 281474976710656)) % 2 ^ m

theorem xor_cancel (x y k : Nat) (h : x ^^^ k = y ^^^ k) : x = y := by
  have := congrArg (· ^^^ k) h
  simpa [Nat.xor_assoc] using this

theorem xormod_inj (m k x y : Nat) (hx : x < 2 ^ m) (hy : y < 2 ^ m) (h : (x ^^^ k) % 2 ^ m = (y ^^^ k) % 2 ^ m) : x = y := by
  rw [Nat.xor_mod_two_pow, Nat.xor_mod_two_pow, Nat.mod_eq_of_lt hx, Nat.mod_eq_of_lt hy] at h
  exact xor_cancel _ _ _ h

theorem odd_or_one (k : Nat) : (k ||| 1) % 2 = 1 := by
  rw [Nat.or_mod_two_eq_one.2]
  right; rfl

theorem mulmod_inj (m c x y : Nat) (hc : c % 2 = 1) (hx : x < 2 ^ m) (hy : y < 2 ^ m) (h : x * c % 2 ^ m = y * c % 2 ^ m) : x = y := by
  have main : ∀ x y : Nat, x ≤ y → y < 2 ^ m → x * c % 2 ^ m = y * c % 2 ^ m → x = y := by
    intro x y hxy hy h
    have hd : 2 ^ m ∣ y * c - x * c := Nat.dvd_of_mod_eq_zero (Nat.sub_mod_eq_zero_of_mod_eq h.symm)
    rw [← Nat.sub_mul] at hd
    have hco : Nat.Coprime (2 ^ m) c := Nat.Coprime.pow_left m (by
      show Nat.gcd 2 c = 1
      rw [Nat.gcd_rec, hc]; rfl)
    have hd2 := hco.dvd_of_dvd_mul_right hd
    have := Nat.eq_zero_of_dvd_of_lt hd2 (by omega)
    omega
  by_cases hxy : x ≤ y
  · exact main x y hxy hy h
  · exact (main y x (by omega) hx h.symm).symm

theorem xorshift_inj (s x y : Nat) (hs : 0 < s) (h : x ^^^ (x / 2 ^ s) = y ^^^ (y / 2 ^ s)) : x = y := by
  have e : (x ^^^ y) = (x ^^^ y) / 2 ^ s := by
    rw [← Nat.shiftRight_eq_div_pow, Nat.shiftRight_xor_distrib, Nat.shiftRight_eq_div_pow, Nat.shiftRight_eq_div_pow]
    have h2 : (x ^^^ (x / 2 ^ s)) ^^^ (y ^^^ (x / 2 ^ s)) = (y ^^^ (y / 2 ^ s)) ^^^ (y ^^^ (x / 2 ^ s)) := by rw [h]
    have h3 : (x ^^^ (x / 2 ^ s)) ^^^ (y ^^^ (x / 2 ^ s)) = x ^^^ y := by
      rw [Nat.xor_comm y, Nat.xor_assoc, ← Nat.xor_assoc (x / 2 ^ s), Nat.xor_self, Nat.zero_xor]
    have h4 : (y ^^^ (y / 2 ^ s)) ^^^ (y ^^^ (x / 2 ^ s)) = x / 2 ^ s ^^^ y / 2 ^ s := by
      rw [Nat.xor_comm y (y / 2 ^ s), Nat.xor_assoc, ← Nat.xor_assoc y, Nat.xor_self, Nat.zero_xor, Nat.xor_comm]
    rw [h3, h4] at h2
    exact h2
  have hp : 2 ≤ 2 ^ s := Nat.le_self_pow (by omega) 2
  have : x ^^^ y = 0 := by
    by_cases hz : x ^^^ y = 0
    · exact hz
    · have := Nat.div_lt_self (Nat.pos_of_ne_zero hz) hp
      omega
  have h0 : (x ^^^ y) ^^^ y = 0 ^^^ y := by rw [this]
  rw [Nat.xor_assoc, Nat.xor_self, Nat.xor_zero, Nat.zero_xor] at h0
  exact h0

theorem xorshift_lt (m s x : Nat) (hx : x < 2 ^ m) : x ^^^ (x / 2 ^ s) < 2 ^ m :=
  Nat.xor_lt_two_pow hx (Nat.lt_of_le_of_lt (Nat.div_le_self _ _) hx)

theorem mix_lt (m s key x : Nat) : mix m s key x < 2 ^ m := Nat.mod_lt _ (Nat.two_pow_pos m)

theorem mix_inj (m s key x y : Nat) (hs : m = 0 ∨ 0 < s) (hx : x < 2 ^ m) (hy : y < 2 ^ m) (h : mix m s key x = mix m s key y) : x = y := by
  rcases hs with rfl | hs
  · simp at hx hy; omega
  have hp := Nat.two_pow_pos m
  unfold mix at h
  have l1 : ∀ z, (z ^^^ key) % 2 ^ m < 2 ^ m := fun z => Nat.mod_lt _ hp
  have l2 : ∀ z, z * ((key / 65536) ||| 1) % 2 ^ m < 2 ^ m := fun z => Nat.mod_lt _ hp
  have l3 := xorshift_lt m s _ (l2 ((x ^^^ key) % 2 ^ m))
  have l3' := xorshift_lt m s _ (l2 ((y ^^^ key) % 2 ^ m))
  have l4 : ∀ z, z * ((key / 4294967296) ||| 1) % 2 ^ m < 2 ^ m := fun z => Nat.mod_lt _ hp
  have h5 := xormod_inj m _ _ _ (xorshift_lt m s _ (l4 _)) (xorshift_lt m s _ (l4 _)) h
  have h4 := xorshift_inj s _ _ hs h5
  have h3 := mulmod_inj m _ _ _ (odd_or_one _) l3 l3' h4
  have h2 := xorshift_inj s _ _ hs h3
  have h1 := mulmod_inj m _ _ _ (odd_or_one _) (l1 _) (l1 _) h2
  exact xormod_inj m _ _ _ hx hy h1

/-- a small key: the multipliers are 1 -/
theorem mix_small (m s key x : Nat) (hk : key < 65536) (hs : m ≤ s + s) (hx : x < 2 ^ m) : mix m s key x = x ^^^ (key % 2 ^ m) := by
  have hp := Nat.two_pow_pos m
  have k1 : key / 65536 = 0 := Nat.div_eq_of_lt hk
  have k2 : key / 4294967296 = 0 := Nat.div_eq_of_lt (by omega)
  have k3 : key / 281474976710656 = 0 := Nat.div_eq_of_lt (by omega)
  have hz : x ^^^ (key % 2 ^ m) < 2 ^ m := Nat.xor_lt_two_pow hx (Nat.mod_lt _ hp)
  have e1 : (x ^^^ key) % 2 ^ m = x ^^^ (key % 2 ^ m) := by rw [Nat.xor_mod_two_pow, Nat.mod_eq_of_lt hx]
  unfold mix
  simp only [k1, k2, k3, Nat.zero_or, Nat.mul_one, Nat.xor_zero, e1]
  generalize x ^^^ (key % 2 ^ m) = z at hz
  rw [Nat.mod_eq_of_lt hz, Nat.mod_eq_of_lt (xorshift_lt m s z hz)]
  have hzz : z / 2 ^ s / 2 ^ s = 0 := by
    rw [Nat.div_div_eq_div_mul, ← Nat.pow_add]
    exact Nat.div_eq_of_lt (Nat.lt_of_lt_of_le hz (Nat.pow_le_pow_right (by omega) hs))
  have e2 : (z ^^^ z / 2 ^ s) / 2 ^ s = z / 2 ^ s := by
    rw [← Nat.shiftRight_eq_div_pow (z ^^^ z / 2 ^ s), Nat.shiftRight_xor_distrib, Nat.shiftRight_eq_div_pow, Nat.shiftRight_eq_div_pow, hzz, Nat.xor_zero]
  rw [e2, Nat.xor_assoc, Nat.xor_self, Nat.xor_zero, Nat.mod_eq_of_lt hz]

end Go.Proofs.Ybulkctki.Plain
