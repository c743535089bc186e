/-
  The plain mathematics of base-58 numerals: no Go in sight.
-/
namespace Go.Proofs.Qxb6601650a
set_option linter.unusedVariables false

/-- The value of a numeral in base b, least significant digit first. -/
def val (b : Nat) : List Nat → Nat
  | [] => 0
  | d :: ds => d + b * val b ds

theorem val_append (b : Nat) (xs ys : List Nat) : val b (xs ++ ys) = val b xs + b ^ xs.length * val b ys := by
  induction xs with
  | nil => simp [val]
  | cons x xs ih =>
    simp only [List.cons_append, val, ih, List.length_cons, Nat.pow_succ]
    rw [Nat.mul_add, ← Nat.mul_assoc, Nat.mul_comm b (b ^ xs.length), Nat.add_assoc]

theorem val_snoc (b : Nat) (xs : List Nat) (d : Nat) : val b (xs ++ [d]) = val b xs + b ^ xs.length * d := by
  rw [val_append]; simp [val]

theorem val_lt (b : Nat) (hb : 0 < b) (xs : List Nat) (h : ∀ d ∈ xs, d < b) : val b xs < b ^ xs.length := by
  induction xs with
  | nil => simp [val]
  | cons x xs ih =>
    have h1 := h x (by simp)
    have h2 := ih (fun d hd => h d (by simp [hd]))
    simp only [val, List.length_cons, Nat.pow_succ]
    have h3 : b * (val b xs + 1) ≤ b * b ^ xs.length := Nat.mul_le_mul_left b h2
    rw [Nat.mul_add, Nat.mul_one] at h3
    rw [Nat.mul_comm (b ^ xs.length) b]
    omega

/-- No superfluous digit at the top, said by the value. -/
def Norm (b : Nat) (xs : List Nat) : Prop := xs = [] ∨ b ^ (xs.length - 1) ≤ val b xs

theorem val_inj (b : Nat) (hb : 0 < b) : ∀ (xs ys : List Nat), xs.length = ys.length → (∀ d ∈ xs, d < b) → (∀ d ∈ ys, d < b) → val b xs = val b ys → xs = ys
  | [], [], _, _, _, _ => rfl
  | [], _ :: _, h, _, _, _ => by simp at h
  | _ :: _, [], h, _, _, _ => by simp at h
  | x :: xs, y :: ys, hl, h1, h2, hv => by
    have hx := h1 x (by simp)
    have hy := h2 y (by simp)
    simp only [val] at hv
    have e1 : x = y := by
      have ha : (x + b * val b xs) % b = x := by rw [Nat.add_mul_mod_self_left, Nat.mod_eq_of_lt hx]
      have hb' : (y + b * val b ys) % b = y := by rw [Nat.add_mul_mod_self_left, Nat.mod_eq_of_lt hy]
      rw [← ha, ← hb', hv]
    subst e1
    have e2 : val b xs = val b ys := Nat.eq_of_mul_eq_mul_left hb (by omega)
    rw [val_inj b hb xs ys (by simpa using hl) (fun d hd => h1 d (by simp [hd])) (fun d hd => h2 d (by simp [hd])) e2]

theorem pow_lt_of {b i j : Nat} (hb : 2 ≤ b) (h : b ^ i < b ^ j) : i < j := (Nat.pow_lt_pow_iff_right (by omega)).1 h

/-- A normal numeral is determined by its value. -/
theorem norm_unique (b : Nat) (hb : 2 ≤ b) (xs ys : List Nat) (h1 : ∀ d ∈ xs, d < b) (h2 : ∀ d ∈ ys, d < b) (n1 : Norm b xs) (n2 : Norm b ys) (hv : val b xs = val b ys) : xs = ys := by
  have l1 := val_lt b (by omega) xs h1
  have l2 := val_lt b (by omega) ys h2
  have pos : ∀ k, 1 ≤ b ^ k := fun k => Nat.one_le_pow _ _ (by omega)
  refine val_inj b (by omega) xs ys ?_ h1 h2 hv
  rcases n1 with rfl | n1
  · rcases n2 with rfl | n2
    · rfl
    · have := pos (ys.length - 1); simp [val] at hv; omega
  · rcases n2 with rfl | n2
    · have := pos (xs.length - 1); simp [val] at hv; omega
    · by_cases hx : xs.length = 0
      · have : xs = [] := List.eq_nil_of_length_eq_zero hx
        subst this
        have := pos (ys.length - 1); simp [val] at hv; omega
      · by_cases hy : ys.length = 0
        · have : ys = [] := List.eq_nil_of_length_eq_zero hy
          subst this
          have := pos (xs.length - 1); simp [val] at hv; omega
        · have a1 : xs.length - 1 < ys.length := pow_lt_of hb (by omega)
          have a2 : ys.length - 1 < xs.length := pow_lt_of hb (by omega)
          omega

/-- The value of bytes s, s+1, .., s+k-1, most significant first. -/
def be (b : Nat) (z : Nat → Nat) (s : Nat) : Nat → Nat
  | 0 => 0
  | k + 1 => be b z s k * b + z (s + k)
theorem be_succ (b : Nat) (z : Nat → Nat) (s k : Nat) : be b z s (k + 1) = be b z s k * b + z (s + k) := rfl

theorem be_lt (b : Nat) (z : Nat → Nat) (s : Nat) (k : Nat) (h : ∀ i, i < k → z (s + i) < b) : be b z s k < b ^ k := by
  induction k with
  | zero => simp [be]
  | succ k ih =>
    rw [be_succ, Nat.pow_succ]
    have h1 := ih (fun i hi => h i (by omega))
    have h2 := h k (by omega)
    have h3 : (be b z s k + 1) * b ≤ b ^ k * b := Nat.mul_le_mul_right b h1
    rw [Nat.add_mul, Nat.one_mul] at h3
    omega

theorem be_ge (b : Nat) (z : Nat → Nat) (s : Nat) (k : Nat) (h : z s ≠ 0) : b ^ k ≤ be b z s (k + 1) := by
  induction k with
  | zero => simp [be]; omega
  | succ k ih =>
    rw [be_succ, Nat.pow_succ]
    exact Nat.le_trans (Nat.mul_le_mul_right b ih) (Nat.le_add_right _ _)

/-- As a list, least significant first. -/
def beL (z : Nat → Nat) (s k : Nat) : List Nat := (List.range k).reverse.map fun i => z (s + i)
theorem beL_succ (z : Nat → Nat) (s k : Nat) : beL z s (k + 1) = z (s + k) :: beL z s k := by
  unfold beL; rw [List.range_succ, List.reverse_append]; rfl
theorem val_beL (b : Nat) (z : Nat → Nat) (s k : Nat) : val b (beL z s k) = be b z s k := by
  induction k with
  | zero => rfl
  | succ k ih => rw [beL_succ, val, ih, be_succ]; rw [Nat.mul_comm]; omega
theorem beL_length (z : Nat → Nat) (s k : Nat) : (beL z s k).length = k := by simp [beL]

theorem pow_bound (n : Nat) : 256 ^ n ≤ 58 ^ (2 * n) := by
  rw [Nat.pow_mul]
  exact Nat.pow_le_pow_left (by decide) n

/-- At most two digits a byte. -/
theorem digits_le (xs : List Nat) (n : Nat) (h : Norm 58 xs) (hv : val 58 xs < 256 ^ n) : xs.length ≤ 2 * n := by
  rcases h with rfl | h
  · simp
  · have h1 := pow_bound n
    have h2 : xs.length - 1 < 2 * n := pow_lt_of (b := 58) (by decide) (by omega)
    omega
end Go.Proofs.Qxb6601650a
