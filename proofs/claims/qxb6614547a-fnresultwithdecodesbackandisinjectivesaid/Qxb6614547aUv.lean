namespace Go.Proofs.Qxb6614547a

def uvD : Nat → Nat → List Nat
  | 0, n => [n]
  | f + 1, n => if n < 128 then [n] else (n % 128 + 128) :: uvD f (n / 128)
def uv (n : Nat) : List Nat := uvD 9 n

def val : List Nat → Nat
  | [] => 0
  | d :: r => d % 128 + 128 * val r

theorem uvD_small (f n : Nat) (h : n < 128) : uvD f n = [n] := by
  cases f with
  | zero => rfl
  | succ f => simp [uvD, h]
theorem uvD_big (f n : Nat) (h : ¬ n < 128) : uvD (f + 1) n = (n % 128 + 128) :: uvD f (n / 128) := by simp [uvD, h]
theorem div_pow (f n : Nat) (h : n < 128 ^ (f + 1 + 1)) : n / 128 < 128 ^ (f + 1) := by
  rw [Nat.div_lt_iff_lt_mul (by omega)]
  rw [Nat.pow_succ] at h
  exact h

theorem val_uvD (f : Nat) : ∀ n, n < 128 ^ (f + 1) → val (uvD f n) = n := by
  induction f with
  | zero => intro n h; simp at h; simp [uvD, val]; omega
  | succ f ih =>
    intro n h
    by_cases h1 : n < 128
    · rw [uvD_small _ _ h1]; simp [val]; omega
    · rw [uvD_big _ _ h1]
      simp only [val]
      rw [ih _ (div_pow f n h)]
      omega
theorem pow_bd : (2 : Nat) ^ 64 ≤ 128 ^ 10 := by decide
theorem val_uv (n : Nat) (h : n < 2 ^ 64) : val (uv n) = n := val_uvD 9 n (Nat.lt_of_lt_of_le h pow_bd)

theorem uvD_len (f : Nat) : ∀ n, 1 ≤ (uvD f n).length ∧ (uvD f n).length ≤ f + 1 := by
  induction f with
  | zero => intro n; simp [uvD]
  | succ f ih =>
    intro n
    by_cases h1 : n < 128
    · rw [uvD_small _ _ h1]; simp
    · rw [uvD_big _ _ h1]; have := ih (n / 128); simp; omega
theorem uvD_byte (f : Nat) : ∀ n, n < 128 ^ (f + 1) → ∀ d ∈ uvD f n, d < 256 := by
  induction f with
  | zero => intro n h d hd; simp [uvD] at hd h; omega
  | succ f ih =>
    intro n h d hd
    by_cases h1 : n < 128
    · rw [uvD_small _ _ h1] at hd; simp at hd; omega
    · rw [uvD_big _ _ h1] at hd
      rcases List.mem_cons.1 hd with hd | hd
      · omega
      · exact ih _ (div_pow f n h) d hd

/-- the length: the fewest digits -/
theorem uvD_short (f : Nat) : ∀ n, n < 128 ^ (f + 1) → n < 128 ^ (uvD f n).length ∧ ((uvD f n).length = 1 ∨ 128 ^ ((uvD f n).length - 1) ≤ n) := by
  induction f with
  | zero => intro n h; simp [uvD] at h ⊢; omega
  | succ f ih =>
    intro n h
    by_cases h1 : n < 128
    · rw [uvD_small _ _ h1]; simp; omega
    · rw [uvD_big _ _ h1]
      have hi := ih _ (div_pow f n h)
      have hl := uvD_len f (n / 128)
      simp only [List.length_cons]
      generalize (uvD f (n / 128)).length = L at hi hl ⊢
      obtain ⟨a, b⟩ := hi
      constructor
      · rw [Nat.pow_succ]; rw [Nat.div_lt_iff_lt_mul (by omega)] at a; exact a
      · right
        rcases b with b | b
        · subst b; simp; omega
        · obtain ⟨M, rfl⟩ : ∃ M, L = M + 1 := ⟨L - 1, by omega⟩
          simp only [Nat.add_sub_cancel] at b ⊢
          rw [Nat.pow_succ]
          have := Nat.mul_le_of_le_div 128 _ _ b
          exact this

/-- no code is the head of another's -/
theorem uvD_prefix (f : Nat) : ∀ (g n m : Nat), n < 128 ^ (f + 1) → m < 128 ^ (g + 1) → uvD f n <+: uvD g m → n = m := by
  induction f with
  | zero =>
    intro g n m hn hm h
    have hn' : n < 128 := by simpa using hn
    by_cases h1 : m < 128
    · rw [uvD_small _ _ h1, uvD_small _ _ hn'] at h
      simpa using h
    · cases g with
      | zero => simp at hm; omega
      | succ g =>
        rw [uvD_big _ _ h1, uvD_small _ _ hn'] at h
        simp [List.cons_prefix_cons] at h
        omega
  | succ f ih =>
    intro g n m hn hm h
    by_cases h0 : n < 128
    · by_cases h1 : m < 128
      · rw [uvD_small _ _ h1, uvD_small _ _ h0] at h
        simpa using h
      · cases g with
        | zero => simp at hm; omega
        | succ g =>
          rw [uvD_big _ _ h1, uvD_small _ _ h0] at h
          simp [List.cons_prefix_cons] at h
          omega
    · by_cases h1 : m < 128
      · rw [uvD_small _ _ h1, uvD_big _ _ h0] at h
        have := uvD_len f (n / 128)
        have hl := h.length_le
        simp at hl
        rw [hl] at this
        simp at this
      · cases g with
        | zero => simp at hm; omega
        | succ g =>
          rw [uvD_big _ _ h1, uvD_big _ _ h0, List.cons_prefix_cons] at h
          have := ih g (n / 128) (m / 128) (div_pow f n hn) (div_pow g m hm) h.2
          omega
theorem uv_prefix (n m : Nat) (hn : n < 2 ^ 64) (hm : m < 2 ^ 64) (h : uv n <+: uv m) : n = m :=
  uvD_prefix 9 9 n m (Nat.lt_of_lt_of_le hn pow_bd) (Nat.lt_of_lt_of_le hm pow_bd) h
theorem uv_inj (n m : Nat) (hn : n < 2 ^ 64) (hm : m < 2 ^ 64) (h : uv n = uv m) : n = m := by rw [← val_uv n hn, ← val_uv m hm, h]
theorem uv_len (n : Nat) : 1 ≤ (uv n).length ∧ (uv n).length ≤ 10 := uvD_len 9 n
theorem uv_byte (n : Nat) (hn : n < 2 ^ 64) : ∀ d ∈ uv n, d < 256 := uvD_byte 9 n (Nat.lt_of_lt_of_le hn pow_bd)
theorem uv_short (n : Nat) (hn : n < 2 ^ 64) : n < 128 ^ (uv n).length ∧ ((uv n).length = 1 ∨ 128 ^ ((uv n).length - 1) ≤ n) := uvD_short 9 n (Nat.lt_of_lt_of_le hn pow_bd)
theorem uv_mono (n m : Nat) (hn : n < 2 ^ 64) (hm : m < 2 ^ 64) (h : n ≤ m) : (uv n).length ≤ (uv m).length := by
  have a := uv_short n hn
  have b := uv_short m hm
  have la := uv_len n
  have lb := uv_len m
  rcases a.2 with a2 | a2
  · omega
  · rcases Nat.lt_or_ge (uv m).length (uv n).length with h1 | h1
    · have h2 : 128 ^ (uv m).length ≤ 128 ^ ((uv n).length - 1) := Nat.pow_le_pow_right (by omega) (by omega)
      omega
    · exact h1
end Go.Proofs.Qxb6614547a
