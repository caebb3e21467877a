/-
  THE PLAIN LAW: numbers as words of 64 bits, least first. No Go in sight.
-/
namespace Go.Proofs.Ybulkbhoa

/-- The first n words of f, as a number. -/
def val (f : Nat → Int) : Nat → Int
  | 0 => 0
  | n + 1 => val f n + f n * (18446744073709551616 : Int) ^ n

def Words (f : Nat → Int) (n : Nat) : Prop := ∀ j, j < n → 0 ≤ f j ∧ f j < 18446744073709551616

def upd (f : Nat → Int) (i : Nat) (v : Int) : Nat → Int := fun j => if j = i then v else f j

theorem upd_same (f : Nat → Int) (i : Nat) (v : Int) : upd f i v i = v := by simp [upd]
theorem upd_other (f : Nat → Int) (i j : Nat) (v : Int) (h : j ≠ i) : upd f i v j = f j := by simp [upd, h]

theorem Words.upd {f : Nat → Int} {n : Nat} (h : Words f n) (i : Nat) (v : Int) (h0 : 0 ≤ v) (h1 : v < 18446744073709551616) : Words (upd f i v) n := by
  intro j hj
  unfold Go.Proofs.Ybulkbhoa.upd
  split
  · exact ⟨h0, h1⟩
  · exact h j hj

theorem Words.le {f : Nat → Int} {n m : Nat} (h : Words f n) (hm : m ≤ n) : Words f m := fun j hj => h j (by omega)

theorem pow_pos' (n : Nat) : 0 < (18446744073709551616 : Int) ^ n := Int.pow_pos (by decide)

theorem val_congr {f g : Nat → Int} {n : Nat} (h : ∀ j, j < n → f j = g j) : val f n = val g n := by
  induction n with
  | zero => rfl
  | succ n ih => simp only [val]; rw [ih (fun j hj => h j (by omega)), h n (by omega)]

theorem val_upd (f : Nat → Int) (i n : Nat) (v : Int) (h : i < n) : val (upd f i v) n = val f n + (v - f i) * (18446744073709551616 : Int) ^ i := by
  induction n with
  | zero => omega
  | succ n ih =>
    simp only [val]
    rcases Nat.lt_or_ge i n with h1 | h1
    · rw [ih h1, upd_other _ _ _ _ (by omega)]; grind
    · obtain rfl : i = n := by omega
      rw [upd_same, val_congr (f := upd f i v) (g := f) (fun j hj => upd_other _ _ _ _ (by omega))]; grind

theorem val_upd_past (f : Nat → Int) (i n : Nat) (v : Int) (h : n ≤ i) : val (upd f i v) n = val f n :=
  val_congr fun j hj => upd_other _ _ _ _ (by omega)

theorem val_nonneg {f : Nat → Int} {n : Nat} (h : Words f n) : 0 ≤ val f n := by
  induction n with
  | zero => simp [val]
  | succ n ih =>
    simp only [val]
    have h1 := ih (h.le (by omega))
    have h2 := Int.mul_nonneg (h n (by omega)).1 (Int.le_of_lt (pow_pos' n))
    omega

theorem val_lt {f : Nat → Int} {n : Nat} (h : Words f n) : val f n < (18446744073709551616 : Int) ^ n := by
  induction n with
  | zero => simp [val]
  | succ n ih =>
    simp only [val]
    have h1 := ih (h.le (by omega))
    have h2 : f n ≤ 18446744073709551615 := by have := (h n (by omega)).2; omega
    have h3 := Int.mul_le_mul_of_nonneg_right h2 (Int.le_of_lt (pow_pos' n))
    rw [Int.pow_succ]
    omega

theorem val_zeros {f : Nat → Int} {n m : Nat} (hz : ∀ j, n ≤ j → f j = 0) (h : n ≤ m) : val f m = val f n := by
  induction m with
  | zero => obtain rfl : n = 0 := by omega
            rfl
  | succ m ih =>
    rcases Nat.lt_or_ge n (m + 1) with h1 | h1
    · simp only [val]; rw [ih (by omega), hz m (by omega)]; simp
    · obtain rfl : n = m + 1 := by omega
      rfl

theorem val_ge {f : Nat → Int} {n : Nat} (h : Words f (n + 1)) (ht : f n ≠ 0) : (18446744073709551616 : Int) ^ n ≤ val f (n + 1) := by
  simp only [val]
  have h1 := val_nonneg (h.le (by omega : n ≤ n + 1))
  have h2 : 1 ≤ f n := by have := (h n (by omega)).1; omega
  have h3 := Int.mul_le_mul_of_nonneg_right h2 (Int.le_of_lt (pow_pos' n))
  omega

/-- The words of V, no zero on top. -/
structure Norm (n : Nat) (f : Nat → Int) (V : Int) : Prop where
  words : Words f n
  eq : val f n = V
  top : n = 0 ∨ f (n - 1) ≠ 0

theorem words_unique {f g : Nat → Int} : ∀ {n : Nat}, Words f n → Words g n → val f n = val g n → ∀ j, j < n → f j = g j := by
  intro n
  induction n with
  | zero => intro _ _ _ j hj; omega
  | succ n ih =>
    intro hf hg he j hj
    simp only [val] at he
    have a1 := val_nonneg (hf.le (by omega : n ≤ n + 1))
    have a2 := val_lt (hf.le (by omega : n ≤ n + 1))
    have b1 := val_nonneg (hg.le (by omega : n ≤ n + 1))
    have b2 := val_lt (hg.le (by omega : n ≤ n + 1))
    have hp := pow_pos' n
    have e1 : f n = g n := by
      rcases Int.lt_trichotomy (f n) (g n) with h | h | h
      · have := Int.mul_le_mul_of_nonneg_right (show f n + 1 ≤ g n by omega) (Int.le_of_lt hp)
        rw [Int.add_mul] at this
        omega
      · exact h
      · have := Int.mul_le_mul_of_nonneg_right (show g n + 1 ≤ f n by omega) (Int.le_of_lt hp)
        rw [Int.add_mul] at this
        omega
    rw [e1] at he
    rcases Nat.lt_or_ge j n with h | h
    · exact ih (hf.le (by omega)) (hg.le (by omega)) (by omega) j h
    · obtain rfl : j = n := by omega
      exact e1

theorem pow_le {n m : Nat} (h : n ≤ m) : (18446744073709551616 : Int) ^ n ≤ (18446744073709551616 : Int) ^ m := by
  induction m with
  | zero => obtain rfl : n = 0 := by omega
            exact Int.le_refl _
  | succ m ih =>
    rcases Nat.lt_or_ge n (m + 1) with h1 | h1
    · have := ih (by omega)
      have := pow_pos' m
      rw [Int.pow_succ]
      omega
    · obtain rfl : n = m + 1 := by omega
      exact Int.le_refl _

theorem Norm.le {n m : Nat} {f g : Nat → Int} {V : Int} (h : Norm n f V) (k : Norm m g V) : n ≤ m := by
  rcases Nat.lt_or_ge m n with c | c
  · exfalso
    have ht : f (n - 1) ≠ 0 := by rcases h.top with e | e; omega; exact e
    have h1 := val_lt k.words
    have h2 := val_ge (n := n - 1) (f := f) (by have := h.words; rwa [show n - 1 + 1 = n by omega]) ht
    rw [show n - 1 + 1 = n by omega, h.eq] at h2
    rw [k.eq] at h1
    have := pow_le (show m ≤ n - 1 by omega)
    omega
  · exact c

theorem Norm.unique {n m : Nat} {f g : Nat → Int} {V : Int} (h : Norm n f V) (k : Norm m g V) : n = m ∧ ∀ j, j < n → f j = g j := by
  obtain rfl : n = m := Nat.le_antisymm (h.le k) (k.le h)
  exact ⟨rfl, words_unique h.words k.words (h.eq.trans k.eq.symm)⟩

/-! ### One step of a multiplication -/
theorem mul_bound (a b : Int) (ha0 : 0 ≤ a) (ha : a < 18446744073709551616) (hb0 : 0 ≤ b) (hb : b < 18446744073709551616) : 0 ≤ a * b ∧ a * b ≤ 340282366920938463426481119284349108225 := by
  refine ⟨Int.mul_nonneg ha0 hb0, ?_⟩
  have := Int.mul_le_mul (show a ≤ 18446744073709551615 by omega) (show b ≤ 18446744073709551615 by omega) hb0 (by decide)
  omega

/-- A product with a top word each: the number has n + m words, or one fewer. -/
theorem prod_norm {n m : Nat} {f g p : Nat → Int} (hn : 1 ≤ n) (hm : 1 ≤ m) (hf : Words f n) (hg : Words g m) (tf : f (n - 1) ≠ 0) (tg : g (m - 1) ≠ 0)
    (hp : Words p (n + m)) (he : val p (n + m) = val f n * val g m) :
    Norm (if p (n + m - 1) = 0 then n + m - 1 else n + m) p (val f n * val g m) := by
  have h1 := val_ge (n := n - 1) (f := f) (by rwa [show n - 1 + 1 = n by omega]) tf
  have h2 := val_ge (n := m - 1) (f := g) (by rwa [show m - 1 + 1 = m by omega]) tg
  rw [show n - 1 + 1 = n by omega] at h1
  rw [show m - 1 + 1 = m by omega] at h2
  have h3 : (18446744073709551616 : Int) ^ (n + m - 2) ≤ val f n * val g m := by
    rw [show n + m - 2 = (n - 1) + (m - 1) by omega, Int.pow_add]
    exact Int.mul_le_mul h1 h2 (Int.le_of_lt (pow_pos' _)) (by have := pow_pos' (n - 1); omega)
  split
  · rename_i hz
    have e1 : val p (n + m - 1) = val f n * val g m := by
      rw [← he, show n + m = (n + m - 1) + 1 by omega]
      simp only [val]
      rw [show n + m - 1 + 1 - 1 = n + m - 1 by omega, hz]
      simp
    refine ⟨hp.le (by omega), e1, ?_⟩
    refine .inr fun ht => ?_
    have e2 : val p (n + m - 2) = val f n * val g m := by
      rw [← e1, show n + m - 1 = (n + m - 2) + 1 by omega]
      simp only [val]
      rw [show n + m - 1 - 1 = n + m - 2 by omega] at ht
      rw [ht]
      simp
    have := val_lt (hp.le (by omega : n + m - 2 ≤ n + m))
    omega
  · rename_i hz
    exact ⟨hp, he, .inr hz⟩

/-- The same where one of the two is a word. -/
theorem word_norm {n : Nat} {f p : Nat → Int} {y c : Int} (hn : 1 ≤ n) (hf : Words f n) (tf : f (n - 1) ≠ 0) (y0 : 0 < y) (hp : Words p n) (c0 : 0 ≤ c) (c1 : c < 18446744073709551616)
    (he : val p n + c * (18446744073709551616 : Int) ^ n = val f n * y) :
    Norm (if c = 0 then n else n + 1) (if c = 0 then p else upd p n c) (val f n * y) := by
  split
  · rename_i hz
    subst hz
    refine ⟨hp, by simpa using he, .inr fun ht => ?_⟩
    have h1 := val_ge (n := n - 1) (f := f) (by rwa [show n - 1 + 1 = n by omega]) tf
    rw [show n - 1 + 1 = n by omega] at h1
    have e2 : val p (n - 1) = val f n * y := by
      rw [← he, show n = (n - 1) + 1 by omega]
      simp only [val]
      rw [show n - 1 + 1 - 1 = n - 1 by omega, ht]
      simp
    have h4 := val_lt (hp.le (by omega : n - 1 ≤ n))
    have h5 := Int.mul_le_mul_of_nonneg_left (show (1 : Int) ≤ y by omega) (val_nonneg hf)
    omega
  · rename_i hz
    refine ⟨fun j hj => ?_, ?_, .inr ?_⟩
    · by_cases e : j = n
      · subst e; rw [upd_same]; exact ⟨c0, c1⟩
      · rw [upd_other _ _ _ _ e]; exact hp j (by omega)
    · simp only [val]; rw [val_upd_past _ _ _ _ (Nat.le_refl n), upd_same]; exact he
    · rw [show n + 1 - 1 = n by omega, upd_same]; exact hz

/-! ### The columns -/
def term (f g : Nat → Int) (m k i : Nat) : Int := if i ≤ k ∧ k - i < m then f i * g (k - i) else 0
/-- The column k, of the first n words of f. -/
def col (f g : Nat → Int) (m k : Nat) : Nat → Int
  | 0 => 0
  | n + 1 => col f g m k n + term f g m k n
/-- The columns below K. -/
def cols (f g : Nat → Int) (m n : Nat) : Nat → Int
  | 0 => 0
  | K + 1 => cols f g m n K + col f g m K n * (18446744073709551616 : Int) ^ K

/-- One row in the columns below K. -/
def rowc (f g : Nat → Int) (m i : Nat) : Nat → Int
  | 0 => 0
  | K + 1 => rowc f g m i K + term f g m K i * (18446744073709551616 : Int) ^ K

theorem cols_zero (f g : Nat → Int) (m K : Nat) : cols f g m 0 K = 0 := by
  induction K with
  | zero => rfl
  | succ K ih => simp [cols, ih, col]

theorem cols_succ (f g : Nat → Int) (m n K : Nat) : cols f g m (n + 1) K = cols f g m n K + rowc f g m n K := by
  induction K with
  | zero => rfl
  | succ K ih => simp only [cols, rowc, col]; rw [ih]; grind

theorem rowc_low (f g : Nat → Int) (m i K : Nat) (h : K ≤ i) : rowc f g m i K = 0 := by
  induction K with
  | zero => rfl
  | succ K ih => simp only [rowc]; rw [ih (by omega), term, if_neg (by omega)]; simp

theorem rowc_mid (f g : Nat → Int) (m i t : Nat) (h : t ≤ m) : rowc f g m i (i + t) = f i * (18446744073709551616 : Int) ^ i * val g t := by
  induction t with
  | zero => rw [rowc_low _ _ _ _ _ (by omega)]; simp [val]
  | succ t ih =>
    rw [← Nat.add_assoc]
    simp only [rowc, val]
    rw [ih (by omega), term, if_pos (by omega), show i + t - i = t by omega, Int.pow_add]
    grind

theorem rowc_all (f g : Nat → Int) (m i K : Nat) (h : i + m ≤ K) : rowc f g m i K = f i * (18446744073709551616 : Int) ^ i * val g m := by
  induction K with
  | zero => obtain ⟨rfl, rfl⟩ : i = 0 ∧ m = 0 := by omega
            simp [rowc, val]
  | succ K ih =>
    rcases Nat.lt_or_ge K (i + m) with h1 | h1
    · rw [show K + 1 = i + m by omega]; exact rowc_mid f g m i m (Nat.le_refl m)
    · simp only [rowc]; rw [ih h1, term, if_neg (by omega)]; simp

theorem cols_all (f g : Nat → Int) (m K : Nat) : ∀ n, n + m ≤ K + 1 → n ≤ K → cols f g m n K = val f n * val g m := by
  intro n
  induction n with
  | zero => intro _ _; rw [cols_zero]; simp [val]
  | succ n ih =>
    intro h1 h2
    rw [cols_succ, ih (by omega) (by omega), rowc_all _ _ _ _ _ (by omega)]
    simp only [val]
    grind

theorem term_bound {f g : Nat → Int} {n m k i : Nat} (hf : Words f n) (hg : Words g m) (hi : i < n) : 0 ≤ term f g m k i ∧ term f g m k i ≤ 340282366920938463426481119284349108225 := by
  unfold term
  split
  · rename_i h
    exact mul_bound _ _ (hf i hi).1 (hf i hi).2 (hg _ h.2).1 (hg _ h.2).2
  · decide

/-- At the end of the model's loop the two words left are 0. -/
theorem model_end {f g p : Nat → Int} {n m : Nat} {c0 c1 : Int} (hf : Words f n) (hg : Words g m) (hp : Words p (n + m)) (h0 : 0 ≤ c0) (h1 : 0 ≤ c1)
    (he : val p (n + m) + (c0 + c1 * 18446744073709551616) * (18446744073709551616 : Int) ^ (n + m) = cols f g m n (n + m)) :
    val p (n + m) = val f n * val g m := by
  rw [cols_all f g m (n + m) n (by omega) (by omega)] at he
  have a1 := val_lt hf
  have a2 := val_lt hg
  have a3 := val_nonneg hf
  have a4 := val_nonneg hg
  have a5 : val f n * val g m < (18446744073709551616 : Int) ^ (n + m) := by
    rw [Int.pow_add]
    rcases Int.lt_or_le 0 (val g m) with h | h
    · have b1 := Int.mul_lt_mul_of_pos_right a1 h
      have b2 := Int.mul_le_mul_of_nonneg_left (Int.le_of_lt a2) (Int.le_of_lt (pow_pos' n))
      omega
    · have : val g m = 0 := by omega
      rw [this]; have := Int.mul_pos (pow_pos' n) (pow_pos' m); simpa using this
  have a6 := val_nonneg hp
  rcases Int.lt_or_le 0 (c0 + c1 * 18446744073709551616) with h | h
  · have := Int.mul_le_mul_of_nonneg_right (show (1 : Int) ≤ c0 + c1 * 18446744073709551616 by omega) (Int.le_of_lt (pow_pos' (n + m)))
    omega
  · have e : c0 + c1 * 18446744073709551616 = 0 := by omega
    rw [e] at he
    simpa using he

theorem val_step (p : Nat → Int) (n : Nat) (h : p n = 0) : val p (n + 1) = val p n := by simp [val, h]
end Go.Proofs.Ybulkbhoa
