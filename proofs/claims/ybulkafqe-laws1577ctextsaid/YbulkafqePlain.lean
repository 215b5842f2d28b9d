/-
  THE PLAIN LAW of the mask (no Go in sight): the word-wise reckoning of bytesIn marks just the bytes in range.
-/
namespace Go.Proofs.Ybulkafqe.Plain
/-- and, byte by byte -/
theorem and_step (a b : Nat) : a &&& b = 256 * ((a / 256) &&& (b / 256)) + ((a % 256) &&& (b % 256)) := by
  have h1 : (a &&& b) / 2 ^ 8 = a / 2 ^ 8 &&& b / 2 ^ 8 := Nat.and_div_two_pow
  have h2 : (a &&& b) % 2 ^ 8 = a % 2 ^ 8 &&& b % 2 ^ 8 := Nat.and_mod_two_pow
  have h3 := Nat.div_add_mod (a &&& b) 256
  simp only [show (2 : Nat) ^ 8 = 256 from rfl] at h1 h2
  rw [h1, h2] at h3
  exact h3.symm

theorem and_low7 (x : Nat) : x &&& 127 = x % 128 := Nat.and_two_pow_sub_one_eq_mod x 7
theorem and_bit7 (x : Nat) (h : x < 256) : x &&& 128 = if 128 ≤ x then 128 else 0 := by
  have : ∀ x : Nat, x < 256 → x &&& 128 = if 128 ≤ x then 128 else 0 := by decide +kernel
  exact this x h

/-- the three words of n bytes: 0x01.., 0x80.., 0xff.. -/
def ones : Nat → Nat | 0 => 0 | n + 1 => 256 * ones n + 1
def highs : Nat → Nat | 0 => 0 | n + 1 => 256 * highs n + 128
def full : Nat → Nat | 0 => 0 | n + 1 => 256 * full n + 255
def lows7 : Nat → Nat | 0 => 0 | n + 1 => 256 * lows7 n + 127

theorem ones_succ (n : Nat) : ones (n + 1) = 256 * ones n + 1 := rfl
theorem highs_succ (n : Nat) : highs (n + 1) = 256 * highs n + 128 := rfl
theorem full_succ (n : Nat) : full (n + 1) = 256 * full n + 255 := rfl
theorem lows7_succ (n : Nat) : lows7 (n + 1) = 256 * lows7 n + 127 := rfl
theorem full_val (n : Nat) : full n + 1 = 256 ^ n := by
  induction n with
  | zero => rfl
  | succ n ih => rw [Nat.pow_succ, full_succ]; omega
theorem full_sub (n : Nat) : full n - highs n = lows7 n ∧ highs n ≤ full n := by
  induction n with
  | zero => exact ⟨rfl, Nat.le_refl _⟩
  | succ n ih => obtain ⟨h, k⟩ := ih; rw [full_succ, highs_succ, lows7_succ]; omega

/-- the mark of one byte -/
def markOf (lo hi b : Nat) : Nat := if b < 128 ∧ lo ≤ b ∧ b ≤ hi then 128 else 0

/-- the word of marks, from the low end -/
def marks (lo hi : Nat) : Nat → Nat → Nat
  | 0, _ => 0
  | n + 1, x => markOf lo hi (x % 256) + 256 * marks lo hi n (x / 256)

def word (c n x : Nat) : Nat := (x &&& lows7 n) + c * ones n

theorem word_lt (c n x : Nat) (hc : c ≤ 128) : word c n x ≤ full n := by
  induction n generalizing x with
  | zero => simp [word, lows7, ones, full]
  | succ n ih =>
    have := ih (x / 256)
    unfold word at this ⊢
    rw [and_step x (lows7 (n + 1))]
    have e1 : lows7 (n + 1) / 256 = lows7 n := by rw [lows7_succ]; omega
    have e2 : lows7 (n + 1) % 256 = 127 := by rw [lows7_succ]; omega
    rw [e1, e2, and_low7]
    have e3 : c * ones (n + 1) = 256 * (c * ones n) + c := by
      rw [ones_succ, Nat.mul_add, Nat.mul_left_comm]; omega
    rw [e3]
    rw [full_succ]
    have := Nat.mod_lt (x % 256) (show 0 < 128 by omega)
    omega

theorem word_step (c n x : Nat) (hc : c ≤ 128) :
    word c (n + 1) x / 256 = word c n (x / 256) ∧ word c (n + 1) x % 256 = x % 128 + c := by
  unfold word
  rw [and_step x (lows7 (n + 1))]
  have e1 : lows7 (n + 1) / 256 = lows7 n := by rw [lows7_succ]; omega
  have e2 : lows7 (n + 1) % 256 = 127 := by rw [lows7_succ]; omega
  rw [e1, e2, and_low7]
  have e3 : c * ones (n + 1) = 256 * (c * ones n) + c := by
    rw [ones_succ, Nat.mul_add, Nat.mul_left_comm]; omega
  rw [e3]
  omega

theorem sub_step (n v : Nat) (h : v ≤ full (n + 1)) : (full (n + 1) - v) / 256 = full n - v / 256 ∧ (full (n + 1) - v) % 256 = 255 - v % 256 := by
  rw [full_succ] at h ⊢
  omega

theorem bit_le (z : Nat) : z &&& 128 = 0 ∨ z &&& 128 = 128 := by
  have h := and_step z 128
  have h1 : (128 : Nat) / 256 = 0 := rfl
  have h2 : (128 : Nat) % 256 = 128 := rfl
  rw [h1, h2, Nat.and_zero] at h
  have := and_bit7 (z % 256) (Nat.mod_lt _ (by omega))
  rw [this] at h
  split at h <;> omega

/-- the law of one byte -/
theorem byte_law (lo hi b : Nat) (hlo : lo ≤ 127) (hhi : hi ≤ 127) (hb : b < 256) :
    (b % 128 + (128 - lo)) &&& (255 - (b % 128 + (127 - hi))) &&& (255 - b) &&& 128 = markOf lo hi b := by
  have e : ∀ u v w : Nat, u &&& v &&& w &&& 128 = (u &&& 128) &&& (v &&& 128) &&& (w &&& 128) := by
    intro u v w
    apply Nat.eq_of_testBit_eq; intro i
    simp only [Nat.testBit_and]
    cases u.testBit i <;> cases v.testBit i <;> cases w.testBit i <;> cases (128 : Nat).testBit i <;> rfl
  rw [e, and_bit7 _ (by omega), and_bit7 _ (by omega), and_bit7 _ (by omega)]
  unfold markOf
  split <;> split <;> split <;> split <;> first | rfl | omega

/-- THE LAW: the word by word reckoning marks just the bytes in range -/
theorem words_law (lo hi : Nat) (hlo : lo ≤ 127) (hhi : hi ≤ 127) (n x : Nat) (hx : x ≤ full n) :
    word (128 - lo) n x &&& (full n - word (127 - hi) n x) &&& (full n - x) &&& highs n = marks lo hi n x := by
  induction n generalizing x with
  | zero => simp [highs, marks]
  | succ n ih =>
    have hx' : x / 256 ≤ full n := by rw [full_succ] at hx; omega
    have h := ih (x / 256) hx'
    have w1 := word_step (128 - lo) n x (by omega)
    have w2 := word_step (127 - hi) n x (by omega)
    have s1 := sub_step n (word (127 - hi) (n + 1) x) (word_lt _ _ _ (by omega))
    have s2 := sub_step n x hx
    have d1 : highs (n + 1) / 256 = highs n := by rw [highs_succ]; omega
    have d2 : highs (n + 1) % 256 = 128 := by rw [highs_succ]; omega
    rw [and_step]
    rw [show (word (128 - lo) (n + 1) x &&& (full (n + 1) - word (127 - hi) (n + 1) x) &&& (full (n + 1) - x)) / 256
        = word (128 - lo) n (x / 256) &&& (full n - word (127 - hi) n (x / 256)) &&& (full n - x / 256) from by
      rw [show (256 : Nat) = 2 ^ 8 from rfl, Nat.and_div_two_pow, Nat.and_div_two_pow]
      simp only [show (2 : Nat) ^ 8 = 256 from rfl]
      rw [w1.1, s1.1, s2.1, w2.1]]
    rw [show (word (128 - lo) (n + 1) x &&& (full (n + 1) - word (127 - hi) (n + 1) x) &&& (full (n + 1) - x)) % 256
        = (x % 128 + (128 - lo)) &&& (255 - (x % 128 + (127 - hi))) &&& (255 - x % 256) from by
      rw [show (256 : Nat) = 2 ^ 8 from rfl, Nat.and_mod_two_pow, Nat.and_mod_two_pow]
      simp only [show (2 : Nat) ^ 8 = 256 from rfl]
      rw [w1.2, s1.2, s2.2, w2.2]]
    rw [d1, d2, h]
    have b := byte_law lo hi (x % 256) hlo hhi (Nat.mod_lt _ (by omega))
    rw [show x % 256 % 128 = x % 128 from by omega] at b
    rw [b]
    rw [marks]
    omega

/-- the marks, gathered from the low end on, one byte a round -/
def upTo (lo hi x : Nat) : Nat → Nat
  | 0 => 0
  | k + 1 => upTo lo hi x k + markOf lo hi (x / 256 ^ k % 256) * 256 ^ k

theorem upTo_lt (lo hi x k : Nat) : upTo lo hi x k < 256 ^ k := by
  induction k with
  | zero => simp [upTo]
  | succ k ih =>
    unfold upTo
    rw [Nat.pow_succ]
    have : markOf lo hi (x / 256 ^ k % 256) ≤ 128 := by unfold markOf; split <;> omega
    have h2 := Nat.mul_le_mul_right (256 ^ k) this
    omega

theorem upTo_shift (lo hi x k : Nat) : upTo lo hi x (k + 1) = markOf lo hi (x % 256) + 256 * upTo lo hi (x / 256) k := by
  induction k with
  | zero => simp [upTo]
  | succ k ih =>
    rw [upTo, ih, upTo, Nat.mul_add, Nat.pow_succ, Nat.div_div_eq_div_mul, Nat.mul_comm 256 (256 ^ k)]
    have : markOf lo hi (x / (256 ^ k * 256) % 256) * (256 ^ k * 256) = 256 * (markOf lo hi (x / (256 ^ k * 256) % 256) * 256 ^ k) := by
      rw [← Nat.mul_assoc, Nat.mul_comm]
    omega

theorem upTo_marks (lo hi x k : Nat) : upTo lo hi x k = marks lo hi k x := by
  induction k generalizing x with
  | zero => rfl
  | succ k ih => rw [upTo_shift, ih, marks]

end Go.Proofs.Ybulkafqe.Plain
