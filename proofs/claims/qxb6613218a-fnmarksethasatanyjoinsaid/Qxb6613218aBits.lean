/-
  Plain facts on bits of natural numbers: no program in this text.
-/
namespace Go.Proofs.Qxb6613218a.Bits

/-- The set bits of a number, counted. -/
def pc : Nat → Nat → Nat
  | 0, _ => 0
  | f + 1, w => w % 2 + pc f (w / 2)

theorem pc_zero (f : Nat) : pc f 0 = 0 := by
  induction f with
  | zero => rfl
  | succ f ih => simp [pc, ih]

theorem and_step (a b : Nat) : (a &&& b) % 2 = a % 2 * (b % 2) ∧ (a &&& b) / 2 = (a / 2) &&& (b / 2) := by
  refine ⟨?_, Nat.and_div_two⟩
  have h := Nat.testBit_and a b 0
  simp only [Nat.testBit_zero] at h
  have hi : (a &&& b) % 2 = 1 ↔ (a % 2 = 1 ∧ b % 2 = 1) := by
    rw [← Bool.decide_and, decide_eq_decide] at h
    exact h
  have h1 : (a &&& b) % 2 < 2 := Nat.mod_lt _ (by decide)
  have h2 : a % 2 < 2 := Nat.mod_lt _ (by decide)
  have h3 : b % 2 < 2 := Nat.mod_lt _ (by decide)
  generalize (a &&& b) % 2 = c at *
  generalize a % 2 = x at *
  generalize b % 2 = y at *
  rcases (by omega : x = 0 ∨ x = 1) with rfl | rfl
  · rw [Nat.zero_mul]; omega
  · rw [Nat.one_mul]; omega

/-- Clearing the lowest set bit. -/
theorem pc_clear (f : Nat) : ∀ w : Nat, 0 < w → w < 2 ^ f → pc f (w &&& (w - 1)) + 1 = pc f w := by
  induction f with
  | zero => intro w h0 h1; simp at h1; omega
  | succ f ih =>
    intro w h0 h1
    rw [Nat.pow_succ] at h1
    obtain ⟨e1, e2⟩ := and_step w (w - 1)
    show (w &&& (w - 1)) % 2 + pc f ((w &&& (w - 1)) / 2) + 1 = w % 2 + pc f (w / 2)
    rw [e1, e2]
    by_cases hodd : w % 2 = 1
    · have h2 : (w - 1) % 2 = 0 := by omega
      have h3 : (w - 1) / 2 = w / 2 := by omega
      rw [hodd, h2, h3, Nat.and_self]
      omega
    · have h2 : w % 2 = 0 := by omega
      have h3 : (w - 1) / 2 = w / 2 - 1 := by omega
      rw [h2, h3, Nat.zero_mul]
      have := ih (w / 2) (by omega) (by omega)
      omega

theorem clear_lt (w : Nat) (h : 0 < w) : w &&& (w - 1) < w := Nat.lt_of_le_of_lt Nat.and_le_right (by omega)

theorem pc_le (f w : Nat) : pc f w ≤ f := by
  induction f generalizing w with
  | zero => simp [pc]
  | succ f ih => have := ih (w / 2); simp only [pc]; have : w % 2 < 2 := Nat.mod_lt _ (by decide); omega

/-- The set bits below place b. -/
def cw (w : Nat) : Nat → Nat
  | 0 => 0
  | b + 1 => cw w b + if w.testBit b then 1 else 0

theorem cw_shift (w b : Nat) : cw w (b + 1) = w % 2 + cw (w / 2) b := by
  induction b with
  | zero =>
    simp only [cw, Nat.testBit_zero]
    have : w % 2 < 2 := Nat.mod_lt _ (by decide)
    by_cases h : w % 2 = 1
    · simp [h]
    · have : w % 2 = 0 := by omega
      simp [this]
  | succ b ih =>
    have e : w.testBit (b + 1) = (w / 2).testBit b := Nat.testBit_succ w b
    rw [show cw w (b + 1 + 1) = cw w (b + 1) + if w.testBit (b + 1) then 1 else 0 from rfl, ih, e]
    show w % 2 + cw (w / 2) b + _ = w % 2 + (cw (w / 2) b + _)
    omega

theorem cw_pc (f : Nat) : ∀ w, cw w f = pc f w := by
  induction f with
  | zero => intro w; rfl
  | succ f ih => intro w; rw [cw_shift, ih]; rfl

/-- One bit asked for. -/
theorem and_pow (a i : Nat) : (a &&& 2 ^ i != 0) = a.testBit i := by
  by_cases h : a.testBit i = true
  · rw [h, bne_iff_ne]
    intro e
    have := congrArg (fun n => n.testBit i) e
    simp [Nat.testBit_and, h] at this
  · have hf : a.testBit i = false := by simpa using h
    rw [hf]
    have : a &&& 2 ^ i = 0 := by
      apply Nat.eq_of_testBit_eq
      intro j
      rw [Nat.testBit_and, Nat.testBit_two_pow, Nat.zero_testBit]
      by_cases e : i = j
      · subst e; simp [hf]
      · simp [e]
    simp [this]

/-- The low bits, one more. -/
theorem mod_step (a b : Nat) : a % 2 ^ (b + 1) = a % 2 ^ b + if a.testBit b then 2 ^ b else 0 := by
  rw [Nat.testBit_eq_decide_div_mod_eq]
  have h := Nat.mod_pow_succ (b := 2) (x := a) (k := b)
  rw [h]
  have : a / 2 ^ b % 2 < 2 := Nat.mod_lt _ (by decide)
  by_cases e : a / 2 ^ b % 2 = 1
  · simp [e]
  · have : a / 2 ^ b % 2 = 0 := by omega
    simp [this]

/-- The bit of a row of words at place p. -/
def bitAt (ws : List Nat) (p : Nat) : Bool := (ws.getD (p / 64) 0).testBit (p % 64)

/-- The set bits of a row below place p. -/
def cnt (ws : List Nat) : Nat → Nat
  | 0 => 0
  | p + 1 => cnt ws p + if bitAt ws p then 1 else 0

theorem cnt_le (ws : List Nat) (p : Nat) : cnt ws p ≤ p := by
  induction p with
  | zero => simp [cnt]
  | succ p ih => simp only [cnt]; split <;> omega

/-- The set bits of the first n words. -/
def total (ws : List Nat) : Nat → Nat
  | 0 => 0
  | n + 1 => total ws n + pc 64 (ws.getD n 0)

theorem total_le (ws : List Nat) (n : Nat) : total ws n ≤ 64 * n := by
  induction n with
  | zero => simp [total]
  | succ n ih => have := pc_le 64 (ws.getD n 0); simp only [total]; omega

theorem cnt_in (ws : List Nat) (j b : Nat) (hb : b ≤ 64) : cnt ws (64 * j + b) = cnt ws (64 * j) + cw (ws.getD j 0) b := by
  induction b with
  | zero => simp [cw]
  | succ b ih =>
    have e : bitAt ws (64 * j + b) = (ws.getD j 0).testBit b := by
      unfold bitAt
      rw [show (64 * j + b) / 64 = j by omega, show (64 * j + b) % 64 = b by omega]
    rw [show 64 * j + (b + 1) = 64 * j + b + 1 by omega]
    show cnt ws (64 * j + b) + _ = _ + (cw (ws.getD j 0) b + _)
    rw [ih (by omega), e]
    omega

theorem cnt_total (ws : List Nat) (n : Nat) : cnt ws (64 * n) = total ws n := by
  induction n with
  | zero => rfl
  | succ n ih =>
    rw [show 64 * (n + 1) = 64 * n + 64 by omega, cnt_in ws n 64 (Nat.le_refl _), ih, cw_pc]
    rfl

theorem bit_left (a b : List Nat) (p : Nat) (h : p < 64 * a.length) : bitAt (a ++ b) p = bitAt a p := by
  unfold bitAt
  have h2 : p / 64 < a.length := by omega
  simp [List.getD_eq_getElem?_getD, List.getElem?_append_left h2]

theorem bit_right (a b : List Nat) (p : Nat) (h : 64 * a.length ≤ p) : bitAt (a ++ b) p = bitAt b (p - 64 * a.length) := by
  unfold bitAt
  have h2 : a.length ≤ p / 64 := by omega
  have e1 : (p - 64 * a.length) / 64 = p / 64 - a.length := by omega
  have e2 : (p - 64 * a.length) % 64 = p % 64 := by omega
  rw [e1, e2]
  simp [List.getD_eq_getElem?_getD, List.getElem?_append_right h2]

theorem total_left (a b : List Nat) (n : Nat) (h : n ≤ a.length) : total (a ++ b) n = total a n := by
  induction n with
  | zero => rfl
  | succ n ih =>
    show total (a ++ b) n + _ = total a n + _
    rw [ih (by omega)]
    simp [List.getD_eq_getElem?_getD, List.getElem?_append_left (show n < a.length by omega)]

theorem total_join (a b : List Nat) (n : Nat) : total (a ++ b) (a.length + n) = total a a.length + total b n := by
  induction n with
  | zero => rw [Nat.add_zero, total_left a b a.length (Nat.le_refl _)]; rfl
  | succ n ih =>
    rw [show a.length + (n + 1) = a.length + n + 1 by omega]
    show total (a ++ b) (a.length + n) + _ = total a a.length + (total b n + _)
    rw [ih]
    have : (a ++ b).getD (a.length + n) 0 = b.getD n 0 := by simp [List.getD_eq_getElem?_getD, List.getElem?_append_right]
    rw [this]
    omega

end Go.Proofs.Qxb6613218a.Bits
