/-
  Plain facts on decimal numerals and on the URN's bytes: no program in this text.
-/
import Derived.Lib.ItoaNum
namespace Go.Proofs.Qxb6613250aDoor.Num
open Go.Lib

/-- What the digits read back as. -/
def val (l : List UInt8) : Nat := l.foldl (fun v c => v * 10 + (c.toNat - 48)) 0

/-- The bytes of the URN: its scheme, the lead, a hyphen, the numeral. -/
def head (p : List UInt8) : List UInt8 := 117 :: 114 :: 110 :: 58 :: 110 :: 98 :: 110 :: 58 :: (p ++ [45])
def nbn (p : List UInt8) (k : Nat) : List UInt8 := head p ++ decDigits k

theorem head_length (p : List UInt8) : (head p).length = p.length + 9 := by simp [head]

theorem dec_big {k : Nat} (h : ¬ k < 10) : decDigits k = decDigits (k / 10) ++ [UInt8.ofNat (48 + k % 10)] := by
  rw [decDigits, dif_neg h]

theorem digit_toNat {d : Nat} (h : d < 10) : (UInt8.ofNat (48 + d)).toNat = 48 + d := by
  rw [UInt8.toNat_ofNat']; omega

theorem dec_range (k : Nat) : ∀ c ∈ decDigits k, 48 ≤ c.toNat ∧ c.toNat ≤ 57 := by
  induction k using Nat.strongRecOn with
  | _ k ih =>
    by_cases h : k < 10
    · rw [decDigits_one h]
      intro c hc
      rw [List.mem_singleton] at hc
      subst hc
      rw [digit_toNat h]
      omega
    · rw [dec_big h]
      intro c hc
      rcases List.mem_append.1 hc with hc | hc
      · exact ih (k / 10) (by omega) c hc
      · rw [List.mem_singleton] at hc
        subst hc
        rw [digit_toNat (by omega)]
        omega

theorem val_snoc (l : List UInt8) (c : UInt8) : val (l ++ [c]) = val l * 10 + (c.toNat - 48) := by
  simp [val, List.foldl_append]

theorem val_dec (k : Nat) : val (decDigits k) = k := by
  induction k using Nat.strongRecOn with
  | _ k ih =>
    by_cases h : k < 10
    · rw [decDigits_one h]
      simp only [val, List.foldl_cons, List.foldl_nil]
      rw [digit_toNat h]
      omega
    · rw [dec_big h, val_snoc, ih (k / 10) (by omega), digit_toNat (by omega)]
      omega

theorem foldl_ge (m : List UInt8) : ∀ v : Nat, v ≤ m.foldl (fun v c => v * 10 + (c.toNat - 48)) v := by
  induction m with
  | nil => intro v; exact Nat.le_refl _
  | cons c m ih =>
    intro v
    rw [List.foldl_cons]
    exact Nat.le_trans (by omega) (ih _)

theorem val_le (l m : List UInt8) : val l ≤ val (l ++ m) := by
  unfold val
  rw [List.foldl_append]
  exact foldl_ge m _

theorem val_take_le (l : List UInt8) (t : Nat) : val (l.take t) ≤ val l := by
  have h := val_le (l.take t) (l.drop t)
  rwa [List.take_append_drop] at h

theorem val_take_succ (l : List UInt8) (t : Nat) (h : t < l.length) : val (l.take (t + 1)) = val (l.take t) * 10 + (l[t].toNat - 48) := by
  rw [List.take_succ_eq_append_getElem h, val_snoc]

theorem dec_inj {a b : Nat} (h : decDigits a = decDigits b) : a = b := by
  have e := congrArg val h
  rwa [val_dec, val_dec] at e

theorem dec_pos (k : Nat) : 0 < (decDigits k).length := by
  rw [decDigits_length]; exact nDigits_pos k

/-- No leading zero but in "0" itself. -/
theorem dec_head (k : Nat) (hk : 1 ≤ k) : (decDigits k).head? ≠ some 48 := by
  induction k using Nat.strongRecOn with
  | _ k ih =>
    by_cases h : k < 10
    · rw [decDigits_one h]
      intro e
      have e' : UInt8.ofNat (48 + k) = 48 := by simpa using e
      have := congrArg UInt8.toNat e'
      rw [digit_toNat h] at this
      simp at this
      omega
    · have hd := ih (k / 10) (by omega) (by omega)
      have hp := dec_pos (k / 10)
      rw [dec_big h]
      generalize decDigits (k / 10) = l at hd hp
      cases l with
      | nil => simp at hp
      | cons y l => simpa using hd

theorem dec_lead (k : Nat) (h : 1 < (decDigits k).length) : (decDigits k)[0]'(by omega) ≠ 48 := by
  have hk : 1 ≤ k := by
    rcases Nat.eq_zero_or_pos k with e | e
    · subst e; rw [decDigits_one (by omega)] at h; simp at h
    · exact e
  intro e
  refine dec_head k hk ?_
  rw [List.head?_eq_getElem?, List.getElem?_eq_getElem (by omega), e]

theorem no_dash (k : Nat) : (45 : UInt8) ∉ decDigits k := by
  intro h
  have := (dec_range k 45 h).1
  simp at this

/-- The last dash parts a text in one way. -/
theorem split_last {x : UInt8} {p q s t : List UInt8} (hs : x ∉ s) (ht : x ∉ t) (e : p ++ x :: s = q ++ x :: t) : p = q ∧ s = t := by
  rcases List.append_eq_append_iff.1 e with ⟨m, hm, e2⟩ | ⟨m, hm, e2⟩
  · cases m with
    | nil =>
      simp only [List.nil_append] at e2
      exact ⟨by rw [hm, List.append_nil], (List.cons.inj e2).2⟩
    | cons y m =>
      exfalso
      have e3 := (List.cons.inj e2).2
      exact hs (by rw [e3]; simp)
  · cases m with
    | nil =>
      simp only [List.nil_append] at e2
      exact ⟨by rw [hm, List.append_nil], (List.cons.inj e2).2.symm⟩
    | cons y m =>
      exfalso
      have e3 := (List.cons.inj e2).2
      exact ht (by rw [e3]; simp)

theorem nbn_inj {p q : List UInt8} {a b : Nat} (e : nbn p a = nbn q b) : p = q ∧ a = b := by
  unfold nbn head at e
  simp only [List.cons_append, List.cons.injEq, true_and, List.append_assoc, List.nil_append] at e
  obtain ⟨h1, h2⟩ := split_last (no_dash a) (no_dash b) e
  exact ⟨h1, dec_inj h2⟩

theorem nbn_small (p : List UInt8) {k : Nat} (h : k < 10) : nbn p k = head p ++ [UInt8.ofNat (48 + k)] := by
  unfold nbn
  rw [decDigits_one h]

theorem nbn_big (p : List UInt8) {k : Nat} (h : ¬ k < 10) : nbn p k = nbn p (k / 10) ++ [UInt8.ofNat (48 + k % 10)] := by
  unfold nbn
  rw [dec_big h, List.append_assoc]

end Go.Proofs.Qxb6613250aDoor.Num
