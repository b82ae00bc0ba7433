/-
  The walks: nbnOf, ZZnbnOf, nbnReadsBack, the bounds' tests, and the two laws.
-/
import Derived.Test.Qxb6613250aDoorFmtU
import Derived.Test.Qxb6613250aDoorNum
import Derived.WalkKit
import Derived.WalkSpells
import Derived.WalkLawsBesides
import Derived.Below
namespace Go.Proofs.Qxb6613250aDoor
open Go.RowKit

/-- The URN of lead p and number k, as a Go string. -/
def urn (p : ByteArray) (k : Nat) : ByteArray := ⟨(Num.nbn p.data.toList k).toArray⟩

theorem ba_ext {a b : ByteArray} (h : a.data.toList = b.data.toList) : a = b := by
  cases a; cases b
  simp only [ByteArray.mk.injEq]
  exact Array.toList_inj.1 h

theorem urn_eq (p : ByteArray) (k : Nat) : (⟨#[117, 114, 110, 58, 110, 98, 110, 58]⟩ ++ p ++ ⟨#[45]⟩ ++ ⟨(Lib.decDigits k).toArray⟩ : ByteArray) = urn p k := by
  apply ba_ext
  simp [urn, Num.nbn, Num.head]

theorem urn_size (p : ByteArray) (k : Nat) : (urn p k).size = p.size + 9 + (Lib.decDigits k).length := by
  show (Num.nbn p.data.toList k).toArray.size = _
  simp [Num.nbn, Num.head_length]

set_option maxHeartbeats 400000 in
theorem nbnOf_any (p : ByteArray) (k : Nat) (w : World) (hp : p.size ≤ 1048576) (hk : k < 18446744073709551616) (htab : Lib.TabIs Tryd.prog w tabName .u64 Lib.pow10Tab) :
    Calls Tryd.prog 9 #[.string p, .int .u64 k] w fun e w' => e = .returned (.string (urn p k)) ∧ Below w.heap.size w w' := by
  have H : Hid (Lib.TabIs Tryd.prog w tabName .u64 Lib.pow10Tab) := htab
  have hl := formatUint_len k hk
  have HK : Hid (k < 18446744073709551616) := hk
  clear htab hk
  go_enter Tryd.func9, Tryd.ntmps9
  go_wp2_with (go_at_call 10; refine (formatUint k HK.out w H.out).mono ?_; rintro e w' ⟨rfl, hb⟩)
  go_ret
  exact ⟨congrArg (fun s => Ending.returned (Value.string s)) (urn_eq p k), hb⟩

theorem zznbn_any (p : ByteArray) (k : Nat) (w : World) (hp : p.size ≤ 1048576) (hk : k < 18446744073709551616) (htab : Lib.TabIs Tryd.prog w tabName .u64 Lib.pow10Tab) :
    Calls Tryd.prog 6 #[.string p, .int .u64 k] w fun e w' => e = .returned (.string (urn p k)) ∧ Below w.heap.size w w' := by
  have H := nbnOf_any p k w hp hk htab
  clear htab hk hp
  go_enter Tryd.func6, Tryd.ntmps6
  go_wp2_with (go_at_call 9; refine H.mono ?_; rintro e w' ⟨rfl, hb⟩)
  go_ret
  exact ⟨rfl, hb⟩

set_option maxHeartbeats 400000 in
theorem reads_core (s p D : ByteArray) (k : Nat) (w : World) (hH : s.extract 0 (8 + p.size + 1) = ⟨#[117, 114, 110, 58, 110, 98, 110, 58]⟩ ++ p ++ ⟨#[45]⟩)
    (hD : s.extract (8 + p.size + 1) s.size = D) (h1 : 8 + (p.size : Int) + 1 < s.size) (hs : s.size ≤ 2097152) (hz : 0 < D.size) (hlen : D.size ≤ 2097152)
    (hlead : 1 < D.size → ∀ h, (((D[0]'h).toNat : Int) == 48) = false) (hr : ∀ i (h : i < D.size), 48 ≤ ((D[i]'h).toNat : Int) ∧ ((D[i]'h).toNat : Int) ≤ 57)
    (hk : k < 18446744073709551616) (hv : Hid (Num.val D.data.toList = k)) :
    Calls Tryd.prog 8 #[.string s, .string p, .int .u64 k] w fun e w' => e = .returned (.bool true) ∧ w' = w := by
  have hb1 : decide ((s.size : Int) ≤ 8 + (p.size : Int) + 1) = false := decide_eq_false (by omega)
  have HR : Hid (∀ i (h : i < D.size), 48 ≤ ((D[i]'h).toNat : Int) ∧ ((D[i]'h).toNat : Int) ≤ 57) := hr
  have HK : Hid (k < 18446744073709551616) := hk
  clear hr hk
  by_cases h2 : 1 < D.size
  all_goals
    first
    | have h3 := hlead h2
    | have h3 := h2
    clear hlead
    go_enter Tryd.func8, Tryd.ntmps8
    go_wp2
    clear h3
    go_loop [9, 10] (fun v t => ∃ i : Nat, i ≤ D.size ∧ t = .int .i64 i ∧ v = .int .u64 (Num.val (D.data.toList.take i))) (fun _ t => D.size - (intOf t).toNat)
    case atStart => exact ⟨0, Nat.zero_le _, rfl, rfl⟩
    case round =>
      obtain ⟨i, hi, rfl, rfl⟩ := hrel
      by_cases hlt : i < D.size
      · have hc := HR.out i hlt
        have hvs : Num.val (D.data.toList.take (i + 1)) = Num.val (D.data.toList.take i) * 10 + ((D[i]'hlt).toNat - 48) := Num.val_take_succ D.data.toList i (by simpa using hlt)
        have hvl := Num.val_take_le D.data.toList (i + 1)
        rw [hv.out] at hvl
        have hkk := HK.out
        have hb : (Num.val (D.data.toList.take i) : Int) * 10 + ((D[i]'hlt).toNat : Int) - 48 ≤ 18446744073709551615 := by omega
        have HS : Hid (Num.val (D.data.toList.take (i + 1)) = Num.val (D.data.toList.take i) * 10 + ((D[i]'hlt).toNat - 48)) := hvs
        clear hvs hvl hkk
        generalize Num.val (D.data.toList.take i) = V at *
        go_wp2
        go_round
        case rel => exact ⟨i + 1, by omega, by go_num, by rw [HS.out]; go_num⟩
        case measure => simp [intOf]; omega
      · have hii : i = D.size := by omega
        subst hii
        have hvv : ((Num.val (D.data.toList.take D.size) : Int) == (k : Int)) = true := by
          rw [List.take_of_length_le (by simp), hv.out]; simp
        generalize Num.val (D.data.toList.take D.size) = V at *
        go_wp2
        go_ret
        exact ⟨rfl, rfl⟩

theorem reads_back (p : ByteArray) (k : Nat) (w : World) (hp : p.size ≤ 1048576) (hk : k < 18446744073709551616) :
    Calls Tryd.prog 8 #[.string (urn p k), .string p, .int .u64 k] w fun e w' => e = .returned (.bool true) ∧ w' = w := by
  have hsz := urn_size p k
  have hl := formatUint_len k hk
  have hl0 := Num.dec_pos k
  have hdd : (urn p k).data.toList = Num.head p.data.toList ++ Lib.decDigits k := by simp [urn, Num.nbn]
  have hhl : (Num.head p.data.toList).length = 8 + p.size + 1 := by rw [Num.head_length]; simp; omega
  refine reads_core (urn p k) p ⟨(Lib.decDigits k).toArray⟩ k w ?_ ?_ ?_ ?_ ?_ ?_ ?_ ?_ hk ?_
  · apply ba_ext
    rw [ByteArray.data_extract, Array.toList_extract, List.extract_eq_take_drop, hdd, List.drop_zero, Nat.sub_zero, ← hhl, List.take_left]
    simp [Num.head]
  · apply ba_ext
    rw [ByteArray.data_extract, Array.toList_extract, List.extract_eq_take_drop, hdd, ← hhl, List.drop_left]
    rw [List.take_of_length_le (by rw [hsz, hhl]; omega)]
  · rw [hsz]; omega
  · rw [hsz]; omega
  · exact hl0
  · show (Lib.decDigits k).length ≤ _
    omega
  · intro h2 h
    have h3 : 1 < (Lib.decDigits k).length := h2
    have h4 := Num.dec_lead k h3
    rw [beq_eq_false_iff_ne]
    intro e
    apply h4
    have e2 : ((Lib.decDigits k)[0]'(by omega)).toNat = 48 := by exact_mod_cast e
    exact UInt8.toNat_inj.1 e2
  · intro i h
    have h3 : i < (Lib.decDigits k).length := h
    have h4 := Num.dec_range k ((Lib.decDigits k)[i]'h3) (List.getElem_mem h3)
    exact ⟨by exact_mod_cast h4.1, by exact_mod_cast h4.2⟩
  · show Num.val (Lib.decDigits k).toArray.toList = k
    rw [List.toList_toArray]
    exact Num.val_dec k

theorem tab_below {w w' : World} (h : Lib.TabIs Tryd.prog w tabName .u64 Lib.pow10Tab) (hb : Below w.heap.size w w') : Lib.TabIs Tryd.prog w' tabName .u64 Lib.pow10Tab := by
  unfold Lib.TabIs World.var? at h ⊢
  cases hg : Tryd.prog.globalNamed tabName with
  | none => rw [hg] at h; cases h
  | some g =>
    rw [hg] at h
    simp only [Option.bind_some] at h ⊢
    have hlt : g < w.heap.size := by
      rcases Nat.lt_or_ge g w.heap.size with h' | h'
      · exact h'
      · rw [Array.getElem?_eq_none h'] at h; cases h
    rw [hb.block g hlt]
    exact h

/-- 'string([]byte{byte('0' + k%10)})', for the walk to take. -/
theorem conv_last (k : Nat) (W : World) : (convert 25 9 (.slice (some ⟨W.heap.size, 0, none⟩) 1 1)).run Tryd.prog (W.alloc (.cells #[.int .u8 (48 + (k : Int) % 10)] 5)) = .ok (.string ⟨#[UInt8.ofNat (48 + k % 10)]⟩) (W.alloc (.cells #[.int .u8 (48 + (k : Int) % 10)] 5)) := by
  refine run_convert_bytes_back (P := Tryd.prog) (W.alloc (.cells #[.int .u8 (48 + (k : Int) % 10)] 5)) 25 9 5 ⟨W.heap.size, 0, none⟩ 1 [UInt8.ofNat (48 + k % 10)] Tryd.underlying25 Tryd.underlying5 Tryd.underlying9 (fun j hj => ?_)
  have hj0 : j = 0 := by simpa using hj
  subst hj0
  rw [Lib.add_plain, World.cell?_alloc_new]
  simp only [List.getElem_cons_zero]
  rw [Num.digit_toNat (by omega)]
  simp

set_option maxHeartbeats 400000 in
theorem law3 (p : ByteArray) (k : Nat) (w : World) (hps : p.size ≤ maxLen) (hk : k < 18446744073709551616) (htab : Lib.TabIs Tryd.prog w tabName .u64 Lib.pow10Tab) :
    Calls Tryd.prog 3 #[.string p, .int .u64 k] w fun e w' => e = .returned (.bool true) ∧ Below w.heap.size w w' := by
  unfold maxLen at hps
  by_cases hp : p.size ≤ 1048576
  · have H : Hid (Lib.TabIs Tryd.prog w tabName .u64 Lib.pow10Tab) := htab
    have hcv := conv_last k
    obtain ⟨L, hL⟩ : ∃ L : ByteArray, (⟨#[UInt8.ofNat (48 + k % 10)]⟩ : ByteArray) = L := ⟨_, rfl⟩
    rw [hL] at hcv
    have HL : Hid ((⟨#[UInt8.ofNat (48 + k % 10)]⟩ : ByteArray) = L) := hL
    have hLs : L.size ≤ 1 := by rw [← hL]; exact Nat.le_refl 1
    clear hL
    clear htab
    by_cases h10 : k < 10
    · have heq : (⟨#[117, 114, 110, 58, 110, 98, 110, 58]⟩ ++ p ++ ⟨#[45]⟩ ++ L : ByteArray) = urn p k := by
        rw [← HL.out, ← urn_eq, Lib.decDigits_one h10, Nat.mod_eq_of_lt h10]
      go_enter Tryd.func3, Tryd.ntmps3
      go_wp2_with (first | (go_at_call 6; refine (zznbn_any p k w hp hk H.out).mono ?_; rintro e w1 ⟨rfl, hb⟩) | (go_at_call 5; go_in))
      go_ret
      exact ⟨rfl, hb.alloc hb.size _⟩
    · have heq : urn p (k / 10) ++ L = urn p k := by
        rw [← HL.out]
        apply ba_ext
        simp only [urn, ByteArray.data_append, Array.toList_append, List.toList_toArray]
        rw [Num.nbn_big _ h10]
      have hsz := urn_size p (k / 10)
      have hl := formatUint_len (k / 10) (by omega)
      have hs : (urn p (k / 10)).size ≤ 2097152 := by omega
      clear hsz hl
      go_enter Tryd.func3, Tryd.ntmps3
      go_wp2_with (go_at_call 5; go_in)
      refine (zznbn_any p k w hp hk H.out).mono ?_
      rintro e w1 ⟨rfl, hb⟩
      go_wp2_with fail
      rw [show ((k : Int) / 10) = ((k / 10 : Nat) : Int) by omega]
      refine (zznbn_any p (k / 10) _ hp (by omega) (tab_below H.out (hb.alloc hb.size _))).mono ?_
      rintro e w2 ⟨rfl, hb2⟩
      go_wp2
      go_ret
      exact ⟨rfl, (hb.alloc hb.size _).trans (hb2.mono (by have := hb.size; simp; omega))⟩
  · have hp' : 1048576 < (p.size : Int) := by omega
    clear htab
    go_enter Tryd.func3, Tryd.ntmps3
    go_wp2
    go_ret
    exact ⟨rfl, Below.refl _ _⟩


theorem urn_inj {p q : ByteArray} {a b : Nat} (e : urn p a = urn q b) : p = q ∧ a = b := by
  have h : Num.nbn p.data.toList a = Num.nbn q.data.toList b := by
    have := congrArg (fun s : ByteArray => s.data.toList) e
    simpa [urn] using this
  obtain ⟨h1, h2⟩ := Num.nbn_inj h
  exact ⟨ba_ext h1, h2⟩

theorem bytes_beq {a b : ByteArray} (h : a ≠ b) : (a.toList == b.toList) = false := by
  rw [beq_eq_false_iff_ne]
  intro e
  exact h (ba_ext (by rw [← ByteArray.toList_eq, ← ByteArray.toList_eq, e]))

set_option maxHeartbeats 400000 in
theorem law4 (p : ByteArray) (a : Nat) (q : ByteArray) (b : Nat) (w : World) (hps : p.size ≤ maxLen) (hqs : q.size ≤ maxLen) (ha : a < 18446744073709551616) (hb : b < 18446744073709551616) (htab : Lib.TabIs Tryd.prog w tabName .u64 Lib.pow10Tab) :
    Calls Tryd.prog 4 #[.string p, .int .u64 a, .string q, .int .u64 b] w fun e w' => e = .returned (.bool true) ∧ Below w.heap.size w w' := by
  unfold maxLen at hps hqs
  by_cases hsum : p.size + q.size ≤ 1048576
  · have H : Hid (Lib.TabIs Tryd.prog w tabName .u64 Lib.pow10Tab) := htab
    clear htab
    by_cases he : p = q ∧ a = b
    · obtain ⟨rfl, rfl⟩ := he
      go_enter Tryd.func4, Tryd.ntmps4
      go_wp2_with (go_at_call 7; go_in)
      refine (zznbn_any p a w (by omega) ha H.out).mono ?_
      rintro e w1 ⟨rfl, hb1⟩
      go_wp2_with fail
      refine (zznbn_any p a _ (by omega) ha (tab_below H.out hb1)).mono ?_
      rintro e w2 ⟨rfl, hb2⟩
      go_wp2_with (go_at_call 8; refine (reads_back p a _ (by omega) ha).mono ?_; rintro e w3 ⟨rfl, rfl⟩)
      go_ret
      exact ⟨rfl, hb1.trans (hb2.mono hb1.size)⟩
    · have hne : ((urn p a).toList == (urn q b).toList) = false := bytes_beq (fun e => he (urn_inj e))
      by_cases hpq : p = q
      · subst hpq
        have hab : ((a : Int) == (b : Int)) = false := by rw [beq_eq_false_iff_ne]; intro e; exact he ⟨rfl, by omega⟩
        clear he
        go_enter Tryd.func4, Tryd.ntmps4
        go_wp2_with (go_at_call 7; go_in)
        refine (zznbn_any p a w (by omega) ha H.out).mono ?_
        rintro e w1 ⟨rfl, hb1⟩
        go_wp2_with fail
        refine (zznbn_any p b _ (by omega) hb (tab_below H.out hb1)).mono ?_
        rintro e w2 ⟨rfl, hb2⟩
        go_wp2_with fail
        refine (reads_back p a _ (by omega) ha).mono ?_
        rintro e w3 ⟨rfl, rfl⟩
        go_wp2_with fail
        refine (reads_back p b _ (by omega) hb).mono ?_
        rintro e w4 ⟨rfl, rfl⟩
        go_wp2
        go_ret
        exact ⟨rfl, hb1.trans (hb2.mono hb1.size)⟩
      · have hpq' : (p.toList == q.toList) = false := bytes_beq hpq
        clear he
        go_enter Tryd.func4, Tryd.ntmps4
        go_wp2_with (go_at_call 7; go_in)
        refine (zznbn_any p a w (by omega) ha H.out).mono ?_
        rintro e w1 ⟨rfl, hb1⟩
        go_wp2_with fail
        refine (zznbn_any q b _ (by omega) hb (tab_below H.out hb1)).mono ?_
        rintro e w2 ⟨rfl, hb2⟩
        go_wp2_with fail
        refine (reads_back p a _ (by omega) ha).mono ?_
        rintro e w3 ⟨rfl, rfl⟩
        go_wp2_with fail
        refine (reads_back q b _ (by omega) hb).mono ?_
        rintro e w4 ⟨rfl, rfl⟩
        go_wp2
        go_ret
        exact ⟨rfl, hb1.trans (hb2.mono hb1.size)⟩
  · clear htab
    by_cases hp : p.size ≤ 1048576
    · by_cases hq : q.size ≤ 1048576
      · go_enter Tryd.func4, Tryd.ntmps4
        go_wp2
        go_ret
        exact ⟨rfl, Below.refl _ _⟩
      · go_enter Tryd.func4, Tryd.ntmps4
        go_wp2
        go_ret
        exact ⟨rfl, Below.refl _ _⟩
    · go_enter Tryd.func4, Tryd.ntmps4
      go_wp2
      go_ret
      exact ⟨rfl, Below.refl _ _⟩

end Go.Proofs.Qxb6613250aDoor
