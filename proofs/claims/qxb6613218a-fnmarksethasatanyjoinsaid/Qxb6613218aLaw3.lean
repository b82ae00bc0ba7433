/-
  FnMarkSetHasReadsBackEveryWord: the walk.
-/
import Derived.Test.Qxb6613218aHas
import Derived.Laws.CopyOwn
namespace Go.Proofs.Qxb6613218a
open Go Go.RowKit Bits

theorem info24 : (Try.prog.info? 24).map (fun i => (i.zero, i.size, i.bytes)) = some (some (.int .u64 0), 1, 8) := by kernel_rfl

/-- Words as cells. -/
def wv (l : List Nat) : List Value := l.map fun (n : Nat) => Value.int .u64 (n : Int)
theorem wv_length (l : List Nat) : (wv l).length = l.length := by simp [wv]
theorem wv_one (l : List Nat) : ∀ u ∈ wv l, u.oneCell' = true := by
  intro u hu
  obtain ⟨_, _, rfl⟩ := List.mem_map.1 hu
  rfl

/-- The low c bits; the c-th power of two in 64 bits. -/
def lowb (x c : Nat) : Nat := x % 2 ^ c
def pw (c : Nat) : Nat := 2 ^ c % 2 ^ 64

theorem lowb_zero (x : Nat) : lowb x 0 = 0 := by simp [lowb, Nat.mod_one]
theorem pw_zero : pw 0 = 1 := by decide
theorem lowb_full (x : Nat) (h : x < 2 ^ 64) : lowb x 64 = x := Nat.mod_eq_of_lt h
theorem pw_lt (c : Nat) : pw c < 2 ^ 64 := Nat.mod_lt _ (by decide)
theorem pw_step (c : Nat) : IntKind.u64.wrap ((pw c : Int) * 2) = (pw (c + 1) : Int) := by
  rw [IntKind.wrap_u64]
  have h : pw (c + 1) = pw c * 2 % 2 ^ 64 := by
    unfold pw
    rw [Nat.pow_succ, Nat.mod_mul_mod]
  rw [h]
  have : (2 : Nat) ^ 64 = 18446744073709551616 := by decide
  rw [this]
  omega
theorem or_step (x c : Nat) (hc : c < 64) (ht : x.testBit c = true) : bits .or .u64 (lowb x c : Int) (pw c : Int) = (lowb x (c + 1) : Int) := by
  have h2 : 2 ^ c < 2 ^ 64 := Nat.pow_lt_pow_right (by decide) hc
  have e : pw c = 2 ^ c := Nat.mod_eq_of_lt h2
  have hl : lowb x c < 2 ^ c := Nat.mod_lt _ (Nat.two_pow_pos c)
  rw [e, bits_join_low .u64 64 (by decide) wraps_u64 c (lowb x c : Int) ((2 ^ c : Nat) : Int) (Int.natCast_nonneg _) (by rw [pow_cast]; exact_mod_cast hl) (by exact_mod_cast (Nat.lt_trans hl h2)) (Int.natCast_nonneg _) (by rw [pow_cast]; exact_mod_cast Nat.mod_self (2 ^ c)) (by exact_mod_cast h2)]
  unfold lowb
  rw [mod_step, if_pos ht]
  exact (Int.natCast_add _ _).symm
theorem low_step (x c : Nat) (ht : x.testBit c = false) : lowb x (c + 1) = lowb x c := by
  unfold lowb
  rw [mod_step, ht]
  simp

theorem made_list (n : Nat) : (madeCells #[Value.int .u64 0] n) = (List.replicate n (Value.int .u64 0)).toArray := by
  rw [← toList_madeCells_one]

theorem words_copied {w2 : World} {g n : Nat} {ws : List Nat} (hn : ws.length = n) (h : w2.heap[g]? = some (.cells (splice (List.replicate n (Value.int .u64 0)) 0 (wv ws)).toArray 24 (0, 0))) :
    Words w2 (.slice (some ⟨g, 0, none⟩) n n) ws := by
  subst hn
  refine .inr ⟨⟨g, 0, none⟩, ws.length, rfl, fun j hj => ?_⟩
  have e : splice (List.replicate ws.length (Value.int .u64 0)) 0 (wv ws) = wv ws := by
    simp [splice, wv_length]
  rw [e] at h
  have hadd : (⟨g, 0, none⟩ : Addr).add j = ⟨g, j, none⟩ := by unfold Addr.add; split <;> simp_all
  rw [hadd]
  simp [World.cell?, h, wv, hj]

theorem words_cell {w : World} {g n cap : Nat} {ws : List Nat} (h : Words w (.slice (some ⟨g, 0, none⟩) n cap) ws) (k : Nat) (hk : k < ws.length) : w.cell? ⟨g, k, none⟩ = some (.int .u64 (ws[k] : Int)) := by
  rcases h with ⟨e, _⟩ | ⟨a, c, e, hc⟩
  · cases e
  · cases e
    have hadd : (⟨g, 0, none⟩ : Addr).add k = ⟨g, k, none⟩ := by unfold Addr.add; split <;> simp_all
    rw [← hadd]
    exact hc k hk

theorem bit_word (ws : List Nat) (k c : Nat) (hk : k < ws.length) (hc : c < 64) : bitAt ws (64 * k + c) = (ws[k]).testBit c := by
  unfold bitAt
  rw [show (64 * k + c) / 64 = k by omega, show (64 * k + c) % 64 = c by omega]
  simp [List.getD_eq_getElem?_getD, hk]

set_option maxHeartbeats 1000000 in
set_option maxRecDepth 100000 in
theorem law3 (v : Value) (ws : List Nat) (w : World) (hr : Words w v ws) (hf : ∀ x ∈ ws, x < 2 ^ 64) (hm : ws.length ≤ maxLen) :
    Calls Try.prog 3 #[v] w fun e w' => e = .returned (.bool true) ∧ Below w.heap.size w w' := by
  unfold maxLen at hm
  have HF : Hid (∀ x ∈ ws, x < 2 ^ 64) := hf
  clear hf
  have hq := fun (w : World) (a : Option Addr) (n c : Nat) => run_neq_slice_nil_any (P := Try.prog) w 22 24 a n c 0 0 Try.underlying22
  by_cases hbig : ws.length ≤ 4096
  · rcases hr with ⟨rfl, rfl⟩ | ⟨a, cap, rfl, hc⟩
    · go_enter Try.func3, Try.ntmps3
      go_wp2
      go_loop [4] (fun i => i = .int .i64 0) (fun _ => 0)
      case atStart => rfl
      case round =>
        subst hrel
        go_wp2
        go_ret
        exact ⟨rfl, Below.refl _ _⟩
    · have hmk := run_make_row' (P := Try.prog) 22 24 (.int .u64 0) 8 Try.underlying22 info24 rfl .i64 .i64 ws.length (by omega) (by omega)
      rw [made_list] at hmk
      have HC : Hid (∀ j (h : j < ws.length), w.cell? (a.add j) = some (.int .u64 (ws[j] : Int))) := hc
      clear hc
      obtain ⟨Z, hZ⟩ : ∃ Z, Z = List.replicate ws.length (Value.int .u64 0) := ⟨_, rfl⟩
      rw [← hZ] at hmk
      have HZ : Hid (Z = List.replicate ws.length (Value.int .u64 0)) := hZ
      obtain ⟨X, hX⟩ : ∃ X, X = wv ws := ⟨_, rfl⟩
      have HX : Hid (X = wv ws) := hX
      clear hZ hX
      go_enter Try.func3, Try.ntmps3
      have hb0 : Below w.heap.size w (w.alloc (.cells Z.toArray 24)) := (Below.refl _ w).alloc (Nat.le_refl _) _
      have HB0 : Hid (Below w.heap.size w (w.alloc (.cells Z.toArray 24))) := hb0
      clear hb0
      go_wp2_with (first | (go_at_call 8; go_in) | (refine wpList_copy_splice rfl _ _ 22 22 rfl 24 Try.underlying22 (by kernel_rfl) _ _ _ _ _ _ rfl rfl w.heap.size 0 Z 24 (heap_alloc_new w _) X ?c1 ?c2 ?c3 ?c4 w.heap.size w HB0.out (Nat.le_refl _) ?_))
      case c1 => rw [HX.out, wv_length]; exact (Nat.min_self _).symm
      case c2 =>
        intro _ j u hj
        rw [HX.out] at hj
        have hjl : j < ws.length := by
          have := (List.getElem?_eq_some_iff.1 hj).1
          rwa [wv_length] at this
        have e := HC.out j hjl
        have hu : u = .int .u64 (ws[j] : Int) := by
          have := (List.getElem?_eq_some_iff.1 hj).2
          rw [← this]
          simp [wv]
        rw [hu]
        rw [HB0.out.cell (World.block_lt_of_cell? w _ e)]
        exact e
      case c3 => rw [HX.out, HZ.out, wv_length, List.length_replicate]; omega
      case c4 => rw [HX.out]; exact wv_one ws
      intro w2 HG2 hB2
      have HB2 : Hid (Below w.heap.size w w2) := hB2
      have HW2 : Hid (Words w2 (.slice (some ⟨w.heap.size, 0, none⟩) ws.length ws.length) ws) := words_copied rfl (by rw [← HZ.out, ← HX.out]; exact HG2.out)
      clear hB2 HG2 HB0 HC HZ HX hmk
      go_wp2
      go_loopw [4] (fun i wr => ∃ k : Nat, k ≤ ws.length ∧ i = .int .i64 k ∧ ∃ n, wr = w2.drewN n) (fun i _ => ws.length - (intOf i).toNat)
      case atStart => exact ⟨0, Nat.zero_le _, rfl, 0, rfl⟩
      case round =>
        obtain ⟨k, hk, rfl, n, rfl⟩ := hrel
        by_cases hlt : k < ws.length
        · have hx := HF.out _ (List.getElem_mem hlt)
          have hcell := words_cell HW2.out k hlt
          have HW3 : Hid (∀ m, Words (w2.drewN m) (.slice (some ⟨w.heap.size, 0, none⟩) ws.length ws.length) ws) := fun m => HW2.out.drewN m
          have hbit : ∀ c, c < 64 → bitAt ws (64 * k + c) = (ws[k]).testBit c := fun c hc => bit_word ws k c hlt hc
          have HBIT : Hid (∀ c, c < 64 → bitAt ws (64 * k + c) = (ws[k]).testBit c) := hbit
          clear hbit
          generalize ws[k] = x at *
          have HX64 : Hid (x < 2 ^ 64) := hx
          clear hx
          go_wp2_with fail
          go_loopw [5, 6, 7] (fun W B b wr => ∃ c : Nat, c ≤ 64 ∧ b = .int .i64 c ∧ W = .int .u64 (lowb x c : Int) ∧ B = .int .u64 (pw c : Int) ∧ ∃ m, wr = w2.drewN m) (fun _ _ b _ => 64 - (intOf b).toNat)
          case atStart => exact ⟨0, by omega, rfl, by rw [lowb_zero]; rfl, by rw [pw_zero]; rfl, n, rfl⟩
          case round =>
            obtain ⟨c, hc, rfl, rfl, rfl, m, rfl⟩ := hrel
            by_cases hc64 : c < 64
            · have hs := pw_step c
              go_wp2_with fail
              rw [show ((k : Int) * 64 + (c : Int)) = ((64 * k + c : Nat) : Int) by omega]
              refine (zzhas_any _ ws (64 * k + c) (w2.drewN m) (HW3.out m) HF.out (by omega) (by omega)).mono ?_
              rintro e w3 ⟨rfl, m2, rfl⟩
              rw [HBIT.out c hc64, drewN_add]
              cases ht : x.testBit c
              · have HT : Hid (lowb x (c + 1) = lowb x c) := low_step x c ht
                clear ht
                go_wp2
                go_roundw
                case rel => exact ⟨c + 1, by omega, by go_num, by rw [HT.out], rfl, m + m2, rfl⟩
                case measure => simp [intOf]; omega
              · have ho := or_step x c hc64 ht
                clear ht
                go_wp2
                go_roundw
                case rel => exact ⟨c + 1, by omega, by go_num, rfl, rfl, m + m2, rfl⟩
                case measure => simp [intOf]; omega
            · have hc' : c = 64 := by omega
              subst hc'
              rw [lowb_full x HX64.out]
              go_wp2
              go_roundw
              case rel => exact ⟨k + 1, by omega, by go_num, m, rfl⟩
              case measure => simp [intOf]; omega
        · go_wp2
          go_ret
          exact ⟨rfl, below_drewN HB2.out n⟩
  · go_enter Try.func3, Try.ntmps3
    obtain ⟨ao, cap, rfl, _⟩ := hr.form
    go_wp2
    all_goals
      go_ret
      exact ⟨rfl, Below.refl _ _⟩
end Go.Proofs.Qxb6613218a
