/-
  FnMarkSetHasAtAnyJoin: the walk.
-/
import Derived.Test.Qxb6613218aLaw3
import Derived.Deep.Cut
namespace Go.Proofs.Qxb6613218a
open Go Go.RowKit Bits

theorem ret_int {k : IntKind} {a b : Int} (h : a = b) : Ending.returned (.int k a) = .returned (.int k b) := by rw [h]

theorem and_pred (x : Nat) (h0 : 0 < x) (hx : x < 2 ^ 64) : bits .and .u64 (x : Int) ((x : Int) - 1) = ((x &&& (x - 1) : Nat) : Int) := by
  rw [show (x : Int) - 1 = ((x - 1 : Nat) : Int) by omega]
  exact (bits_nat .u64 64 (by decide) wraps_u64 x (x - 1) hx (by omega)).1

set_option maxHeartbeats 400000 in
theorem popcount_any (x0 : Nat) (w : World) (hx : x0 < 2 ^ 64) :
    Calls Try.prog 11 #[.int .u64 (x0 : Int)] w fun e w' => e = .returned (.int .i64 (pc 64 x0 : Int)) ∧ w' = w := by
  have HX : Hid (x0 < 2 ^ 64) := hx
  have e64 : (2 : Nat) ^ 64 = 18446744073709551616 := by decide
  have hx' : x0 < 18446744073709551616 := by rw [← e64]; exact hx
  clear hx e64
  go_enter Try.func11, Try.ntmps11
  go_wp2
  go_loop [0, 3] (fun v n => ∃ x k : Nat, v = .int .u64 x ∧ n = .int .i64 k ∧ x < 18446744073709551616 ∧ k ≤ 64 ∧ Hid (k + pc 64 x = pc 64 x0)) (fun v _ => (intOf v).toNat)
  case atStart => exact ⟨x0, 0, rfl, rfl, hx', by omega, Nat.zero_add _⟩
  case round =>
    obtain ⟨x, k, rfl, rfl, hxl, hk, HP⟩ := hrel
    by_cases h0 : x = 0
    · subst h0
      have hP := HP.out
      rw [pc_zero, Nat.add_zero] at hP
      have HP2 : Hid (k = pc 64 x0) := hP
      clear hP HP
      go_wp2
      go_ret
      exact ⟨ret_int (by rw [HP2.out]), rfl⟩
    · have hb : ((x : Int) != 0) = true := by rw [bne_iff_ne]; omega
      have e64 : (2 : Nat) ^ 64 = 18446744073709551616 := by decide
      have ha := and_pred x (by omega) (by rw [e64]; exact hxl)
      have hc := pc_clear 64 x (by omega) (by rw [e64]; exact hxl)
      have hlt := clear_lt x (by omega)
      have hle := pc_le 64 x0
      have hP := HP.out
      generalize x &&& (x - 1) = y at *
      have HP2 : Hid (k + 1 + pc 64 y = pc 64 x0) := by show k + 1 + pc 64 y = pc 64 x0; omega
      have hk1 : k + 1 ≤ 64 := by omega
      clear hP HP hc hle e64
      go_wp2
      go_round
      case rel => exact ⟨y, k + 1, rfl, by go_num, by omega, hk1, HP2⟩
      case measure => simp [intOf]; omega

/-- The cells that go over in a copy. -/
theorem copy_cells {w w' : World} {a : Addr} {ws : List Nat} (hc : ∀ j (h : j < ws.length), w.cell? (a.add j) = some (.int .u64 (ws[j] : Int))) (hb : Below w.heap.size w w') :
    ∀ j u, (wv ws)[j]? = some u → w'.cell? (a.add j) = some u := by
  intro j u hj
  have hjl : j < ws.length := by
    have := (List.getElem?_eq_some_iff.1 hj).1
    rwa [wv_length] at this
  have e := hc j hjl
  have hu : u = .int .u64 (ws[j] : Int) := by
    have := (List.getElem?_eq_some_iff.1 hj).2
    rw [← this]
    simp [wv]
  rw [hu, hb.cell (World.block_lt_of_cell? w _ e)]
  exact e

theorem sum_eq (A B C : Nat) : (A : Int) + (B : Int) + (C : Int) = (A : Int) + ((B + C : Nat) : Int) := by omega

theorem Words.at_ {w : World} {ao : Option Addr} {n cap : Nat} {l : List Nat} (h : Words w (.slice ao n cap) l) (j : Nat) (hj : j < l.length) : ∃ a, ao = some a ∧ w.cell? (a.add j) = some (.int .u64 (l[j] : Int)) := by
  obtain ⟨ao', cap', e, hc⟩ := h.form
  cases e
  exact hc j hj

theorem left_word {w : World} {ao : Option Addr} {n cap : Nat} {xs : List Nat} (ys : List Nat) (h : Words w (.slice ao n cap) xs) (k : Nat) (hk : k < xs.length) : ∃ (a : Addr) (G : Nat), ao = some a ∧ w.cell? (a.add k) = some (.int .u64 (G : Int)) ∧ Hid ((xs ++ ys).getD k 0 = G) := by
  obtain ⟨a, e, hc⟩ := h.at_ k hk
  refine ⟨a, xs[k], e, hc, ?_⟩
  show (xs ++ ys).getD k 0 = xs[k]
  simp [List.getD_eq_getElem?_getD, List.getElem?_append_left hk, hk]

theorem right_word {w : World} {ao : Option Addr} {n cap : Nat} {ys : List Nat} (xs : List Nat) (h : Words w (.slice ao n cap) ys) (k : Nat) (hk : k < ys.length) : ∃ (a : Addr) (G : Nat), ao = some a ∧ w.cell? (a.add k) = some (.int .u64 (G : Int)) ∧ Hid ((xs ++ ys).getD (xs.length + k) 0 = G) := by
  obtain ⟨a, e, hc⟩ := h.at_ k hk
  refine ⟨a, ys[k], e, hc, ?_⟩
  show (xs ++ ys).getD (xs.length + k) 0 = ys[k]
  simp [List.getD_eq_getElem?_getD, hk]

theorem sum_word {w : World} {ao : Option Addr} {n cap : Nat} {xs : List Nat} (h : Words w (.slice ao n cap) xs) (hf : ∀ x ∈ xs, x < 2 ^ 64) (k : Nat) (hk : k < xs.length) :
    ∃ (a : Addr) (x : Nat), ao = some a ∧ w.cell? (a.add k) = some (.int .u64 (x : Int)) ∧ Hid (x < 2 ^ 64) ∧ Hid (total xs (k + 1) = total xs k + pc 64 x) ∧ pc 64 x ≤ 64 := by
  obtain ⟨a, e, hc⟩ := h.at_ k hk
  refine ⟨a, xs[k], e, hc, hf _ (List.getElem_mem hk), ?_, pc_le 64 _⟩
  show total xs k + pc 64 (xs.getD k 0) = total xs k + pc 64 xs[k]
  simp [List.getD_eq_getElem?_getD, hk]

/-- What the joined row's cell i holds once j words lie there. -/
def filled (l : List Nat) (j i : Nat) : Value := if i < j then .int .u64 ((l.getD i 0 : Nat) : Int) else .int .u64 0

theorem filled_step (l : List Nat) (j i : Nat) : (if i = j then Value.int .u64 ((l.getD j 0 : Nat) : Int) else filled l j i) = filled l (j + 1) i := by
  unfold filled
  by_cases e : i = j
  · subst e
    rw [if_pos rfl, if_pos (by omega)]
  · rw [if_neg e]
    by_cases e2 : i < j
    · rw [if_pos e2, if_pos (by omega)]
    · rw [if_neg e2, if_neg (by omega)]

theorem words_filled {w : World} {g n : Nat} {l : List Nat} (hn : l.length = n) (h : w.rowIs g 24 n (filled l n)) : Words w (.slice (some ⟨g, 0, none⟩) n n) l := by
  subst hn
  refine .inr ⟨⟨g, 0, none⟩, l.length, rfl, fun j hj => ?_⟩
  have hadd : (⟨g, 0, none⟩ : Addr).add j = ⟨g, j, none⟩ := by unfold Addr.add; split <;> simp_all
  rw [hadd, h.cell hj, filled, if_pos hj]
  simp [List.getD_eq_getElem?_getD, hj]

set_option maxHeartbeats 4000000 in
set_option maxRecDepth 100000 in
theorem law4 (va vb : Value) (xs ys : List Nat) (w : World) (hra : Words w va xs) (hrb : Words w vb ys) (hfa : ∀ x ∈ xs, x < 2 ^ 64) (hfb : ∀ x ∈ ys, x < 2 ^ 64) (hma : xs.length ≤ maxLen) (hmb : ys.length ≤ maxLen) :
    Calls Try.prog 4 #[va, vb] w fun e w' => e = .returned (.bool true) ∧ Below w.heap.size w w' := by
  unfold maxLen at hma hmb
  have HFA : Hid (∀ x ∈ xs, x < 2 ^ 64) := hfa
  have HFB : Hid (∀ x ∈ ys, x < 2 ^ 64) := hfb
  have HRA : Hid (Words w va xs) := hra
  have HRB : Hid (Words w vb ys) := hrb
  clear hfa hfb
  have hq := fun (w : World) (a : Option Addr) (n c : Nat) => run_neq_slice_nil_any (P := Try.prog) w 22 24 a n c 0 0 Try.underlying22
  obtain ⟨aoA, capA, rfl, _⟩ := hra.form
  obtain ⟨aoB, capB, rfl, _⟩ := hrb.form
  clear hra hrb
  by_cases hbig : xs.length ≤ 4096 ∧ ys.length ≤ 4096
  · obtain ⟨ga, gb⟩ := hbig
    have hmka := run_make_row' (P := Try.prog) 22 24 (.int .u64 0) 8 Try.underlying22 info24 rfl .i64 .i64 xs.length (by omega) (by omega)
    have hmkb := run_make_row' (P := Try.prog) 22 24 (.int .u64 0) 8 Try.underlying22 info24 rfl .i64 .i64 ys.length (by omega) (by omega)
    rw [made_list] at hmka hmkb
    obtain ⟨ZA, hZA⟩ : ∃ Z, Z = List.replicate xs.length (Value.int .u64 0) := ⟨_, rfl⟩
    obtain ⟨ZB, hZB⟩ : ∃ Z, Z = List.replicate ys.length (Value.int .u64 0) := ⟨_, rfl⟩
    rw [← hZA] at hmka
    rw [← hZB] at hmkb
    have HZA : Hid (ZA = List.replicate xs.length (Value.int .u64 0)) := hZA
    have HZB : Hid (ZB = List.replicate ys.length (Value.int .u64 0)) := hZB
    obtain ⟨XA, hXA⟩ : ∃ X, X = wv xs := ⟨_, rfl⟩
    obtain ⟨XB, hXB⟩ : ∃ X, X = wv ys := ⟨_, rfl⟩
    have HXA : Hid (XA = wv xs) := hXA
    have HXB : Hid (XB = wv ys) := hXB
    clear hZA hZB hXA hXB
    go_enter Try.func4, Try.ntmps4
    go_upto_if 30 with (go_at_call 10; go_in)
    go_cut [0] from 19 (fun v0 wc => ∃ ao cap, v0 = .slice ao xs.length cap ∧ Hid (Words wc (.slice ao xs.length cap) xs) ∧ Hid (Below w.heap.size w wc))
    case first =>
      rcases HRA.out with ⟨e, hnil⟩ | ⟨a, c, e, hc⟩
      · obtain ⟨rfl, -, rfl⟩ : aoA = none ∧ xs.length = 0 ∧ capA = 0 := by simpa using e
        go_wp2
        go_meet
        case rel => exact ⟨none, 0, rfl, HRA.out, Below.refl _ _⟩
      · obtain ⟨rfl, rfl⟩ : aoA = some a ∧ capA = c := by simpa using e
        have HC : Hid (∀ j (h : j < xs.length), w.cell? (a.add j) = some (.int .u64 (xs[j] : Int))) := hc
        have HB0 : Hid (Below w.heap.size w (w.alloc (.cells ZA.toArray 24))) := (Below.refl _ w).alloc (Nat.le_refl _) _
        clear hc e
        go_wp2_with (refine wpList_copy_splice rfl _ _ 22 22 rfl 24 Try.underlying22 (by kernel_rfl) _ _ _ _ _ _ rfl rfl w.heap.size 0 ZA 24 (heap_alloc_new w _) XA ?c1 ?c2 ?c3 ?c4 w.heap.size w HB0.out (Nat.le_refl _) ?_)
        case c1 => rw [HXA.out, wv_length]; exact (Nat.min_self _).symm
        case c2 => intro _; rw [HXA.out]; exact copy_cells HC.out HB0.out
        case c3 => rw [HXA.out, HZA.out, wv_length, List.length_replicate]; omega
        case c4 => rw [HXA.out]; exact wv_one xs
        intro w2 HG2 hB2
        have HB2 : Hid (Below w.heap.size w w2) := hB2
        have HW2 : Hid (Words w2 (.slice (some ⟨w.heap.size, 0, none⟩) xs.length xs.length) xs) := words_copied rfl (by rw [← HZA.out, ← HXA.out]; exact HG2.out)
        clear hB2 HG2
        go_wp2
        go_meet
        case rel => exact ⟨_, _, rfl, HW2, HB2⟩
    case rest =>
      obtain ⟨aA, cA, rfl, HWA, HBA⟩ := hcut
      have HRB1 : Hid (Words wc (.slice aoB ys.length capB) ys) := HRB.out.below HBA.out
      have hsz1 := HBA.out.size
      clear HRA HRB HXA HZA hmka
      go_upto_if 39 with fail
      go_cut [1] from 19 (fun v1 wd => ∃ ao cap, v1 = .slice ao ys.length cap ∧ Hid (Words wd (.slice ao ys.length cap) ys) ∧ Hid (Words wd (.slice aA xs.length cA) xs) ∧ Hid (Below w.heap.size w wd))
      case first =>
        rcases HRB1.out with ⟨e, hnil⟩ | ⟨a, c, e, hc⟩
        · obtain ⟨rfl, -, rfl⟩ : aoB = none ∧ ys.length = 0 ∧ capB = 0 := by simpa using e
          go_wp2
          go_meet
          case rel => exact ⟨none, 0, rfl, HRB1.out, HWA.out, HBA.out⟩
        · obtain ⟨rfl, rfl⟩ : aoB = some a ∧ capB = c := by simpa using e
          have HC : Hid (∀ j (h : j < ys.length), wc.cell? (a.add j) = some (.int .u64 (ys[j] : Int))) := hc
          have HB0 : Hid (Below wc.heap.size wc (wc.alloc (.cells ZB.toArray 24))) := (Below.refl _ wc).alloc (Nat.le_refl _) _
          clear hc e
          go_wp2_with (refine wpList_copy_splice rfl _ _ 22 22 rfl 24 Try.underlying22 (by kernel_rfl) _ _ _ _ _ _ rfl rfl wc.heap.size 0 ZB 24 (heap_alloc_new wc _) XB ?c1 ?c2 ?c3 ?c4 wc.heap.size wc HB0.out (Nat.le_refl _) ?_)
          case c1 => rw [HXB.out, wv_length]; exact (Nat.min_self _).symm
          case c2 => intro _; rw [HXB.out]; exact copy_cells HC.out HB0.out
          case c3 => rw [HXB.out, HZB.out, wv_length, List.length_replicate]; omega
          case c4 => rw [HXB.out]; exact wv_one ys
          intro w2 HG2 hB2
          have HB2 : Hid (Below wc.heap.size wc w2) := hB2
          have HW2 : Hid (Words w2 (.slice (some ⟨wc.heap.size, 0, none⟩) ys.length ys.length) ys) := words_copied rfl (by rw [← HZB.out, ← HXB.out]; exact HG2.out)
          clear hB2 HG2
          go_wp2
          go_meet
          case rel => exact ⟨_, _, rfl, HW2, HWA.out.below HB2.out, HBA.out.trans (HB2.out.mono hsz1)⟩
      case rest =>
        obtain ⟨aB, cB, rfl, HWB, HWA2, HBB⟩ := hcut
        have hszd := HBB.out.size
        clear HWA HBA HRB1 hsz1 HXB HZB hmkb
        have hmk := run_make_row' (P := Try.prog) 22 24 (.int .u64 0) 8 Try.underlying22 info24 rfl .i64 .i64 (xs.length + ys.length) (by omega) (by omega)
        rw [Int.natCast_add] at hmk
        go_wp2
        go_loopw [8] (fun i wr => ∃ k : Nat, k ≤ xs.length ∧ i = .int .i64 k ∧ wr.rowIs wc.heap.size 24 (xs.length + ys.length) (filled (xs ++ ys) k) ∧ Hid (Below wc.heap.size wc wr)) (fun i _ => xs.length - (intOf i).toNat)
        case atStart => exact ⟨0, Nat.zero_le _, rfl, (World.rowIs_made wc (.int .u64 0) (xs.length + ys.length) 24).congr (fun i _ => by simp [filled]), (Below.refl _ wc).alloc (Nat.le_refl _) _⟩
        case round =>
          obtain ⟨k, hk, rfl, hrow, HBW⟩ := hrel
          rename World => wr
          by_cases hlt : k < xs.length
          · obtain ⟨a, G, rfl, h0, HG⟩ := left_word ys (HWA2.out.below HBW.out) k hlt
            have hcd := hrow.cell (i := k) (by omega)
            have hfd := hrow.frozen k
            go_wp2
            go_roundw
            case rel => exact ⟨k + 1, by omega, by go_num, (hrow.set k _).congr (fun i hi => by rw [← HG.out]; exact filled_step (xs ++ ys) k i), HBW.out.setCell (Nat.le_refl _) _⟩
            case measure => simp [intOf]; omega
          · have hkl : k = xs.length := by omega
            subst hkl
            go_wp2
            go_loopw [9] (fun i wr => ∃ k : Nat, k ≤ ys.length ∧ i = .int .i64 k ∧ wr.rowIs wc.heap.size 24 (xs.length + ys.length) (filled (xs ++ ys) (xs.length + k)) ∧ Hid (Below wc.heap.size wc wr)) (fun i _ => ys.length - (intOf i).toNat)
            case atStart => exact ⟨0, Nat.zero_le _, rfl, hrow, HBW⟩
            case round =>
              clear hrow HBW
              obtain ⟨k, hk, rfl, hrow, HBW⟩ := hrel
              rename World => wr2
              by_cases hlt : k < ys.length
              · obtain ⟨a, G, rfl, h0, HG⟩ := right_word xs (HWB.out.below HBW.out) k hlt
                have hcd := hrow.cell (i := xs.length + k) (by omega)
                have hfd := hrow.frozen (xs.length + k)
                go_wp2
                go_roundw
                case rel => exact ⟨k + 1, by omega, by go_num, (hrow.set (xs.length + k) _).congr (fun i hi => by rw [← HG.out]; exact filled_step (xs ++ ys) (xs.length + k) i), HBW.out.setCell (Nat.le_refl _) _⟩
                case measure => simp [intOf]; omega
              · have hkl : k = ys.length := by omega
                subst hkl
                have WAB : Hid (∀ n, Words (wr2.drewN n) (.slice (some ⟨wc.heap.size, 0, none⟩) (xs.length + ys.length) (xs.length + ys.length)) (xs ++ ys)) := fun n => (words_filled (by simp) hrow).drewN n
                have WA : Hid (∀ n, Words (wr2.drewN n) (.slice aA xs.length cA) xs) := fun n => (HWA2.out.below HBW.out).drewN n
                have WB : Hid (∀ n, Words (wr2.drewN n) (.slice aB ys.length cB) ys) := fun n => (HWB.out.below HBW.out).drewN n
                have FIN : Hid (Below w.heap.size w wr2) := HBB.out.trans (HBW.out.mono hszd)
                have HFAB : Hid (∀ x ∈ xs ++ ys, x < 2 ^ 64) := fun x hx => by
                  rcases List.mem_append.1 hx with h | h
                  · exact HFA.out x h
                  · exact HFB.out x h
                clear hrow HBW HWA2 HWB HBB hmk hszd
                go_wp2
                go_loopw [12, 13] (fun cn p wr => ∃ q n : Nat, q ≤ 64 * (xs.length + ys.length) ∧ p = .int .i32 q ∧ cn = .int .i64 (cnt (xs ++ ys) q : Int) ∧ wr = wr2.drewN n) (fun _ p _ => 64 * (xs.length + ys.length) - (intOf p).toNat)
                case atStart => exact ⟨0, 0, by omega, rfl, rfl, rfl⟩
                case round =>
                  obtain ⟨q, n, hqle, rfl, rfl, rfl⟩ := hrel
                  have hcl := cnt_le (xs ++ ys) q
                  by_cases hq : q < 64 * (xs.length + ys.length)
                  · have hstep : cnt (xs ++ ys) (q + 1) = cnt (xs ++ ys) q + if bitAt (xs ++ ys) q then 1 else 0 := rfl
                    have HST : Hid (cnt (xs ++ ys) (q + 1) = cnt (xs ++ ys) q + if bitAt (xs ++ ys) q then 1 else 0) := hstep
                    clear hstep
                    by_cases hql : q < 64 * xs.length
                    · have HL : Hid (bitAt (xs ++ ys) q = bitAt xs q) := bit_left xs ys q hql
                      go_wp2_with fail
                      refine (zzhas_any _ (xs ++ ys) q (wr2.drewN n) (WAB.out n) HFAB.out (by rw [List.length_append]; omega) (by rw [List.length_append]; omega)).mono ?_
                      rintro e w5 ⟨rfl, m5, rfl⟩
                      rw [drewN_add]
                      go_wp2_with fail
                      refine (zzhas_any _ xs q (wr2.drewN (n + m5)) (WA.out _) HFA.out (by omega) (by omega)).mono ?_
                      rintro e w6 ⟨rfl, m6, rfl⟩
                      rw [drewN_add, ← HL.out]
                      clear HL
                      cases hb : bitAt (xs ++ ys) q
                      all_goals
                        have hS := HST.out
                        rw [hb] at hS
                        simp only [if_true, Bool.false_eq_true, if_false, Nat.add_zero] at hS
                        have HS : Hid (cnt (xs ++ ys) (q + 1) = _) := hS
                        clear hS HST hb
                        go_wp2
                        go_roundw
                        case rel => exact ⟨q + 1, n + m5 + m6, by omega, by go_num, by rw [HS.out] <;> go_num, rfl⟩
                        case measure => simp [intOf]; omega
                    · have HL : Hid (bitAt (xs ++ ys) q = bitAt ys (q - 64 * xs.length)) := bit_right xs ys q (by omega)
                      go_wp2_with fail
                      refine (zzhas_any _ (xs ++ ys) q (wr2.drewN n) (WAB.out n) HFAB.out (by rw [List.length_append]; omega) (by rw [List.length_append]; omega)).mono ?_
                      rintro e w5 ⟨rfl, m5, rfl⟩
                      rw [drewN_add]
                      go_wp2_with fail
                      rw [show (q : Int) - (xs.length : Int) * 64 = ((q - 64 * xs.length : Nat) : Int) by omega]
                      refine (zzhas_any _ ys (q - 64 * xs.length) (wr2.drewN (n + m5)) (WB.out _) HFB.out (by omega) (by omega)).mono ?_
                      rintro e w6 ⟨rfl, m6, rfl⟩
                      rw [drewN_add, ← HL.out]
                      clear HL
                      cases hb : bitAt (xs ++ ys) q
                      all_goals
                        have hS := HST.out
                        rw [hb] at hS
                        simp only [if_true, Bool.false_eq_true, if_false, Nat.add_zero] at hS
                        have HS : Hid (cnt (xs ++ ys) (q + 1) = _) := hS
                        clear hS HST hb
                        go_wp2
                        go_roundw
                        case rel => exact ⟨q + 1, n + m5 + m6, by omega, by go_num, by rw [HS.out] <;> go_num, rfl⟩
                        case measure => simp [intOf]; omega
                  · obtain ⟨T, hT⟩ : ∃ T, T = total xs xs.length + total ys ys.length := ⟨_, rfl⟩
                    have hce : cnt (xs ++ ys) q = T := by
                      rw [show q = 64 * (xs.length + ys.length) by omega, cnt_total, total_join, hT]
                    rw [hce]
                    have hend : ((T : Int) == (total xs xs.length : Int) + (total ys ys.length : Int)) = true := by rw [beq_iff_eq]; omega
                    clear hce hcl hT
                    have hta := total_le xs xs.length
                    have htb := total_le ys ys.length
                    clear WAB HFAB
                    go_wp2
                    go_loop [16, 17] (fun wn j => ∃ k : Nat, k ≤ xs.length ∧ j = .int .i64 k ∧ wn = .int .i64 (total xs k : Int)) (fun _ j => xs.length - (intOf j).toNat)
                    case atStart => exact ⟨0, Nat.zero_le _, rfl, rfl⟩
                    case round =>
                      obtain ⟨k, hk, rfl, rfl⟩ := hrel
                      by_cases hlt : k < xs.length
                      · obtain ⟨a, x, rfl, h0, HXx, HG, hpl⟩ := sum_word (WA.out n) HFA.out k hlt
                        have htl := total_le xs k
                        go_wp2_with (go_at_call 11; refine (popcount_any x _ HXx.out).mono ?_; rintro e w7 ⟨rfl, rfl⟩)
                        go_round
                        case rel => exact ⟨k + 1, by omega, by go_num, by rw [HG.out] <;> go_num⟩
                        case measure => simp [intOf]; omega
                      · have hkl : k = xs.length := by omega
                        subst hkl
                        go_wp2
                        go_loop [16, 18] (fun wn j => ∃ k : Nat, k ≤ ys.length ∧ j = .int .i64 k ∧ wn = .int .i64 ((total xs xs.length : Int) + (total ys k : Int))) (fun _ j => ys.length - (intOf j).toNat)
                        case atStart => exact ⟨0, Nat.zero_le _, rfl, by show _ = Value.int .i64 (_ + ((0 : Nat) : Int)); go_num⟩
                        case round =>
                          obtain ⟨k, hk, rfl, rfl⟩ := hrel
                          by_cases hlt : k < ys.length
                          · obtain ⟨a, x, rfl, h0, HXx, HG, hpl⟩ := sum_word (WB.out n) HFB.out k hlt
                            have htl := total_le ys k
                            go_wp2_with (go_at_call 11; refine (popcount_any x _ HXx.out).mono ?_; rintro e w7 ⟨rfl, rfl⟩)
                            go_round
                            case rel => exact ⟨k + 1, by omega, by go_num, by rw [HG.out]; exact congrArg (Value.int .i64) (sum_eq _ _ _)⟩
                            case measure => simp [intOf]; omega
                          · have hkl : k = ys.length := by omega
                            subst hkl
                            go_wp2
                            go_ret
                            exact ⟨rfl, below_drewN FIN.out n⟩
  · clear HRA HRB
    go_enter Try.func4, Try.ntmps4
    go_wp2
    all_goals
      go_ret
      exact ⟨rfl, Below.refl _ _⟩
end Go.Proofs.Qxb6613218a
