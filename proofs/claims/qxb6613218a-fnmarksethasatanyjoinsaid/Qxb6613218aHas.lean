/-
  Rows of words in memory; (markSet).has and its shim.
-/
import Derived.Test.Qxb6613218aRows
import Derived.Test.Qxb6613218aBits
import Derived.WalkKit
import Derived.WalkSpells
import Derived.WalkLawsBesides
import Derived.OwnWalk
import Derived.Below
import Derived.Deep.OwnRows
import Derived.Deep.Draws
import Derived.Deep.QuietTactic
import Derived.BigQuiet
import Derived.Lib.SliceRun
import Derived.Lib.EndianBits
namespace Go.Proofs.Qxb6613218a
open Go Go.RowKit Bits

/-- A slice of words as it can be read: nil, or the cells behind an address. -/
def Words (w : World) (v : Value) (ws : List Nat) : Prop :=
  (v = .slice none 0 0 ∧ ws = []) ∨ ∃ a cap, v = .slice (some a) ws.length cap ∧ ∀ j (h : j < ws.length), w.cell? (a.add j) = some (.int .u64 (ws[j] : Int))

theorem Words.form {w : World} {v : Value} {l : List Nat} (h : Words w v l) : ∃ ao cap, v = .slice ao l.length cap ∧ ∀ j (h : j < l.length), ∃ a, ao = some a ∧ w.cell? (a.add j) = some (.int .u64 (l[j] : Int)) := by
  rcases h with ⟨rfl, rfl⟩ | ⟨a, cap, rfl, hc⟩
  · exact ⟨none, 0, rfl, fun j hj => by simp at hj⟩
  · exact ⟨some a, cap, rfl, fun j hj => ⟨a, rfl, hc j hj⟩⟩

theorem Words.drewN {w : World} {v : Value} {l : List Nat} (h : Words w v l) (n : Nat) : Words (w.drewN n) v l := by
  rcases h with h | ⟨a, cap, hv, hc⟩
  · exact .inl h
  · exact .inr ⟨a, cap, hv, fun j hj => by rw [World.cell?_drewN]; exact hc j hj⟩

theorem Words.below {w w' : World} {v : Value} {l : List Nat} (h : Words w v l) (hb : Below w.heap.size w w') : Words w' v l := by
  rcases h with h | ⟨a, cap, hv, hc⟩
  · exact .inl h
  · exact .inr ⟨a, cap, hv, fun j hj => by rw [hb.cell (World.block_lt_of_cell? w _ (hc j hj))]; exact hc j hj⟩

theorem drewN_add (w : World) (m n : Nat) : (w.drewN m).drewN n = w.drewN (m + n) := by
  simp [World.drewN, Nat.add_assoc]
theorem below_drewN {B : Nat} {a w : World} (h : Below B a w) (n : Nat) : Below B a (w.drewN n) := ⟨h.os, h.tape, h.output, h.size, h.block⟩

theorem ret_bool {a b : Bool} (h : a = b) : Ending.returned (.bool a) = .returned (.bool b) := by rw [h]

theorem pow_cast (r : Nat) : ((2 : Int) ^ r) = ((2 ^ r : Nat) : Int) := by simp

theorem and_bit (x r : Nat) (hx : x < 2 ^ 64) (hr : r < 64) : (bits .and .u64 (x : Int) (IntKind.u64.wrap (2 ^ r)) != 0) = x.testBit r := by
  have h2 : 2 ^ r < 2 ^ 64 := Nat.pow_lt_pow_right (by decide) hr
  have e1 : IntKind.u64.wrap (2 ^ r) = ((2 ^ r : Nat) : Int) := by
    rw [pow_cast]
    exact wraps_u64 _ (Int.natCast_nonneg _) (by exact_mod_cast h2)
  rw [e1, (bits_nat .u64 64 (by decide) wraps_u64 x (2 ^ r) hx h2).1, ← and_pow x r]
  generalize x &&& 2 ^ r = y
  cases y with
  | zero => rfl
  | succ n =>
    rw [Bool.eq_iff_iff, bne_iff_ne, bne_iff_ne]
    omega

set_option maxHeartbeats 400000 in
theorem has_any (v : Value) (ws : List Nat) (p : Nat) (w : World) (hr : Words w v ws) (hf : ∀ x ∈ ws, x < 2 ^ 64) (hp : p < 64 * ws.length) (hl : ws.length ≤ 1048576) :
    Calls Try.prog 18 #[v, .int .i32 (p : Int)] w fun e w' => e = .returned (.bool (bitAt ws p)) ∧ ∃ n, w' = w.drewN n := by
  obtain ⟨ao, cap, rfl, hc⟩ := hr.form
  obtain ⟨a, rfl, h0⟩ := hc (p / 64) (by omega)
  have hx := hf _ (List.getElem_mem (show p / 64 < ws.length by omega))
  clear hc hr hf
  have hbit : bitAt ws p = (ws[p / 64]'(by omega)).testBit (p % 64) := by
    unfold bitAt
    simp [List.getD_eq_getElem?_getD, show p / 64 < ws.length by omega]
  rw [hbit]
  clear hbit
  generalize (ws[p / 64]'(by omega)) = x at *
  have q2 : (p : Int) / 64 = ((p / 64 : Nat) : Int) := by omega
  have r2 : (p : Int).tmod 64 = ((p % 64 : Nat) : Int) := by rw [Int.tmod_eq_emod_of_nonneg (by omega)]; omega
  have hq : p / 64 < ws.length := by omega
  have hr : p % 64 < 64 := by omega
  generalize p / 64 = q at *
  generalize p % 64 = r at *
  have wq : IntKind.i32.wrap (q : Int) = (q : Int) := by rw [IntKind.wrap_i32]; omega
  have wr : IntKind.i32.wrap (r : Int) = (r : Int) := by rw [IntKind.wrap_i32]; omega
  go_enter Try.func18, Try.ntmps18
  go_wp2_with fail
  go_quiet (fail)
  go_wp2
  go_ret
  exact ⟨ret_bool (and_bit x r hx hr), nq, rfl⟩

theorem zzhas_any (v : Value) (ws : List Nat) (p : Nat) (w : World) (hr : Words w v ws) (hf : ∀ x ∈ ws, x < 2 ^ 64) (hp : p < 64 * ws.length) (hl : ws.length ≤ 1048576) :
    Calls Try.prog 9 #[v, .int .i32 (p : Int)] w fun e w' => e = .returned (.bool (bitAt ws p)) ∧ ∃ n, w' = w.drewN n := by
  have H := has_any v ws p w hr hf hp hl
  clear hr hf hp
  generalize bitAt ws p = t at *
  go_enter Try.func9, Try.ntmps9
  go_wp2_with (go_at_call 18; refine H.mono ?_; rintro e w2 ⟨rfl, hd2⟩)
  go_ret
  exact ⟨rfl, hd2⟩
end Go.Proofs.Qxb6613218a
