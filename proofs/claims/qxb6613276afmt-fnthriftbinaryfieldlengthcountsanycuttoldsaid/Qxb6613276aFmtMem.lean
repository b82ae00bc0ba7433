/-
  Memory facts for the Thrift laws: a slice of bytes that is read, a row of bytes that the call owns, a writer's block, and what each step keeps. No walk in this text.
-/
import Derived.WalkKit
import Derived.Below
import Derived.OneCell
import Derived.Deep.AppendLies
import Derived.Deep.Draws
namespace Go.Proofs.Qxb6613276aFmt.Mem
open Go Go.RowKit

/-- Bytes as cells. -/
def bv (l : List UInt8) : List Value := l.map fun b => Value.int .u8 (b.toNat : Int)

theorem bv_length (l : List UInt8) : (bv l).length = l.length := by simp [bv]
theorem bv_append (a b : List UInt8) : bv (a ++ b) = bv a ++ bv b := by simp [bv]
theorem bv_at (l : List UInt8) (j : Nat) (h : j < l.length) : (bv l)[j]? = some (.int .u8 (l[j].toNat : Int)) := by simp [bv, h]
theorem bv_one (l : List UInt8) : ∀ u ∈ bv l, u.oneCell' = true := by
  intro u hu
  obtain ⟨_, _, rfl⟩ := List.mem_map.1 hu
  rfl

theorem add_plain (b o j : Nat) : (⟨b, o, none⟩ : Addr).add j = ⟨b, o + j, none⟩ := by
  unfold Addr.add
  split
  · rename_i h; subst h; rfl
  · rfl

/-- A slice of bytes as it can be read: nil, or the cells behind an address. -/
def Reads (w : World) (v : Value) (l : List UInt8) : Prop :=
  (v = .slice none 0 0 ∧ l = []) ∨ ∃ a cap, v = .slice (some a) l.length cap ∧ ∀ j (h : j < l.length), w.cell? (a.add j) = some (.int .u8 (l[j].toNat : Int))

/-- A readable slice's form: an address or none, its cells at that address. -/
theorem Reads.form {w : World} {v : Value} {l : List UInt8} (h : Reads w v l) : ∃ ao cap, v = .slice ao l.length cap ∧ ∀ j (h : j < l.length), ∃ a, ao = some a ∧ w.cell? (a.add j) = some (.int .u8 (l[j].toNat : Int)) := by
  rcases h with ⟨rfl, rfl⟩ | ⟨a, cap, rfl, hc⟩
  · exact ⟨none, 0, rfl, fun j hj => by simp at hj⟩
  · exact ⟨some a, cap, rfl, fun j hj => ⟨a, rfl, hc j hj⟩⟩

/-- .. and where there is a byte, a plain address. -/
theorem Reads.at {w : World} {v : Value} {l : List UInt8} (h : Reads w v l) (hl : 0 < l.length) : ∃ b off cap, v = .slice (some ⟨b, off, none⟩) l.length cap ∧ ∀ j (h : j < l.length), w.cell? ⟨b, off + j, none⟩ = some (.int .u8 (l[j].toNat : Int)) := by
  rcases h with ⟨rfl, rfl⟩ | ⟨⟨b, off, spot⟩, cap, rfl, hc⟩
  · simp at hl
  · have hspot : spot = none := by simpa [Addr.add] using World.cell?_spot (hc 0 hl)
    subst hspot
    exact ⟨b, off, cap, rfl, fun j hj => by rw [← add_plain]; exact hc j hj⟩

/-- A row of bytes of the call's own. -/
def Owns (w : World) (v : Value) (l : List UInt8) : Prop := w.ownsRow 0 5 1 v l.length (bv l)

theorem Owns.reads {w : World} {v : Value} {l : List UInt8} (h : Owns w v l) : Reads w v l := by
  rcases h.2 with ⟨hv, hn⟩ | ⟨g, cap, cur, hv, _⟩
  · exact .inl ⟨hv, List.eq_nil_of_length_eq_zero hn⟩
  · subst hv
    refine .inr ⟨⟨g, 0, none⟩, cap, rfl, fun j hj => ?_⟩
    exact World.ownsRow.cells h (g := g) rfl j _ (bv_at l j hj)

theorem Reads.drewN {w : World} {v : Value} {l : List UInt8} (h : Reads w v l) (n : Nat) : Reads (w.drewN n) v l := by
  rcases h with h | ⟨a, cap, hv, hc⟩
  · exact .inl h
  · exact .inr ⟨a, cap, hv, fun j hj => by rw [World.cell?_drewN]; exact hc j hj⟩

/-- Where a value's row lies. -/
def Within (v : Value) (lo hi : Nat) : Prop := ∀ g, v.ownBlock = some g → lo ≤ g ∧ g < hi

theorem Owns.within {w : World} {v : Value} {l : List UInt8} (h : Owns w v l) {lo : Nat} (hf : ∀ g, v.ownBlock = some g → lo ≤ g) : Within v lo w.heap.size :=
  fun g hg => ⟨hf g hg, (World.ownsRow.lt h g hg).2⟩

theorem Owns.keep {w w' : World} {v : Value} {l : List UInt8} (h : Owns w v l) (hk : ∀ g, v.ownBlock = some g → w'.heap[g]? = w.heap[g]?) : Owns w' v l := by
  refine ⟨h.1, ?_⟩
  rcases h.2 with hn | ⟨g, cap, cur, rfl, hb, hgg, rest⟩
  · exact .inl hn
  · exact .inr ⟨g, cap, cur, rfl, hb, by rw [hk g rfl]; exact hgg, rest⟩

theorem Owns.below {w w' : World} {v : Value} {l : List UInt8} (h : Owns w v l) (hb : Below w.heap.size w w') : Owns w' v l :=
  h.keep fun g hg => hb.block g (World.ownsRow.lt h g hg).2

/-- The writer: its struct's block, no error, the bytes written so far. -/
structure Writer (w : World) (bw : Nat) (sv : Value) (l : List UInt8) : Prop where
  block : w.heap[bw]? = some (.cells #[sv, .nilIface] 64 (0, 0))
  own : Owns w sv l
  apart : sv.ownBlock ≠ some bw

/-- What a step on the writer keeps: every block but the writer's own and its buffer's; the new buffer is the old one's row or a new block. -/
structure Fr (w w' : World) (bw : Nat) (sv sv' : Value) : Prop where
  os : w'.os = w.os
  tape : w'.tape = w.tape
  output : w'.output = w.output
  size : w.heap.size ≤ w'.heap.size
  block : ∀ k, k < w.heap.size → k ≠ bw → sv.ownBlock ≠ some k → w'.heap[k]? = w.heap[k]?
  row : ∀ g, sv'.ownBlock = some g → sv.ownBlock = some g ∨ w.heap.size ≤ g

theorem Fr.trans {w w1 w2 : World} {bw : Nat} {a b c : Value} (h : Fr w w1 bw a b) (k : Fr w1 w2 bw b c) : Fr w w2 bw a c where
  os := k.os.trans h.os
  tape := k.tape.trans h.tape
  output := k.output.trans h.output
  size := Nat.le_trans h.size k.size
  block i hi hne hrow := by
    rw [k.block i (Nat.lt_of_lt_of_le hi h.size) hne (fun e => by
      rcases h.row i e with e' | e'
      · exact hrow e'
      · omega)]
    exact h.block i hi hne hrow
  row g hg := by
    rcases k.row g hg with e | e
    · exact h.row g e
    · exact .inr (Nat.le_trans h.size e)

theorem Writer.cell0 {w : World} {bw : Nat} {sv : Value} {l : List UInt8} (h : Writer w bw sv l) : w.cell? ⟨bw, 0, none⟩ = some sv := by simp [World.cell?, h.block]
theorem Writer.cell1 {w : World} {bw : Nat} {sv : Value} {l : List UInt8} (h : Writer w bw sv l) : w.cell? ⟨bw, 1, none⟩ = some .nilIface := by simp [World.cell?, h.block]
theorem Writer.free {w : World} {bw : Nat} {sv : Value} {l : List UInt8} (h : Writer w bw sv l) (i : Nat) : w.frozen? ⟨bw, i, none⟩ = false := by simp [World.frozen?, h.block]
theorem Writer.drew {w : World} {bw : Nat} {sv : Value} {l : List UInt8} (h : Writer w bw sv l) : Writer w.drew bw sv l := ⟨h.block, h.own, h.apart⟩
theorem Writer.lt {w : World} {bw : Nat} {sv : Value} {l : List UInt8} (h : Writer w bw sv l) : bw < w.heap.size := lt_of_block h.block

theorem two_setCell {w : World} {b : Nat} {v u x : Value} {t : TypeId} (h : w.heap[b]? = some (.cells #[v, x] t (0, 0))) : (w.setCell ⟨b, 0, none⟩ u).heap[b]? = some (.cells #[u, x] t (0, 0)) := by
  have hlt := lt_of_block h
  have h' : w.heap[b] = .cells #[v, x] t (0, 0) := by simpa [Array.getElem?_eq_getElem hlt] using h
  show (w.heap.modify b _)[b]? = _
  rw [Array.getElem?_eq_getElem (by simpa using hlt), Array.getElem_modify_self, h']
  rfl

/-- New blocks, then an append onto the writer's buffer: the writer's block is still there. -/
theorem Writer.still {w w1 : World} {bw : Nat} {sv : Value} {l : List UInt8} (h : Writer w bw sv l) (hg : w.grownBy w1 sv.ownBlock) : w1.heap[bw]? = some (.cells #[sv, .nilIface] 64 (0, 0)) := by
  rw [hg.block bw h.lt (fun e => h.apart e.symm)]
  exact h.block

/-- THE STEP: an append onto the buffer, the new slice stored into the writer. -/
theorem Writer.step {w w1 : World} {bw g cap : Nat} {sv : Value} {l l' : List UInt8} (h : Writer w bw sv l) (hg : w.grownBy w1 sv.ownBlock)
    (ho : Owns w1 (.slice (some ⟨g, 0, none⟩) l'.length cap) l') (hat : sv.ownBlock = some g ∨ w.heap.size ≤ g) :
    Writer (w1.setCell ⟨bw, 0, none⟩ (.slice (some ⟨g, 0, none⟩) l'.length cap)) bw (.slice (some ⟨g, 0, none⟩) l'.length cap) l' ∧
      Fr w (w1.setCell ⟨bw, 0, none⟩ (.slice (some ⟨g, 0, none⟩) l'.length cap)) bw sv (.slice (some ⟨g, 0, none⟩) l'.length cap) := by
  have hb := h.still hg
  have hne : g ≠ bw := by
    rcases hat with e | e
    · intro e2; subst e2; exact h.apart e
    · have := h.lt; omega
  have hap : (Value.slice (some ⟨g, 0, none⟩) l'.length cap).ownBlock ≠ some bw := by simpa [Value.ownBlock] using hne
  refine ⟨⟨two_setCell hb, ownsRow_setCell_other ho hap _, hap⟩, ⟨hg.os, hg.tape, hg.output, ?_, ?_, ?_⟩⟩
  · simpa [World.setCell] using hg.size
  · intro k hk hkb hkr
    rw [Below.heap_setCell _ _ _ _ hkb]
    exact hg.block k hk (fun e => hkr e.symm)
  · intro x hx
    have : g = x := by simpa [Value.ownBlock] using hx
    subst this
    exact hat

/-- New blocks ahead of an append. -/
theorem grown_pre {w w0 w1 : World} {row : Option Nat} (hb : Below w.heap.size w w0) (hg : w0.grownBy w1 row) : w.grownBy w1 row :=
  ⟨hg.os.trans hb.os, hg.tape.trans hb.tape, hg.output.trans hb.output, Nat.le_trans hb.size hg.size, fun k hk hne => by
    rw [hg.block k (Nat.lt_of_lt_of_le hk hb.size) hne]; exact hb.block k hk⟩

theorem Fr.grown {w w' : World} {bw : Nat} {sv sv' : Value} (h : Fr w w' bw sv sv') {B : Nat} (hB : B ≤ w.heap.size) (hbw : B ≤ bw) (hr : ∀ g, sv.ownBlock = some g → B ≤ g) : Below B w w' :=
  ⟨h.os, h.tape, h.output, h.size, fun k hk => h.block k (by omega) (by omega) (fun e => by have := hr k e; omega)⟩

theorem Fr.keep {w w' : World} {bw : Nat} {sv sv' v : Value} {l : List UInt8} (h : Fr w w' bw sv sv') (ho : Owns w v l) (h1 : v.ownBlock ≠ some bw) (h2 : ∀ g, v.ownBlock = some g → sv.ownBlock ≠ some g) : Owns w' v l :=
  ho.keep fun g hg => h.block g (World.ownsRow.lt ho g hg).2 (fun e => h1 (by rw [hg, e])) (h2 g hg)

end Go.Proofs.Qxb6613276aFmt.Mem
