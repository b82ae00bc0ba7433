/-
  The walks that make or read slices of bytes: zzCloneBytes, zzBytesEqual, zzBE32.
-/
import Derived.Test.Qxb6613276aFmtRows
import Derived.Test.Qxb6613276aFmtMem
import Derived.WalkKit
import Derived.WalkSpells
import Derived.WalkLawsBesides
import Derived.OwnWalk
import Derived.Deep.OwnRows
import Derived.Deep.QuietTactic
import Derived.BigQuiet
import Derived.Lib.SliceRun
import Derived.Lib.EndianBits
namespace Go.Proofs.Qxb6613276aFmt
open Go Go.RowKit Mem

theorem info5' : (Tryf.prog.info? 5).map (fun i => (i.zero, i.size, i.bytes)) = some (some (.int .u8 0), 1, 1) := by kernel_rfl

/-- What the copy's cell i holds behind k rounds. -/
def copied (l : List UInt8) (k i : Nat) : Value := if i < k then .int .u8 ((l.getD i 0).toNat : Int) else .int .u8 0

/-- Four bytes, the greatest first. -/
def be32 (L : List UInt8) (p : Nat) : Int := ((L.getD p 0).toNat : Int) * 16777216 + ((L.getD (p + 1) 0).toNat : Int) * 65536 + ((L.getD (p + 2) 0).toNat : Int) * 256 + ((L.getD (p + 3) 0).toNat : Int)

theorem drewN_add (w : World) (m n : Nat) : (w.drewN m).drewN n = w.drewN (m + n) := by
  simp [World.drewN, Nat.add_assoc]

theorem copied_step (l : List UInt8) (k i : Nat) (h : k < l.length) : (if i = k then Value.int .u8 (l[k].toNat : Int) else copied l k i) = copied l (k + 1) i := by
  unfold copied
  by_cases e : i = k
  · subst e
    rw [if_pos rfl, if_pos (by omega), List.getD_eq_getElem?_getD, List.getElem?_eq_getElem h]
    rfl
  · rw [if_neg e]
    by_cases e2 : i < k
    · rw [if_pos e2, if_pos (by omega)]
    · rw [if_neg e2, if_neg (by omega)]

theorem owns_of_row {w : World} {b : Nat} {l : List UInt8} (h : w.rowIs b 5 l.length (copied l l.length)) (hm : l.length ≤ maxLen) : Owns w (.slice (some ⟨b, 0, none⟩) l.length l.length) l := by
  obtain ⟨c, hb, hn, hc⟩ := h
  refine ⟨by rw [bv_length, Nat.mul_one], .inr ⟨b, l.length, c, rfl, Nat.zero_le _, hb, Nat.le_refl _, hm, by rw [hn, Nat.mul_one], ?_⟩⟩
  rw [List.take_of_length_le (by simp [hn])]
  apply List.ext_getElem?
  intro i
  rw [Array.getElem?_toList]
  by_cases hi : i < l.length
  · rw [hc i hi, bv_at l i hi, copied, if_pos hi, List.getD_eq_getElem?_getD, List.getElem?_eq_getElem hi]
    rfl
  · rw [Array.getElem?_eq_none (by omega), List.getElem?_eq_none (by rw [bv_length]; omega)]

set_option maxHeartbeats 400000 in
theorem clone_any (v : Value) (l : List UInt8) (w : World) (hr : Reads w v l) (hl : l.length ≤ 1048576) :
    Calls Tryf.prog 8 #[v] w fun e w' => ∃ v', e = .returned v' ∧ Owns w' v' l ∧ Below w.heap.size w w' ∧ ∀ g, v'.ownBlock = some g → w.heap.size ≤ g := by
  have hq := fun (w : World) (a : Option Addr) (n c : Nat) => Lib.run_eql_slice_nil (P := Tryf.prog) w 22 5 a n c 0 0 Tryf.underlying22
  rcases hr with ⟨rfl, rfl⟩ | ⟨a, cap, rfl, hc⟩
  · go_enter Tryf.func8, Tryf.ntmps8
    go_wp2
    go_ret
    exact ⟨_, rfl, World.ownsRow_nil _ _ _ _, Below.refl _ _, fun g hg => by simp [Value.ownBlock] at hg⟩
  · have hmk := run_make_row' (P := Tryf.prog) 22 5 (.int .u8 0) 1 Tryf.underlying22 info5' rfl .i64 .i64 l.length (by omega) (by omega)
    go_enter Tryf.func8, Tryf.ntmps8
    go_wp2
    go_loopw [4] (fun i wr => ∃ k : Nat, k ≤ l.length ∧ i = .int .i64 k ∧ wr.rowIs w.heap.size 5 l.length (copied l k) ∧ Below w.heap.size w wr) (fun i _ => l.length - (intOf i).toNat)
    case atStart => exact ⟨0, Nat.zero_le _, rfl, (World.rowIs_made w (.int .u8 0) l.length 5).congr (fun i _ => by simp [copied]), (Below.refl _ w).alloc (Nat.le_refl _) _⟩
    case round =>
      obtain ⟨k, hk, rfl, hrow, hbel⟩ := hrel
      rename World => wr
      by_cases hlt : k < l.length
      · have hcx : wr.cell? (a.add k) = some (.int .u8 (l[k].toNat : Int)) := by
          have h0 := hc k hlt
          have hb := World.block_lt_of_cell? w _ h0
          rw [hbel.cell hb]; exact h0
        have hcd := hrow.cell hlt
        have hfd := hrow.frozen k
        go_wp2
        go_roundw
        case rel => exact ⟨k + 1, by omega, by go_num, (hrow.set k _).congr (fun i hi => copied_step l k i hlt), hbel.setCell (Nat.le_refl _) _⟩
        case measure => simp [intOf]; omega
      · have hkl : k = l.length := by omega
        subst hkl
        clear hc
        go_wp2
        go_ret
        exact ⟨_, rfl, owns_of_row hrow (by unfold maxLen; omega), hbel, fun g hg => by simp [Value.ownBlock] at hg; omega⟩

set_option maxHeartbeats 400000 in
theorem equal_any (v1 v2 : Value) (l : List UInt8) (w : World) (h1 : Reads w v1 l) (h2 : Reads w v2 l) (hl : l.length ≤ 1048576) :
    Calls Tryf.prog 21 #[v1, v2] w fun e w' => e = .returned (.bool true) ∧ ∃ n, w' = w.drewN n := by
  obtain ⟨a1, c1, rfl, hc1⟩ := h1.form
  obtain ⟨a2, c2, rfl, hc2⟩ := h2.form
  go_enter Tryf.func21, Tryf.ntmps21
  go_wp2
  go_loopw [5] (fun i wr => ∃ k : Nat, k ≤ l.length ∧ i = .int .i64 k ∧ ∃ n, wr = w.drewN n) (fun i _ => l.length - (intOf i).toNat)
  case atStart => exact ⟨0, Nat.zero_le _, rfl, 0, rfl⟩
  case round =>
    obtain ⟨k, hk, rfl, n, hwr⟩ := hrel
    rename World => wr
    by_cases hlt : k < l.length
    · obtain ⟨b1, rfl, hx⟩ := hc1 k hlt
      obtain ⟨b2, rfl, hy⟩ := hc2 k hlt
      have hcx : wr.cell? (b1.add k) = some (.int .u8 (l[k].toNat : Int)) := by rw [hwr, World.cell?_drewN]; exact hx
      have hcy : wr.cell? (b2.add k) = some (.int .u8 (l[k].toNat : Int)) := by rw [hwr, World.cell?_drewN]; exact hy
      have HWR : Hid (wr = w.drewN n) := hwr
      clear hwr hc1 hc2 hx hy
      go_wp2_with fail
      go_quiet (fail)
      go_wp2
      go_roundw
      case rel => exact ⟨k + 1, by omega, by go_num, n + nq, by rw [HWR.out]; exact drewN_add w n nq⟩
      case measure => simp [intOf]; omega
    · clear hc1 hc2
      go_wp2
      go_ret
      exact ⟨rfl, n, rfl⟩

theorem ret_int {k : IntKind} {a b : Int} (h : a = b) : Ending.returned (.int k a) = .returned (.int k b) := by rw [h]

theorem or4 (x0 x1 x2 x3 : Nat) (h0 : x0 < 256) (h1 : x1 < 256) (h2 : x2 < 256) (h3 : x3 < 256) :
    bits .or .u32 (bits .or .u32 (bits .or .u32 ((x0 : Int) * 16777216) ((x1 : Int) * 65536)) ((x2 : Int) * 256)) (x3 : Int) = (x0 : Int) * 16777216 + (x1 : Int) * 65536 + (x2 : Int) * 256 + (x3 : Int) := by
  have e1 := bits_join .u32 32 (by decide) wraps_u32 24 ((x0 : Int) * 16777216) ((x1 : Int) * 65536) (by omega) (by omega) (by omega) (by omega) (by omega) (by omega)
  have e2 := bits_join .u32 32 (by decide) wraps_u32 16 ((x0 : Int) * 16777216 + (x1 : Int) * 65536) ((x2 : Int) * 256) (by omega) (by omega) (by omega) (by omega) (by omega) (by omega)
  have e3 := bits_join .u32 32 (by decide) wraps_u32 8 ((x0 : Int) * 16777216 + (x1 : Int) * 65536 + (x2 : Int) * 256) (x3 : Int) (by omega) (by omega) (by omega) (by omega) (by omega) (by omega)
  rw [e1, e2, e3]

theorem or2 (x0 x1 : Nat) (h0 : x0 < 256) (h1 : x1 < 256) : bits .or .u16 ((x0 : Int) * 256) (x1 : Int) = (x0 : Int) * 256 + (x1 : Int) :=
  bits_join .u16 16 (by decide) wraps_u16 8 _ _ (by omega) (by omega) (by omega) (by omega) (by omega) (by omega)

set_option maxHeartbeats 1000000 in
theorem be32_any (v : Value) (L : List UInt8) (p : Nat) (w : World) (hr : Reads w v L) (hp : p + 4 ≤ L.length) (hl : L.length ≤ 1048576) :
    Calls Tryf.prog 24 #[v, .int .i64 p] w fun e w' => e = .returned (.int .u32 (be32 L p)) ∧ ∃ n, w' = w.drewN n := by
  obtain ⟨b, off, cap, rfl, hc⟩ := hr.at (by omega)
  have h0 := hc p (by omega)
  have h1 := hc (p + 1) (by omega)
  have h2 := hc (p + 2) (by omega)
  have h3 := hc (p + 3) (by omega)
  clear hc
  have b0 := (L[p]'(by omega)).toNat_lt
  have b1 := (L[p + 1]'(by omega)).toNat_lt
  have b2 := (L[p + 2]'(by omega)).toNat_lt
  have b3 := (L[p + 3]'(by omega)).toNat_lt
  have hb : be32 L p = ((L[p]'(by omega)).toNat : Int) * 16777216 + ((L[p + 1]'(by omega)).toNat : Int) * 65536 + ((L[p + 2]'(by omega)).toNat : Int) * 256 + ((L[p + 3]'(by omega)).toNat : Int) := by
    unfold be32
    simp only [List.getD_eq_getElem?_getD]
    rw [List.getElem?_eq_getElem (by omega), List.getElem?_eq_getElem (by omega), List.getElem?_eq_getElem (by omega), List.getElem?_eq_getElem (by omega)]
    rfl
  rw [hb]
  clear hb
  generalize (L[p]'(by omega)).toNat = x0 at *
  generalize (L[p + 1]'(by omega)).toNat = x1 at *
  generalize (L[p + 2]'(by omega)).toNat = x2 at *
  generalize (L[p + 3]'(by omega)).toNat = x3 at *
  clear hr
  have q0 : p < L.length := by omega
  have q1 : (p : Int) + 1 < (L.length : Int) := by omega
  have q2 : (p : Int) + 2 < (L.length : Int) := by omega
  have q3 : (p : Int) + 3 < (L.length : Int) := by omega
  have z1 : (0 : Int) ≤ (p : Int) + 1 := by omega
  have z2 : (0 : Int) ≤ (p : Int) + 2 := by omega
  have z3 : (0 : Int) ≤ (p : Int) + 3 := by omega
  have t1 : ((p : Int) + 1).toNat = p + 1 := by omega
  have t2 : ((p : Int) + 2).toNat = p + 2 := by omega
  have t3 : ((p : Int) + 3).toNat = p + 3 := by omega
  have w1 : IntKind.i64.wrap ((p : Int) + 1) = (p : Int) + 1 := by rw [IntKind.wrap_i64]; omega
  have w2 : IntKind.i64.wrap ((p : Int) + 2) = (p : Int) + 2 := by rw [IntKind.wrap_i64]; omega
  have w3 : IntKind.i64.wrap ((p : Int) + 3) = (p : Int) + 3 := by rw [IntKind.wrap_i64]; omega
  have y0 : IntKind.u32.wrap (x0 : Int) = (x0 : Int) := by rw [IntKind.wrap_u32]; omega
  have y1 : IntKind.u32.wrap (x1 : Int) = (x1 : Int) := by rw [IntKind.wrap_u32]; omega
  have y2 : IntKind.u32.wrap (x2 : Int) = (x2 : Int) := by rw [IntKind.wrap_u32]; omega
  have y3 : IntKind.u32.wrap (x3 : Int) = (x3 : Int) := by rw [IntKind.wrap_u32]; omega
  have s0 : IntKind.u32.wrap ((x0 : Int) * 16777216) = (x0 : Int) * 16777216 := by rw [IntKind.wrap_u32]; omega
  have s1 : IntKind.u32.wrap ((x1 : Int) * 65536) = (x1 : Int) * 65536 := by rw [IntKind.wrap_u32]; omega
  have s2 : IntKind.u32.wrap ((x2 : Int) * 256) = (x2 : Int) * 256 := by rw [IntKind.wrap_u32]; omega
  go_enter Tryf.func24, Tryf.ntmps24
  go_wp2_with fail
  go_quiet (fail)
  go_wp2
  go_ret
  exact ⟨ret_int (or4 x0 x1 x2 x3 (by omega) (by omega) (by omega) (by omega)), nq, rfl⟩

set_option maxHeartbeats 1000000 in
set_option maxRecDepth 100000 in
theorem at_core (v vw : Value) (L b : List UInt8) (p : Nat) (id : Int) (w : World) (hr : Reads w v L) (hw : Reads w vw b) (hp : p + 7 + b.length ≤ L.length) (hl : L.length ≤ 1048576)
    (h11 : L.getD p 0 = 11) (hid : IntKind.i16.wrap (((L.getD (p + 1) 0).toNat : Int) * 256 + ((L.getD (p + 2) 0).toNat : Int)) = id) (hlen : be32 L (p + 3) = (b.length : Int))
    (hbody : ∀ k, k < b.length → L.getD (p + 7 + k) 0 = b.getD k 0) :
    Calls Tryf.prog 22 #[v, .int .i64 p, .int .i16 id, vw] w fun e w' => e = .returned (.int .i64 ((p : Int) + 7 + (b.length : Int))) ∧ ∃ n, w' = w.drewN n := by
  have HB : Hid (∀ n, Calls Tryf.prog 24 #[v, .int .i64 ((p + 3 : Nat) : Int)] (w.drewN n) fun e w' => e = .returned (.int .u32 (b.length : Int)) ∧ ∃ m, w' = (w.drewN n).drewN m) := fun n => by
    have h := be32_any v L (p + 3) (w.drewN n) (hr.drewN n) (by omega) hl
    rw [hlen] at h
    exact h
  clear hlen
  obtain ⟨bk, off, cap, rfl, hc⟩ := hr.at (by omega)
  have h0 := hc p (by omega)
  have h1 := hc (p + 1) (by omega)
  have h2 := hc (p + 2) (by omega)
  have e0 : L[p]'(by omega) = 11 := by simpa [List.getD_eq_getElem?_getD, show p < L.length by omega] using h11
  rw [e0] at h0
  have e1 : L.getD (p + 1) 0 = L[p + 1]'(by omega) := by simp [List.getD_eq_getElem?_getD, show p + 1 < L.length by omega]
  have e2 : L.getD (p + 2) 0 = L[p + 2]'(by omega) := by simp [List.getD_eq_getElem?_getD, show p + 2 < L.length by omega]
  rw [e1, e2] at hid
  have hbd : ∀ k (h : k < b.length), L[p + 7 + k]'(by omega) = b[k] := fun k h => by
    have := hbody k h
    simpa [List.getD_eq_getElem?_getD, show p + 7 + k < L.length by omega, h] using this
  have HC : Hid (∀ k (h : k < b.length), w.cell? ⟨bk, off + (p + 7 + k), none⟩ = some (.int .u8 (b[k].toNat : Int))) := fun k h => by
    rw [hc (p + 7 + k) (by omega), hbd k h]
  have b1 := (L[p + 1]'(by omega)).toNat_lt
  have b2 := (L[p + 2]'(by omega)).toNat_lt
  clear hbody hbd e0 e1 e2 h11 hc hr
  generalize (L[p + 1]'(by omega)).toNat = x1 at *
  generalize (L[p + 2]'(by omega)).toNat = x2 at *
  obtain ⟨ao, capw, rfl, hcw⟩ := hw.form
  have HCW : Hid (∀ j (h : j < b.length), ∃ a, ao = some a ∧ w.cell? (a.add j) = some (.int .u8 (b[j].toNat : Int))) := hcw
  clear hcw hw
  have q0 : p < L.length := by omega
  have q1 : (p : Int) + 1 < (L.length : Int) := by omega
  have q2 : (p : Int) + 2 < (L.length : Int) := by omega
  have z1 : (0 : Int) ≤ (p : Int) + 1 := by omega
  have z2 : (0 : Int) ≤ (p : Int) + 2 := by omega
  have t1 : ((p : Int) + 1).toNat = p + 1 := by omega
  have t2 : ((p : Int) + 2).toNat = p + 2 := by omega
  have w1 : IntKind.i64.wrap ((p : Int) + 1) = (p : Int) + 1 := by rw [IntKind.wrap_i64]; omega
  have w2 : IntKind.i64.wrap ((p : Int) + 2) = (p : Int) + 2 := by rw [IntKind.wrap_i64]; omega
  have y1 : IntKind.u16.wrap (x1 : Int) = (x1 : Int) := by rw [IntKind.wrap_u16]; omega
  have y2 : IntKind.u16.wrap (x2 : Int) = (x2 : Int) := by rw [IntKind.wrap_u16]; omega
  have s1 : IntKind.u16.wrap ((x1 : Int) * 256) = (x1 : Int) * 256 := by rw [IntKind.wrap_u16]; omega
  have o1 : bits .or .u16 ((x1 : Int) * 256) (x2 : Int) = (x1 : Int) * 256 + (x2 : Int) := or2 x1 x2 (by omega) (by omega)
  have d1 : decide ((p : Int) < 0) = false := decide_eq_false (by omega)
  have d2 : decide ((L.length : Int) - (p : Int) < 7) = false := decide_eq_false (by omega)
  have d3 : decide ((L.length : Int) - (p : Int) - 7 < (b.length : Int)) = false := decide_eq_false (by omega)
  go_enter Tryf.func22, Tryf.ntmps22
  go_wp2_with fail
  go_quiet (fail)
  clear q1 q2 z1 z2 t1 t2 w1 w2 y1 y2 s1 o1 h1 h2 h0 b1 b2 hid
  go_wp2_with fail
  rw [show ((p : Int) + 3) = ((p + 3 : Nat) : Int) by omega]
  refine (HB.out nq).mono ?_
  rintro e w2 ⟨rfl, m, hw2⟩
  rw [drewN_add] at hw2
  obtain ⟨n0, hn0⟩ : ∃ n0, n0 = nq + m := ⟨_, rfl⟩
  rw [← hn0] at hw2
  clear hn0 HB
  have HW2 : Hid (w2 = w.drewN n0) := hw2
  clear hw2
  go_wp2
  go_loopw [10] (fun i wr => ∃ k : Nat, k ≤ b.length ∧ i = .int .i64 k ∧ ∃ n, wr = w.drewN n) (fun i _ => b.length - (intOf i).toNat)
  case atStart => exact ⟨0, Nat.zero_le _, rfl, n0, HW2.out⟩
  case round =>
    obtain ⟨k, hk, rfl, n, hwr⟩ := hrel
    rename World => wr
    by_cases hlt : k < b.length
    · obtain ⟨a, rfl, hy⟩ := HCW.out k hlt
      have hx := HC.out k hlt
      have hcx : wr.cell? ⟨bk, off + (p + 7 + k), none⟩ = some (.int .u8 (b[k].toNat : Int)) := by rw [hwr, World.cell?_drewN]; exact hx
      have hcy : wr.cell? (a.add k) = some (.int .u8 (b[k].toNat : Int)) := by rw [hwr, World.cell?_drewN]; exact hy
      have HWR : Hid (wr = w.drewN n) := hwr
      clear hwr hx hy d1 d2 d3 q0
      have q7 : (p : Int) + 7 + (k : Int) < (L.length : Int) := by omega
      have z7 : (0 : Int) ≤ (p : Int) + 7 + (k : Int) := by omega
      have t7 : ((p : Int) + 7 + (k : Int)).toNat = p + 7 + k := by omega
      have w7 : IntKind.i64.wrap ((p : Int) + 7) = (p : Int) + 7 := by rw [IntKind.wrap_i64]; omega
      have w8 : IntKind.i64.wrap ((p : Int) + 7 + (k : Int)) = (p : Int) + 7 + (k : Int) := by rw [IntKind.wrap_i64]; omega
      go_wp2_with fail
      go_quiet (fail)
      clear q7 z7 t7 w7 w8 hcx hcy
      go_wp2
      go_roundw
      case rel => exact ⟨k + 1, by omega, by go_num, n + nq, by rw [HWR.out]; exact drewN_add w n nq⟩
      case measure => simp [intOf]; omega
    · have HWR : Hid (wr = w.drewN n) := hwr
      clear hwr
      go_wp2
      go_ret
      exact ⟨rfl, n, HWR.out⟩
end Go.Proofs.Qxb6613276aFmt
