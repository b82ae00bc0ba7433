/-
  The writer's walks: AppendUint16, AppendUint32, field, i32, length, binaryField.
-/
import Derived.Test.Qxb6613276aFmtRows
import Derived.Test.Qxb6613276aFmtMem
import Derived.WalkKit
import Derived.WalkSpells
import Derived.WalkLawsBesides
import Derived.OwnWalk
import Derived.Deep.RegionWith
import Derived.BigQuiet
import Derived.Laws.AppendOwnNone
namespace Go.Proofs.Qxb6613276aFmt
open Go Go.RowKit Mem

theorem info5 : (Tryf.prog.info? 5).map (fun i => (i.zero, i.size, i.bytes)) = some (some (.int .u8 0), 1, 1) := by kernel_rfl

/-- The bytes of a number, the greatest first. -/
def be2 (v : Nat) : List UInt8 := [UInt8.ofNat (v / 256), UInt8.ofNat (v % 256)]
def be4 (v : Nat) : List UInt8 := [UInt8.ofNat (v / 16777216), UInt8.ofNat (v / 65536 % 256), UInt8.ofNat (v / 256 % 256), UInt8.ofNat (v % 256)]

theorem byte_of {n : Nat} (h : n < 256) : ((UInt8.ofNat n).toNat : Int) = n := by
  rw [UInt8.toNat_ofNat']; omega


theorem be2_cells (v : Nat) (hv : v < 65536) : bv (be2 v) = [Value.int .u8 ((v : Int) / 256), Value.int .u8 ((v : Int) % 256)] := by
  unfold bv be2
  simp only [List.map_cons, List.map_nil]
  rw [byte_of (by omega), byte_of (by omega)]; simp

set_option maxHeartbeats 1000000 in
set_option maxRecDepth 100000 in
theorem append16 (sv : Value) (l : List UInt8) (v : Nat) (hv : v < 65536) (w : World) (hown : Owns w sv l) (hl : l.length ≤ 1048576) :
    Calls Tryf.prog 42 #[.agg #[], sv, .int .u16 v] w fun e w' => ∃ g cap, e = .returned (.slice (some ⟨g, 0, none⟩) (l.length + 2) cap) ∧
      Owns w' (.slice (some ⟨g, 0, none⟩) (l ++ be2 v).length cap) (l ++ be2 v) ∧ w.grownBy w' sv.ownBlock ∧ (sv.ownBlock = some g ∨ w.heap.size ≤ g) := by
  obtain ⟨i0, hi, hz0, hz1, hz2⟩ := info_parts info5
  have hcells := be2_cells v hv
  have HC : Hid (bv (be2 v) = [Value.int .u8 ((v : Int) / 256), Value.int .u8 ((v : Int) % 256)]) := hcells
  have HO : Hid (Owns w sv l) := hown
  clear hcells hown
  go_enter Tryf.func42, Tryf.ntmps42
  go_wp2_with (at_builtin; refine wpList_append_lies _ rfl _ _ 22 rfl 0 5 i0 (.int .u8 0) 1 1 Tryf.underlying22 hi hz0 hz1 hz2 rfl (by decide) sv l.length (bv l) rfl ((World.ownsRow.alloc HO.out _).alloc _) _ 2 2 [Value.int .u8 ((v : Int) / 256), Value.int .u8 ((v : Int) % 256)] rfl rfl ?c1 ?c2 (by decide) ?c3 ?c4 (Nat.zero_le _) _ rfl ?_)
  case c1 =>
    intro j u hj
    match j, hj with
    | 0, hj => simp at hj; subst hj; simp [Addr.add]
    | 1, hj => simp at hj; subst hj; simp [Addr.add]
  case c2 => intro u hu; simp at hu; rcases hu with rfl | rfl <;> rfl
  case c3 => unfold maxLen; omega
  case c4 => omega
  intro g cap w1 ho hg hat hlt
  go_wp2
  go_ret
  have hb : Below w.heap.size w ((w.alloc (.cells #[] 80)).alloc (.cells #[Value.int .u8 ((v : Int) / 256), Value.int .u8 ((v : Int) % 256)] 5)) := ((Below.refl _ w).alloc (Nat.le_refl _) _).alloc (by simp) _
  refine ⟨g, cap, rfl, ?_, grown_pre hb hg, ?_⟩
  · unfold Owns
    rw [bv_append, HC.out, List.length_append]
    exact ho
  · rcases hat with e | e
    · exact .inl e
    · right; omega

theorem be4_cells (v : Nat) (hv : v < 4294967296) : bv (be4 v) = [Value.int .u8 ((v : Int) / 16777216), Value.int .u8 ((v : Int) / 65536 % 256), Value.int .u8 ((v : Int) / 256 % 256), Value.int .u8 ((v : Int) % 256)] := by
  unfold bv be4
  simp only [List.map_cons, List.map_nil]
  rw [byte_of (by omega), byte_of (by omega), byte_of (by omega), byte_of (by omega)]; simp

set_option maxHeartbeats 1000000 in
set_option maxRecDepth 100000 in
theorem append32 (sv : Value) (l : List UInt8) (v : Nat) (hv : v < 4294967296) (w : World) (hown : Owns w sv l) (hl : l.length ≤ 1048576) :
    Calls Tryf.prog 48 #[.agg #[], sv, .int .u32 v] w fun e w' => ∃ g cap, e = .returned (.slice (some ⟨g, 0, none⟩) (l.length + 4) cap) ∧
      Owns w' (.slice (some ⟨g, 0, none⟩) (l ++ be4 v).length cap) (l ++ be4 v) ∧ w.grownBy w' sv.ownBlock ∧ (sv.ownBlock = some g ∨ w.heap.size ≤ g) := by
  obtain ⟨i0, hi, hz0, hz1, hz2⟩ := info_parts info5
  have hcells := be4_cells v hv
  have HC : Hid (bv (be4 v) = [Value.int .u8 ((v : Int) / 16777216), Value.int .u8 ((v : Int) / 65536 % 256), Value.int .u8 ((v : Int) / 256 % 256), Value.int .u8 ((v : Int) % 256)]) := hcells
  have HO : Hid (Owns w sv l) := hown
  clear hcells hown
  go_enter Tryf.func48, Tryf.ntmps48
  go_wp2_with (at_builtin; refine wpList_append_lies _ rfl _ _ 22 rfl 0 5 i0 (.int .u8 0) 1 1 Tryf.underlying22 hi hz0 hz1 hz2 rfl (by decide) sv l.length (bv l) rfl ((World.ownsRow.alloc HO.out _).alloc _) _ 4 4 [Value.int .u8 ((v : Int) / 16777216), Value.int .u8 ((v : Int) / 65536 % 256), Value.int .u8 ((v : Int) / 256 % 256), Value.int .u8 ((v : Int) % 256)] rfl rfl ?c1 ?c2 (by decide) ?c3 ?c4 (Nat.zero_le _) _ rfl ?_)
  case c1 =>
    intro j u hj
    match j, hj with
    | 0, hj => simp at hj; subst hj; simp [Addr.add]
    | 1, hj => simp at hj; subst hj; simp [Addr.add]
    | 2, hj => simp at hj; subst hj; simp [Addr.add]
    | 3, hj => simp at hj; subst hj; simp [Addr.add]
  case c2 => intro u hu; simp at hu; rcases hu with rfl | rfl | rfl | rfl <;> rfl
  case c3 => unfold maxLen; omega
  case c4 => omega
  intro g cap w1 ho hg hat hlt
  go_wp2
  go_ret
  have hb : Below w.heap.size w ((w.alloc (.cells #[] 80)).alloc (.cells #[Value.int .u8 ((v : Int) / 16777216), Value.int .u8 ((v : Int) / 65536 % 256), Value.int .u8 ((v : Int) / 256 % 256), Value.int .u8 ((v : Int) % 256)] 5)) := ((Below.refl _ w).alloc (Nat.le_refl _) _).alloc (by simp) _
  refine ⟨g, cap, rfl, ?_, grown_pre hb hg, ?_⟩
  · unfold Owns
    rw [bv_append, HC.out, List.length_append]
    exact ho
  · rcases hat with e | e
    · exact .inl e
    · right; omega

/-- The two bytes of an id, as a number. -/
def u16 (id : Int) : Nat := (id % 65536).toNat

/-- What an append onto the writer's buffer leaves, the new slice not yet stored. -/
def Done (w : World) (bw : Nat) (sv : Value) (l' : List UInt8) (nv : Value) (w' : World) : Prop :=
  Writer (w'.setCell ⟨bw, 0, none⟩ nv) bw nv l' ∧ Fr w (w'.setCell ⟨bw, 0, none⟩ nv) bw sv nv

theorem Done.of {w w1 : World} {bw g cap n : Nat} {sv : Value} {l l' : List UInt8} (h : Writer w bw sv l) (hg : w.grownBy w1 sv.ownBlock) (hn : l'.length = n)
    (ho : Owns w1 (.slice (some ⟨g, 0, none⟩) l'.length cap) l') (hat : sv.ownBlock = some g ∨ w.heap.size ≤ g) :
    w1.cell? ⟨bw, 0, none⟩ = some sv ∧ w1.frozen? ⟨bw, 0, none⟩ = false ∧ Done w bw sv l' (.slice (some ⟨g, 0, none⟩) n cap) w1 := by
  subst hn
  have hst := h.still hg
  exact ⟨by simp [World.cell?, hst], by simp [World.frozen?, hst], h.step hg ho hat⟩

theorem Done.drew {w : World} {bw : Nat} {sv : Value} {l : List UInt8} {nv : Value} {w' : World} (h : Done w.drew bw sv l nv w') : Done w bw sv l nv w' :=
  ⟨h.1, ⟨h.2.os, h.2.tape, h.2.output, h.2.size, h.2.block, h.2.row⟩⟩

theorem step16 (bw : Nat) (sv : Value) (l : List UInt8) (id : Int) (w : World) (hW : Writer w bw sv l) (hl : l.length ≤ 1048576) :
    Calls Tryf.prog 42 #[.agg #[], sv, .int .u16 (IntKind.u16.wrap id)] w.drew fun e w' => ∃ g cap, e = .returned (.slice (some ⟨g, 0, none⟩) (l.length + 2) cap) ∧
      w'.cell? ⟨bw, 0, none⟩ = some sv ∧ w'.frozen? ⟨bw, 0, none⟩ = false ∧ Done w bw sv (l ++ be2 (u16 id)) (.slice (some ⟨g, 0, none⟩) (l.length + 2) cap) w' := by
  have hv : u16 id < 65536 := by unfold u16; omega
  have e : IntKind.u16.wrap id = (u16 id : Int) := by unfold u16; rw [IntKind.wrap_u16]; omega
  rw [e]
  refine (append16 sv l (u16 id) hv w.drew hW.drew.own hl).mono ?_
  rintro e w' ⟨g, cap, rfl, ho, hg, hat⟩
  obtain ⟨h1, h2, h3⟩ := Done.of hW.drew hg (n := l.length + 2) (by simp [be2]) ho hat
  exact ⟨g, cap, rfl, h1, h2, h3.drew⟩

theorem step32 (bw : Nat) (sv : Value) (l : List UInt8) (k : Nat) (hk : k ≤ 2147483647) (w : World) (hW : Writer w bw sv l) (hl : l.length ≤ 1048576) :
    Calls Tryf.prog 48 #[.agg #[], sv, .int .u32 (IntKind.u32.wrap (k : Int))] w.drew fun e w' => ∃ g cap, e = .returned (.slice (some ⟨g, 0, none⟩) (l.length + 4) cap) ∧
      w'.cell? ⟨bw, 0, none⟩ = some sv ∧ w'.frozen? ⟨bw, 0, none⟩ = false ∧ Done w bw sv (l ++ be4 k) (.slice (some ⟨g, 0, none⟩) (l.length + 4) cap) w' := by
  rw [show IntKind.u32.wrap (k : Int) = (k : Int) by rw [IntKind.wrap_u32]; omega]
  refine (append32 sv l k (by omega) w.drew hW.drew.own hl).mono ?_
  rintro e w' ⟨g, cap, rfl, ho, hg, hat⟩
  obtain ⟨h1, h2, h3⟩ := Done.of hW.drew hg (n := l.length + 4) (by simp [be4]) ho hat
  exact ⟨g, cap, rfl, h1, h2, h3.drew⟩

set_option maxHeartbeats 1000000 in
set_option maxRecDepth 100000 in
theorem field_any (bw : Nat) (sv : Value) (l : List UInt8) (id : Int) (w : World) (hW : Writer w bw sv l) (hl : l.length ≤ 1048000) :
    Calls Tryf.prog 36 #[.pointer (some ⟨bw, 0, none⟩), .int .u8 11, .int .i16 id] w fun e w' => e = .returned (.tuple #[]) ∧ ∃ sv', Writer w' bw sv' (l ++ [11] ++ be2 (u16 id)) ∧ Fr w w' bw sv sv' := by
  obtain ⟨i0, hi, hz0, hz1, hz2⟩ := info_parts info5
  have HW : Hid (Writer w bw sv l) := hW
  have hc0 := hW.cell0
  have hf0 := hW.free 0
  have hlt := hW.lt
  clear hW
  go_enter Tryf.func36, Tryf.ntmps36
  go_wp2_with (at_builtin; refine wpList_append_lies _ rfl _ _ 22 rfl 0 5 i0 (.int .u8 0) 1 1 Tryf.underlying22 hi hz0 hz1 hz2 rfl (by decide) sv l.length (bv l) rfl (World.ownsRow.alloc HW.out.own _) _ 1 1 [.int .u8 11] rfl rfl ?c1 ?c2 (by decide) ?c3 ?c4 (Nat.zero_le _) _ rfl ?_)
  case c1 =>
    intro j u hj
    match j, hj with
    | 0, hj => simp at hj; subst hj; simp [Addr.add]
  case c2 => intro u hu; simp at hu; subst hu; rfl
  case c3 => unfold maxLen; omega
  case c4 => omega
  intro g cap w1 ho hg hat hlt1
  have hb : Below w.heap.size w (w.alloc (.cells #[.int .u8 11] 5)) := (Below.refl _ w).alloc (Nat.le_refl _) _
  have hg' := grown_pre hb hg
  have hst := HW.out.still hg'
  have ho' : Owns w1 (.slice (some ⟨g, 0, none⟩) (l ++ [11]).length cap) (l ++ [11]) := by
    unfold Owns
    rw [bv_append, List.length_append]
    exact ho
  obtain ⟨hW1, hF1⟩ := HW.out.step hg' ho' (by rcases hat with e | e; exact .inl e; right; omega)
  have hc1 : w1.cell? ⟨bw, 0, none⟩ = some sv := by simp [World.cell?, hst]
  have hf1 : w1.frozen? ⟨bw, 0, none⟩ = false := by simp [World.frozen?, hst]
  rw [show (l ++ [(11 : UInt8)]).length = l.length + 1 by simp] at hW1 hF1
  clear ho' hst hg' hb ho hg hat
  go_wp2_with fail
  clear hc1 hf1 hlt1 hc0 hf0 hlt
  generalize w1.setCell ⟨bw, 0, none⟩ (.slice (some ⟨g, 0, none⟩) (l.length + 1) cap) = W1 at *
  generalize Value.slice (some ⟨g, 0, none⟩) (l.length + 1) cap = sv1 at *
  have hc1 := hW1.cell0
  have hf1 := hW1.free 0
  have HW1 : Hid (Writer W1 bw sv1 (l ++ [11])) := hW1
  have HF1 : Hid (Fr w W1 bw sv sv1) := hF1
  clear hW1 hF1
  have HP := step16 bw sv1 (l ++ [11]) id W1 HW1.out (by simp; omega)
  rw [show (l ++ [(11 : UInt8)]).length = l.length + 1 by simp] at HP
  go_region_with (go_at_call 42; refine HP.mono ?_; rintro e w2 ⟨g2, cap2, rfl, hc2, hf2, hd2⟩)
  all_goals
    go_end0
    exact ⟨rfl, _, hd2.1, HF1.out.trans hd2.2⟩

set_option maxHeartbeats 1000000 in
set_option maxRecDepth 100000 in
theorem i32_any (bw : Nat) (sv : Value) (l : List UInt8) (k : Nat) (hk : k ≤ 1048576) (w : World) (hW : Writer w bw sv l) (hl : l.length ≤ 1048000) :
    Calls Tryf.prog 44 #[.pointer (some ⟨bw, 0, none⟩), .int .i32 (k : Int)] w fun e w' => e = .returned (.tuple #[]) ∧ ∃ sv', Writer w' bw sv' (l ++ be4 k) ∧ Fr w w' bw sv sv' := by
  have hc1 := hW.cell0
  have hf1 := hW.free 0
  have HP := step32 bw sv l k (by omega) w hW (by omega)
  clear hW
  go_enter Tryf.func44, Tryf.ntmps44
  go_wp2_with fail
  go_region_with (go_at_call 48; refine HP.mono ?_; rintro e w2 ⟨g2, cap2, rfl, hc2, hf2, hd2⟩)
  all_goals
    go_end0
    exact ⟨rfl, _, hd2.1, hd2.2⟩

set_option maxHeartbeats 1000000 in
set_option maxRecDepth 100000 in
theorem length_any (bw : Nat) (sv : Value) (l : List UInt8) (k : Nat) (hk : k ≤ 1048576) (w : World) (hW : Writer w bw sv l) (hl : l.length ≤ 1048000) :
    Calls Tryf.prog 37 #[.pointer (some ⟨bw, 0, none⟩), .int .i64 (k : Int)] w fun e w' => e = .returned (.tuple #[]) ∧ ∃ sv', Writer w' bw sv' (l ++ be4 k) ∧ Fr w w' bw sv sv' := by
  have HP := i32_any bw sv l k hk w hW hl
  have hd : decide (2147483647 < (k : Int)) = false := decide_eq_false (by omega)
  clear hW
  go_enter Tryf.func37, Tryf.ntmps37
  go_wp2_with (go_at_call 44; refine HP.mono ?_; rintro e w2 ⟨rfl, hd2⟩)
  go_end0
  exact ⟨rfl, hd2⟩
end Go.Proofs.Qxb6613276aFmt
