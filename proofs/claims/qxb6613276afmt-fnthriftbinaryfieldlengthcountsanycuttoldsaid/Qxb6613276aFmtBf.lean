/-
  binaryField: the writer's bytes behind it.
-/
import Derived.Test.Qxb6613276aFmtWr
namespace Go.Proofs.Qxb6613276aFmt
open Go Go.RowKit Mem

/-- A field's bytes: type 11, the id, the length, the bytes. -/
def fieldBytes (id : Int) (b : List UInt8) : List UInt8 := [11] ++ be2 (u16 id) ++ be4 b.length ++ b

theorem fieldBytes_length (id : Int) (b : List UInt8) : (fieldBytes id b).length = 7 + b.length := by
  simp [fieldBytes, be2, be4]; omega

theorem join_field (l : List UInt8) (id : Int) (b : List UInt8) : l ++ [11] ++ be2 (u16 id) ++ be4 b.length ++ b = l ++ fieldBytes id b := by
  simp [fieldBytes]

set_option maxHeartbeats 1000000 in
set_option maxRecDepth 100000 in
theorem bf_any (bw : Nat) (sv : Value) (l : List UInt8) (id : Int) (v : Value) (b : List UInt8) (w : World) (hW : Writer w bw sv l) (hv : Owns w v b)
    (hne1 : v.ownBlock ≠ some bw) (hne2 : ∀ g, v.ownBlock = some g → sv.ownBlock ≠ some g) (hl : l.length ≤ 900000) (hb : b.length ≤ 65536) :
    Calls Tryf.prog 29 #[.pointer (some ⟨bw, 0, none⟩), .int .i16 id, v] w fun e w' => e = .returned (.tuple #[]) ∧ ∃ sv', Writer w' bw sv' (l ++ fieldBytes id b) ∧ Fr w w' bw sv sv' := by
  obtain ⟨i0, hi, hz0, hz1, hz2⟩ := info_parts info5
  have HW : Hid (Writer w bw sv l) := hW
  have HV : Hid (Owns w v b) := hv
  have HN1 : Hid (v.ownBlock ≠ some bw) := hne1
  have HN2 : Hid (∀ g, v.ownBlock = some g → sv.ownBlock ≠ some g) := hne2
  clear hW hv hne1 hne2
  have hfin : ∀ (w1 w2 : World) (sv1 sv2 : Value) (L2 : List UInt8), Fr w w1 bw sv sv1 → Fr w1 w2 bw sv1 sv2 → Writer w2 bw sv2 L2 → Owns w2 v b := fun w1 w2 sv1 sv2 L2 hF1 hF2 _ =>
    (hF1.trans hF2).keep HV.out HN1.out HN2.out
  rcases HV.out.2 with ⟨rfl, hn⟩ | ⟨g, cap, cur, rfl, _⟩
  · clear hfin
    have hbn : b = [] := List.eq_nil_of_length_eq_zero hn
    subst hbn
    go_enter Tryf.func29, Tryf.ntmps29
    go_wp2_with fail
    refine (field_any bw sv l id w HW.out (by omega)).mono ?_
    rintro e w1 ⟨rfl, sv1, hW1, hF1⟩
    have HW1 : Hid (Writer w1 bw sv1 (l ++ [11] ++ be2 (u16 id))) := hW1
    have HF1 : Hid (Fr w w1 bw sv sv1) := hF1
    have HL := length_any bw sv1 (l ++ [11] ++ be2 (u16 id)) 0 (by omega) w1 hW1 (by simp [be2]; omega)
    rw [show ((0 : Nat) : Int) = 0 from rfl] at HL
    clear hW1 hF1
    go_wp2_with fail
    refine HL.mono ?_
    rintro e w2 ⟨rfl, sv2, hW2, hF2⟩
    clear HL
    obtain ⟨L2, hL2⟩ : ∃ L2, L2 = l ++ [11] ++ be2 (u16 id) ++ be4 0 := ⟨_, rfl⟩
    rw [← hL2] at hW2
    have HL2 : Hid (L2 = l ++ [11] ++ be2 (u16 id) ++ be4 0) := hL2
    have hpos : 0 < L2.length := by rw [hL2]; simp [be4]; omega
    clear hL2
    obtain ⟨g2, cap2, rfl, _, hlt2⟩ := World.ownsRow.form hW2.own hpos
    have hc2 := hW2.cell0
    have hf2 := hW2.free 0
    have HW2 : Hid (Writer w2 bw (.slice (some ⟨g2, 0, none⟩) L2.length cap2) L2) := hW2
    have HF2 : Hid (Fr w1 w2 bw sv1 (.slice (some ⟨g2, 0, none⟩) L2.length cap2)) := hF2
    clear hW2 hF2
    go_wp2_with (at_builtin; refine wpList_append_own_none rfl _ _ 22 rfl 0 5 i0 1 Tryf.underlying22 hi _ _ _ rfl HW2.out.own rfl ?_)
    go_end0
    obtain ⟨hW3, hF3⟩ := HW2.out.step (w1 := w2) (l' := L2) ⟨rfl, rfl, rfl, Nat.le_refl _, fun _ _ _ => rfl⟩ HW2.out.own (.inl rfl)
    refine ⟨rfl, _, ?_, (HF1.out.trans HF2.out).trans hF3⟩
    rw [← join_field, List.append_nil]
    rw [HL2.out] at hW3 ⊢
    exact hW3
  · go_enter Tryf.func29, Tryf.ntmps29
    go_wp2_with fail
    refine (field_any bw sv l id w HW.out (by omega)).mono ?_
    rintro e w1 ⟨rfl, sv1, hW1, hF1⟩
    have HW1 : Hid (Writer w1 bw sv1 (l ++ [11] ++ be2 (u16 id))) := hW1
    have HF1 : Hid (Fr w w1 bw sv sv1) := hF1
    have HL := length_any bw sv1 (l ++ [11] ++ be2 (u16 id)) b.length (by omega) w1 hW1 (by simp [be2]; omega)
    clear hW1 hF1
    go_wp2_with fail
    refine HL.mono ?_
    rintro e w2 ⟨rfl, sv2, hW2, hF2⟩
    clear HL
    obtain ⟨L2, hL2⟩ : ∃ L2, L2 = l ++ [11] ++ be2 (u16 id) ++ be4 b.length := ⟨_, rfl⟩
    rw [← hL2] at hW2
    have HL2 : Hid (L2 = l ++ [11] ++ be2 (u16 id) ++ be4 b.length) := hL2
    have hpos : 0 < L2.length := by rw [hL2]; simp [be4]; omega
    have hL2l : L2.length ≤ 1048000 := by rw [hL2]; simp [be4, be2]; omega
    clear hL2
    have HB : Hid (Owns w2 (.slice (some ⟨g, 0, none⟩) b.length cap) b) := hfin w1 w2 sv1 sv2 L2 HF1.out hF2 hW2
    clear hfin
    obtain ⟨g2, cap2, rfl, _, hlt2⟩ := World.ownsRow.form hW2.own hpos
    have hc2 := hW2.cell0
    have HW2 : Hid (Writer w2 bw (.slice (some ⟨g2, 0, none⟩) L2.length cap2) L2) := hW2
    have HF2 : Hid (Fr w1 w2 bw sv1 (.slice (some ⟨g2, 0, none⟩) L2.length cap2)) := hF2
    clear hW2 hF2
    go_wp2_with (at_builtin; refine wpList_append_own_at _ rfl _ _ 22 rfl 0 5 i0 (.int .u8 0) 1 1 Tryf.underlying22 hi hz0 hz1 hz2 rfl (by decide) _ L2.length (bv L2) rfl HW2.out.own ⟨g, 0, none⟩ b.length cap (bv b) rfl ?c0 ?c1 ?c2 ?c3 ?c4 (Nat.zero_le _) ?_)
    case c0 => rw [bv_length, Nat.mul_one]
    case c1 => exact World.ownsRow.cells HB.out (g := g) rfl
    case c2 => exact bv_one b
    case c3 => unfold maxLen; omega
    case c4 => omega
    intro v' w3 ho hg _ hat
    obtain ⟨g3, cap3, rfl, _, hlt3⟩ := World.ownsRow.form ho (by omega)
    have ho' : Owns w3 (.slice (some ⟨g3, 0, none⟩) (L2 ++ b).length cap3) (L2 ++ b) := by
      unfold Owns
      rw [bv_append, List.length_append]
      exact ho
    have hst := HW2.out.still hg
    obtain ⟨hW3, hF3⟩ := HW2.out.step hg ho' (by
      rcases hat with e | e
      · left; rw [← e]; rfl
      · right
        have : g3 = w2.heap.size := by simpa [Value.ownBlock] using e
        omega)
    have hc3 : w3.cell? ⟨bw, 0, none⟩ = some (.slice (some ⟨g2, 0, none⟩) L2.length cap2) := by simp [World.cell?, hst]
    have hf3 : w3.frozen? ⟨bw, 0, none⟩ = false := by simp [World.frozen?, hst]
    rw [List.length_append] at hW3 hF3
    have HW3 : Hid (Writer (w3.setCell ⟨bw, 0, none⟩ (.slice (some ⟨g3, 0, none⟩) (L2.length + b.length) cap3)) bw (.slice (some ⟨g3, 0, none⟩) (L2.length + b.length) cap3) (L2 ++ b)) := hW3
    have HF3 : Hid (Fr w2 (w3.setCell ⟨bw, 0, none⟩ (.slice (some ⟨g3, 0, none⟩) (L2.length + b.length) cap3)) bw (.slice (some ⟨g2, 0, none⟩) L2.length cap2) (.slice (some ⟨g3, 0, none⟩) (L2.length + b.length) cap3)) := hF3
    clear hW3 hF3 ho' ho hg hat hst
    go_wp2
    go_end0
    refine ⟨rfl, _, ?_, (HF1.out.trans HF2.out).trans HF3.out⟩
    rw [← join_field, ← HL2.out]
    exact HW3.out

theorem zzbf_any (bw : Nat) (sv : Value) (l : List UInt8) (id : Int) (v : Value) (b : List UInt8) (w : World) (hW : Writer w bw sv l) (hv : Owns w v b)
    (hne1 : v.ownBlock ≠ some bw) (hne2 : ∀ g, v.ownBlock = some g → sv.ownBlock ≠ some g) (hl : l.length ≤ 900000) (hb : b.length ≤ 65536) :
    Calls Tryf.prog 18 #[.pointer (some ⟨bw, 0, none⟩), .int .i16 id, v] w fun e w' => e = .returned (.tuple #[]) ∧ ∃ sv', Writer w' bw sv' (l ++ fieldBytes id b) ∧ Fr w w' bw sv sv' := by
  have H := bf_any bw sv l id v b w hW hv hne1 hne2 hl hb
  clear hW hv hne1 hne2
  go_enter Tryf.func18, Tryf.ntmps18
  go_wp2_with (go_at_call 29; refine H.mono ?_; rintro e w2 ⟨rfl, hd2⟩)
  go_end0
  exact ⟨rfl, hd2⟩
end Go.Proofs.Qxb6613276aFmt
