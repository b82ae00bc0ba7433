/-
  FnThriftBinaryFieldsReadBackInOrder: the walk.
-/
import Derived.Test.Qxb6613276aFmtAt
namespace Go.Proofs.Qxb6613276aFmt
open Go Go.RowKit Mem

theorem zero64 (w : World) : (zeroValue 64).run Tryf.prog w = .ok (.agg #[.slice none 0 0, .nilIface]) w := by kernel_rfl

theorem new_any (ao : Option Addr) (n cap : Nat) (w : World) :
    Calls Tryf.prog 17 #[.slice ao n cap] w fun e w' => e = .returned (.pointer (some ⟨w.heap.size, 0, none⟩)) ∧ w.alloc (.cells #[.slice ao n cap, .nilIface] 64) = w' := by
  have hz := zero64
  go_enter Tryf.func17, Tryf.ntmps17
  go_wp2
  go_ret
  exact ⟨rfl, rfl⟩

theorem Reads_below {w w' : World} {v : Value} {l : List UInt8} (h : Reads w v l) (hb : Below w.heap.size w w') : Reads w' v l := by
  rcases h with h | ⟨a, cap, hv, hc⟩
  · exact .inl h
  · exact .inr ⟨a, cap, hv, fun j hj => by rw [hb.cell (World.block_lt_of_cell? w _ (hc j hj))]; exact hc j hj⟩

theorem writer_new {w : World} {v : Value} {l : List UInt8} (h : Owns w v l) : Writer (w.alloc (.cells #[v, .nilIface] 64)) w.heap.size v l where
  block := heap_alloc_new w _
  own := World.ownsRow.alloc h _
  apart e := by have := (World.ownsRow.lt h _ e).2; omega

theorem not_both {a b : Value} {lo hi lo' hi' : Nat} (ha : Within a lo hi) (hb : Within b lo' hi') (h : hi ≤ lo') : ∀ g, b.ownBlock = some g → a.ownBlock ≠ some g := by
  intro g hg e
  have := ha g e
  have := hb g hg
  omega

theorem not_both' {a b : Value} {lo hi lo' hi' : Nat} (ha : Within a lo hi) (hb : Within b lo' hi') (h : hi ≤ lo') : ∀ g, a.ownBlock = some g → b.ownBlock ≠ some g := by
  intro g hg e
  have := ha g hg
  have := hb g e
  omega

theorem not_at {a : Value} {lo hi k : Nat} (ha : Within a lo hi) (h : hi ≤ k) : a.ownBlock ≠ some k := by
  intro e
  have := ha k e
  omega

theorem owns_cap {w : World} {g n cap : Nat} {l : List UInt8} (h : Owns w (.slice (some ⟨g, 0, none⟩) n cap) l) : l.length ≤ cap := by
  rcases h.2 with ⟨e, _⟩ | ⟨g', cap', cur, e, _, _, hc, _⟩
  · cases e
  · cases e; exact hc

theorem owns_cut {w : World} {g n cap c : Nat} {l : List UInt8} (h : Owns w (.slice (some ⟨g, 0, none⟩) n cap) l) (o m : Nat) (hm : o + m ≤ l.length) : Reads w (.slice (some ⟨g, o, none⟩) m c) ((l.drop o).take m) := by
  have hlen : ((l.drop o).take m).length = m := by simp; omega
  refine .inr ⟨⟨g, o, none⟩, c, by rw [hlen], fun j hj => ?_⟩
  rw [hlen] at hj
  have := World.ownsRow.cells h (g := g) rfl (o + j) _ (bv_at l (o + j) (by omega))
  rw [add_plain] at this ⊢
  rw [Nat.zero_add] at this
  rw [this]
  simp

theorem below_drewN {B : Nat} {a w : World} (h : Below B a w) (n : Nat) : Below B a (w.drewN n) := ⟨h.os, h.tape, h.output, h.size, h.block⟩

theorem far_row {w w' : World} {bw : Nat} {sv sv' v : Value} {l : List UInt8} (h : Fr w w' bw sv sv') (hn : ∀ g, v.ownBlock = some g → sv.ownBlock ≠ some g) (ho : Owns w v l) : ∀ g, v.ownBlock = some g → sv'.ownBlock ≠ some g := by
  intro g hg e
  rcases h.row g e with h' | h'
  · exact hn g hg h'
  · have := (World.ownsRow.lt ho g hg).2; omega

set_option maxHeartbeats 2000000 in
set_option maxRecDepth 100000 in
theorem law5 (v0 v1 v2 : Value) (l0 l1 l2 : List UInt8) (id1 id2 : Int) (w : World) (h0 : Reads w v0 l0) (h1 : Reads w v1 l1) (h2 : Reads w v2 l2)
    (hm0 : l0.length ≤ maxLen) (hm1 : l1.length ≤ maxLen) (hm2 : l2.length ≤ maxLen)
    (a1 : -32768 ≤ id1) (a2 : id1 ≤ 32767) (b1 : -32768 ≤ id2) (b2 : id2 ≤ 32767) :
    Calls Tryf.prog 5 #[v0, .int .i16 id1, v1, .int .i16 id2, v2] w fun e w' => e = .returned (.bool true) ∧ Below w.heap.size w w' := by
  unfold maxLen at hm0 hm1 hm2
  have H0 : Hid (Reads w v0 l0) := h0
  have H1 : Hid (Reads w v1 l1) := h1
  have H2 : Hid (Reads w v2 l2) := h2
  obtain ⟨ao0, cap0, rfl, _⟩ := h0.form
  obtain ⟨ao1, cap1, rfl, _⟩ := h1.form
  obtain ⟨ao2, cap2, rfl, _⟩ := h2.form
  clear h0 h1 h2
  by_cases hbig : l0.length ≤ 65536 ∧ l1.length ≤ 65536 ∧ l2.length ≤ 65536
  · obtain ⟨g0, g1, g2⟩ := hbig
    go_enter Tryf.func5, Tryf.ntmps5
    go_wp2_with (go_at_call 16; go_in)
    refine (clone_any _ l0 w H0.out (by omega)).mono ?_
    rintro e w1 ⟨c0, rfl, o0, k0, f0⟩
    have O0 : Hid (Owns w1 c0 l0) := o0
    have K0 : Hid (Below w.heap.size w w1) := k0
    have F0 : Hid (Within c0 w.heap.size w1.heap.size) := o0.within f0
    obtain ⟨p0, q0, rfl, _⟩ := o0.reads.form
    clear o0 k0 f0
    go_wp2_with fail
    refine (clone_any _ l1 w1 (Reads_below H1.out K0.out) (by omega)).mono ?_
    rintro e w2 ⟨c1, rfl, o1, k1, f1⟩
    have O1 : Hid (Owns w2 c1 l1) := o1
    have K1 : Hid (Below w1.heap.size w1 w2) := k1
    have F1 : Hid (Within c1 w1.heap.size w2.heap.size) := o1.within f1
    obtain ⟨p1, q1, rfl, _⟩ := o1.reads.form
    clear o1 k1 f1
    go_wp2_with fail
    refine (clone_any _ l2 w2 (Reads_below (Reads_below H2.out K0.out) K1.out) (by omega)).mono ?_
    rintro e w3 ⟨c2, rfl, o2, k2, f2⟩
    have O2 : Hid (Owns w3 c2 l2) := o2
    have K2 : Hid (Below w2.heap.size w2 w3) := k2
    have F2 : Hid (Within c2 w2.heap.size w3.heap.size) := o2.within f2
    obtain ⟨p2, q2, rfl, _⟩ := o2.reads.form
    clear o2 k2 f2
    go_wp2_with fail
    refine (clone_any _ l0 w3 (((O0.out.below K1.out).below K2.out).reads) (by omega)).mono ?_
    rintro e w4 ⟨c3, rfl, o3, k3, f3⟩
    have O3 : Hid (Owns w4 c3 l0) := o3
    have K3 : Hid (Below w3.heap.size w3 w4) := k3
    have F3 : Hid (Within c3 w3.heap.size w4.heap.size) := o3.within f3
    obtain ⟨p3, q3, rfl, _⟩ := o3.reads.form
    clear o3 k3 f3
    go_wp2_with fail
    refine (clone_any _ l1 w4 (((O1.out.below K2.out).below K3.out).reads) (by omega)).mono ?_
    rintro e w5 ⟨c4, rfl, o4, k4, f4⟩
    have O4 : Hid (Owns w5 c4 l1) := o4
    have K4 : Hid (Below w4.heap.size w4 w5) := k4
    have F4 : Hid (Within c4 w4.heap.size w5.heap.size) := o4.within f4
    obtain ⟨p4, q4, rfl, _⟩ := o4.reads.form
    clear o4 k4 f4
    go_wp2_with fail
    refine (clone_any _ l2 w5 (((O2.out.below K3.out).below K4.out).reads) (by omega)).mono ?_
    rintro e w6 ⟨c5, rfl, o5, k5, f5⟩
    have O5 : Hid (Owns w6 c5 l2) := o5
    have K5 : Hid (Below w5.heap.size w5 w6) := k5
    have F5 : Hid (Within c5 w5.heap.size w6.heap.size) := o5.within f5
    obtain ⟨p5, q5, rfl, _⟩ := o5.reads.form
    clear o5 k5 f5
    have s0 := K0.out.size
    have s1 := K1.out.size
    have s2 := K2.out.size
    have s3 := K3.out.size
    have s4 := K4.out.size
    have s5 := K5.out.size
    have P0 : Hid (Owns w6 (.slice p0 l0.length q0) l0) := ((((O0.out.below K1.out).below K2.out).below K3.out).below K4.out).below K5.out
    have P1 : Hid (Owns w6 (.slice p1 l1.length q1) l1) := (((O1.out.below K2.out).below K3.out).below K4.out).below K5.out
    have P2 : Hid (Owns w6 (.slice p2 l2.length q2) l2) := ((O2.out.below K3.out).below K4.out).below K5.out
    have P3 : Hid (Owns w6 (.slice p3 l0.length q3) l0) := (O3.out.below K4.out).below K5.out
    have P4 : Hid (Owns w6 (.slice p4 l1.length q4) l1) := O4.out.below K5.out
    have P5 : Hid (Owns w6 (.slice p5 l2.length q5) l2) := O5.out
    have KK : Hid (Below w.heap.size w w6) := ((((K0.out.trans (K1.out.mono (by omega))).trans (K2.out.mono (by omega))).trans (K3.out.mono (by omega))).trans (K4.out.mono (by omega))).trans (K5.out.mono (by omega))
    clear O0 O1 O2 O3 O4 O5 K0 K1 K2 K3 K4 K5 H0 H1 H2
    go_wp2_with fail
    refine (new_any p0 l0.length q0 w6).mono ?_
    rintro e W0 ⟨rfl, hW0⟩
    have V0 : Hid (Writer W0 w6.heap.size (.slice p0 l0.length q0) l0) := hW0 ▸ writer_new P0.out
    have B0 : Hid (Below w6.heap.size w6 W0) := hW0 ▸ ((Below.refl _ w6).alloc (Nat.le_refl _) _)
    clear hW0
    have N01 := not_both F0.out F1.out (Nat.le_refl _)
    have N02 := not_both F0.out F2.out (by omega)
    have N03 := not_both F0.out F3.out (by omega)
    have N04 := not_both F0.out F4.out (by omega)
    have N05 := not_both F0.out F5.out (by omega)
    have M1 := not_at F1.out (k := w6.heap.size) (by omega)
    have M2 := not_at F2.out (k := w6.heap.size) (by omega)
    have M3 := not_at F3.out (k := w6.heap.size) (by omega)
    have M4 := not_at F4.out (k := w6.heap.size) (by omega)
    have M5 := not_at F5.out (k := w6.heap.size) (by omega)
    go_wp2_with fail
    refine (zzbf_any w6.heap.size _ l0 id1 _ l1 W0 V0.out (P1.out.below B0.out) M1 N01 (by omega) (by omega)).mono ?_
    rintro e w7 ⟨rfl, sv1, hV1, hF1⟩
    have V1 : Hid (Writer w7 w6.heap.size sv1 (l0 ++ fieldBytes id1 l1)) := hV1
    have E1 : Hid (Fr W0 w7 w6.heap.size (.slice p0 l0.length q0) sv1) := hF1
    have P2' : Hid (Owns w7 (.slice p2 l2.length q2) l2) := hF1.keep (P2.out.below B0.out) M2 N02
    have P3' : Hid (Owns w7 (.slice p3 l0.length q3) l0) := hF1.keep (P3.out.below B0.out) M3 N03
    have P4' : Hid (Owns w7 (.slice p4 l1.length q4) l1) := hF1.keep (P4.out.below B0.out) M4 N04
    have P5' : Hid (Owns w7 (.slice p5 l2.length q5) l2) := hF1.keep (P5.out.below B0.out) M5 N05
    have L2 := far_row E1.out N02 (P2.out.below B0.out)
    have L3 := far_row E1.out N03 (P3.out.below B0.out)
    have L4 := far_row E1.out N04 (P4.out.below B0.out)
    have L5 := far_row E1.out N05 (P5.out.below B0.out)
    have hlen1 : (l0 ++ fieldBytes id1 l1).length = l0.length + 7 + l1.length := by simp [fieldBytes_length]; omega
    clear P1 P2 P3 P4 P5 hV1 hF1
    go_wp2_with fail
    refine (zzbf_any w6.heap.size sv1 (l0 ++ fieldBytes id1 l1) id2 _ l2 w7 V1.out P2'.out M2 L2 (by omega) (by omega)).mono ?_
    rintro e w8 ⟨rfl, sv2, hV2, hF2⟩
    have P3'' : Hid (Owns w8 (.slice p3 l0.length q3) l0) := hF2.keep P3'.out M3 L3
    have P4'' : Hid (Owns w8 (.slice p4 l1.length q4) l1) := hF2.keep P4'.out M4 L4
    have P5'' : Hid (Owns w8 (.slice p5 l2.length q5) l2) := hF2.keep P5'.out M5 L5
    have hlen2 : (l0 ++ fieldBytes id1 l1 ++ fieldBytes id2 l2).length = l0.length + 7 + l1.length + 7 + l2.length := by rw [List.length_append, hlen1, fieldBytes_length]; omega
    obtain ⟨g, cap, rfl, _, hglt⟩ := World.ownsRow.form hV2.own (by omega)
    have V2 : Hid (Writer w8 w6.heap.size (.slice (some ⟨g, 0, none⟩) (l0 ++ fieldBytes id1 l1 ++ fieldBytes id2 l2).length cap) (l0 ++ fieldBytes id1 l1 ++ fieldBytes id2 l2)) := hV2
    have FIN : Hid (Below w.heap.size w w8) := by
      have e1 := E1.out.grown (B := w.heap.size) (by have := B0.out.size; omega) (by omega) (fun x hx => (F0.out x hx).1)
      have e2 := hF2.grown (B := w.heap.size) (by have := B0.out.size; have := E1.out.size; omega) (by omega) (fun x hx => by
        rcases E1.out.row x hx with h | h
        · exact (F0.out x h).1
        · have := B0.out.size; omega)
      exact ((KK.out.trans (B0.out.mono (by omega))).trans e1).trans e2
    have hc0 := hV2.cell0
    have hc1 := hV2.cell1
    have hcap := owns_cap hV2.own
    have RO : Hid (Reads w8 (.slice (some ⟨g, 0, none⟩) (l0.length + 7 + l1.length + 7 + l2.length) cap) (l0 ++ fieldBytes id1 l1 ++ fieldBytes id2 l2)) := by
      have := hV2.own.reads
      rw [hlen2] at this
      exact this
    have RP : Hid (Reads w8 (.slice (some ⟨g, 0, none⟩) l0.length cap) l0) := by
      have := owns_cut (c := cap) hV2.own 0 l0.length (by rw [hlen2]; omega)
      rw [List.drop_zero, List.append_assoc, List.take_left] at this
      exact this
    rw [hlen2] at hc0 hcap
    have hcap0 : l0.length ≤ cap := by omega
    clear P2' P3' P4' P5' V1 V0 E1 hV2 hF2 M1 M2 M3 M4 M5 N01 N02 N03 N04 N05 L2 L3 L4 L5 F0 F1 F2 F3 F4 F5 KK B0
    go_wp2_with (first | (go_at_call 19; go_in) | (go_at_call 20; go_in))
    refine (equal_any _ _ l0 w8 RP.out P3''.out.reads (by omega)).mono ?_
    rintro e w9 ⟨rfl, n9, hw9⟩
    have RO9 : Hid (Reads w9 (.slice (some ⟨g, 0, none⟩) (l0.length + 7 + l1.length + 7 + l2.length) cap) (l0 ++ fieldBytes id1 l1 ++ fieldBytes id2 l2)) := hw9 ▸ RO.out.drewN n9
    have R49 : Hid (Reads w9 (.slice p4 l1.length q4) l1) := hw9 ▸ P4''.out.reads.drewN n9
    have R59 : Hid (Reads w9 (.slice p5 l2.length q5) l2) := hw9 ▸ P5''.out.reads.drewN n9
    have FIN9 : Hid (Below w.heap.size w w9) := hw9 ▸ below_drewN FIN.out n9
    have HL1 : Hid ((l0 ++ fieldBytes id1 l1).length = l0.length + 7 + l1.length) := hlen1
    have HL2 : Hid ((l0 ++ fieldBytes id1 l1 ++ fieldBytes id2 l2).length = l0.length + 7 + l1.length + 7 + l2.length) := hlen2
    clear hw9 RO RP P3'' P4'' P5'' FIN V2 hc0 hc1 hlen1 hlen2
    go_wp2_with fail
    refine (at_any _ _ l0 l1 (fieldBytes id2 l2) id1 w9 RO9.out R49.out a1 a2 (by omega) (by rw [HL2.out]; omega)).mono ?_
    rintro e w10 ⟨rfl, n10, hw10⟩
    have A2 := at_any _ _ (l0 ++ fieldBytes id1 l1) l2 [] id2 w10 (by rw [List.append_nil]; exact hw10 ▸ RO9.out.drewN n10) (hw10 ▸ R59.out.drewN n10) b1 b2 (by omega) (by rw [List.append_nil, HL2.out]; omega)
    rw [HL1.out, show ((l0.length + 7 + l1.length : Nat) : Int) = (l0.length : Int) + 7 + (l1.length : Int) by omega] at A2
    have FIN10 : Hid (Below w.heap.size w w10) := hw10 ▸ below_drewN FIN9.out n10
    clear hw10
    go_wp2_with fail
    refine A2.mono ?_
    rintro e w11 ⟨rfl, n11, hw11⟩
    have FIN11 : Hid (Below w.heap.size w w11) := hw11 ▸ below_drewN FIN10.out n11
    clear hw11 A2
    go_wp2
    go_ret
    exact ⟨rfl, FIN11.out⟩
  · clear H0 H1 H2
    go_enter Tryf.func5, Tryf.ntmps5
    go_wp2
    all_goals
      go_ret
      exact ⟨rfl, Below.refl _ _⟩
end Go.Proofs.Qxb6613276aFmt
