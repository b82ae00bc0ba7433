/-
  FnThriftBinaryFieldLengthCountsAnyCut: the walk.
-/
import Derived.Test.Qxb6613276aFmtLaw5
namespace Go.Proofs.Qxb6613276aFmt
open Go Go.RowKit Mem

theorem Reads.cut {w : World} {ao : Option Addr} {n cap m : Nat} {l : List UInt8} (h : Reads w (.slice ao n cap) l) (hm : m ≤ l.length) : Reads w (.slice ao m cap) (l.take m) := by
  have hlen : (l.take m).length = m := by simp; omega
  rcases h with ⟨e, rfl⟩ | ⟨a, c, e, hc⟩
  · cases e
    have : m = 0 := by simpa using hm
    subst this
    exact .inl ⟨rfl, rfl⟩
  · cases e
    refine .inr ⟨a, cap, by rw [hlen], fun j hj => ?_⟩
    rw [hlen] at hj
    rw [hc j (by omega)]
    simp

theorem owns_nil (w : World) : Owns w (.slice none 0 0) [] := World.ownsRow_nil w 0 5 1

theorem owns_byte {w : World} {g n cap : Nat} {l : List UInt8} (h : Owns w (.slice (some ⟨g, 0, none⟩) n cap) l) (j : Nat) (hj : j < l.length) : w.cell? ⟨g, j, none⟩ = some (.int .u8 ((l.getD j 0).toNat : Int)) := by
  have := World.ownsRow.cells h (g := g) rfl j _ (bv_at l j hj)
  rw [add_plain, Nat.zero_add] at this
  rw [this, List.getD_eq_getElem?_getD, List.getElem?_eq_getElem hj]
  rfl

theorem head0 (id : Int) (b : List UInt8) : (((fieldBytes id b).getD 0 0).toNat : Int) = 11 := by
  have := at_type [] [] b id
  simp only [List.nil_append, List.append_nil, List.length_nil] at this
  rw [this]; rfl
theorem head1 (id : Int) (b : List UInt8) : (((fieldBytes id b).getD 1 0).toNat : Int) = ((u16 id / 256 : Nat) : Int) := by
  have h := u16_lt id
  have := field_form [] [] b id
  simp only [List.nil_append, List.append_nil] at this
  rw [this]
  simp only [List.getD_cons_succ, List.getD_cons_zero]
  exact byte_toNat (by omega)
theorem head2 (id : Int) (b : List UInt8) : (((fieldBytes id b).getD 2 0).toNat : Int) = ((u16 id % 256 : Nat) : Int) := by
  have := field_form [] [] b id
  simp only [List.nil_append, List.append_nil] at this
  rw [this]
  simp only [List.getD_cons_succ, List.getD_cons_zero]
  exact byte_toNat (by omega)
theorem head_len (id : Int) (b : List UInt8) (hb : b.length ≤ 65536) : be32 (fieldBytes id b) 3 = (b.length : Int) := by
  have := at_len [] [] b id hb
  simpa using this

theorem tail7 (id : Int) (b : List UInt8) (n : Nat) : ((fieldBytes id b).drop 7).take n = b.take n := by
  have := field_form [] [] b id
  simp only [List.nil_append, List.append_nil] at this
  rw [this]
  rfl

theorem owns_cap' {w : World} {ao : Option Addr} {n cap : Nat} {l : List UInt8} (h : Owns w (.slice ao n cap) l) : l.length ≤ cap := by
  rcases h.2 with ⟨e, hn⟩ | ⟨g', cap', cur, e, _, _, hc, _⟩
  · cases e; omega
  · cases e; exact hc

set_option maxHeartbeats 4000000 in
set_option maxRecDepth 100000 in
theorem law6 (v : Value) (l : List UInt8) (id k : Int) (w : World) (h0 : Reads w v l) (hm0 : l.length ≤ maxLen) (a1 : -32768 ≤ id) (a2 : id ≤ 32767) (c1 : -9223372036854775808 ≤ k) (c2 : k ≤ 9223372036854775807) :
    Calls Tryf.prog 6 #[.int .i16 id, v, .int .i64 k] w fun e w' => e = .returned (.bool true) ∧ Below w.heap.size w w' := by
  unfold maxLen at hm0
  have H0 : Hid (Reads w v l) := h0
  obtain ⟨ao0, cap0, rfl, _⟩ := h0.form
  clear h0
  by_cases hbig : l.length ≤ 65536 ∧ 0 ≤ k ∧ k ≤ l.length
  · obtain ⟨g0, g1, g2⟩ := hbig
    obtain ⟨m, rfl⟩ : ∃ m : Nat, k = m := ⟨k.toNat, by omega⟩
    have hml : m ≤ l.length := by omega
    clear g1 g2 c1 c2
    go_enter Tryf.func6, Tryf.ntmps6
    go_wp2_with (go_at_call 23; go_in)
    refine (clone_any _ l w H0.out (by omega)).mono ?_
    rintro e w1 ⟨c0, rfl, o0, k0, f0⟩
    have O0 : Hid (Owns w1 c0 l) := o0
    have K0 : Hid (Below w.heap.size w w1) := k0
    have F0 : Hid (Within c0 w.heap.size w1.heap.size) := o0.within f0
    obtain ⟨p0, q0, rfl, _⟩ := o0.reads.form
    clear o0 k0 f0
    have hq0 : l.length ≤ q0 := owns_cap' O0.out
    have hmq0 : m ≤ q0 := by omega
    have hlm : (l.take m).length = m := by simp; omega
    have HLM : Hid ((l.take m).length = m) := hlm
    clear hlm
    go_wp2_with fail
    refine (clone_any _ (l.take m) w1 (Reads.cut O0.out.reads hml) (by rw [HLM.out]; omega)).mono ?_
    rintro e w2 ⟨c1, rfl, o1, k1, f1⟩
    have O1 : Hid (Owns w2 c1 (l.take m)) := o1
    have K1 : Hid (Below w1.heap.size w1 w2) := k1
    have F1 : Hid (Within c1 w1.heap.size w2.heap.size) := o1.within f1
    obtain ⟨p1, q1, rfl, _⟩ := o1.reads.form
    rw [HLM.out] at O1 F1
    rw [HLM.out]
    clear o1 k1 f1
    go_wp2_with fail
    refine (clone_any _ l w2 (O0.out.below K1.out).reads (by omega)).mono ?_
    rintro e w3 ⟨c2, rfl, o2, k2, f2⟩
    have O2 : Hid (Owns w3 c2 l) := o2
    have K2 : Hid (Below w2.heap.size w2 w3) := k2
    have F2 : Hid (Within c2 w2.heap.size w3.heap.size) := o2.within f2
    obtain ⟨p2, q2, rfl, _⟩ := o2.reads.form
    clear o2 k2 f2
    have s0 := K0.out.size
    have s1 := K1.out.size
    have s2 := K2.out.size
    have P0 : Hid (Owns w3 (.slice p0 l.length q0) l) := (O0.out.below K1.out).below K2.out
    have P1 : Hid (Owns w3 (.slice p1 m q1) (l.take m)) := O1.out.below K2.out
    have P2 : Hid (Owns w3 (.slice p2 l.length q2) l) := O2.out
    have KK : Hid (Below w.heap.size w w3) := (K0.out.trans (K1.out.mono (by omega))).trans (K2.out.mono (by omega))
    clear O0 O1 O2 K0 K1 K2 H0
    go_wp2_with fail
    refine (new_any none 0 0 w3).mono ?_
    rintro e W0 ⟨rfl, hW0⟩
    have V0 : Hid (Writer W0 w3.heap.size (.slice none 0 0) []) := hW0 ▸ writer_new (owns_nil w3)
    have B0 : Hid (Below w3.heap.size w3 W0) := hW0 ▸ ((Below.refl _ w3).alloc (Nat.le_refl _) _)
    clear hW0
    have M0 := not_at F0.out (k := w3.heap.size) (by omega)
    have M1 := not_at F1.out (k := w3.heap.size) (by omega)
    have M2 := not_at F2.out (k := w3.heap.size) (by omega)
    go_wp2_with fail
    refine (zzbf_any w3.heap.size _ [] id _ l W0 V0.out (P0.out.below B0.out) M0 (fun g _ h => by simp [Value.ownBlock] at h) (by simp) (by omega)).mono ?_
    rintro e w4 ⟨rfl, svA, hVA, hFA⟩
    rw [List.nil_append] at hVA
    have P1' : Hid (Owns w4 (.slice p1 m q1) (l.take m)) := hFA.keep (P1.out.below B0.out) M1 (fun g _ h => by simp [Value.ownBlock] at h)
    have P2' : Hid (Owns w4 (.slice p2 l.length q2) l) := hFA.keep (P2.out.below B0.out) M2 (fun g _ h => by simp [Value.ownBlock] at h)
    have hlenA : (fieldBytes id l).length = 7 + l.length := fieldBytes_length id l
    obtain ⟨gA, capA, rfl, _, hAlt⟩ := World.ownsRow.form hVA.own (by omega)
    have VA : Hid (Writer w4 w3.heap.size (.slice (some ⟨gA, 0, none⟩) (fieldBytes id l).length capA) (fieldBytes id l)) := hVA
    have hcA := hVA.cell0
    rw [hlenA] at hcA
    have K4 : Hid (Below w.heap.size w w4) := (KK.out.trans (B0.out.mono (by omega))).trans (hFA.grown (B := w.heap.size) (by have := B0.out.size; omega) (by omega) (fun x hx => by simp [Value.ownBlock] at hx))
    have hrowA : ∀ x, (Value.slice (some ⟨gA, 0, none⟩) (fieldBytes id l).length capA).ownBlock = some x → w.heap.size ≤ x := fun x hx => by
      rcases hFA.row x hx with h | h
      · simp [Value.ownBlock] at h
      · have := B0.out.size; omega
    have hgA : w.heap.size ≤ gA := hrowA gA rfl
    have sz4 : w3.heap.size < w4.heap.size := hVA.lt
    have HLA : Hid ((fieldBytes id l).length = 7 + l.length) := hlenA
    have HAp : Hid ((Value.slice (some ⟨gA, 0, none⟩) (fieldBytes id l).length capA).ownBlock ≠ some w3.heap.size) := hVA.apart
    clear hVA hFA P0 P1 P2 V0 B0 KK M0 hlenA hrowA
    go_wp2_with (go_at_call 19; go_in)
    refine (new_any none 0 0 w4).mono ?_
    rintro e W1 ⟨rfl, hW1⟩
    have V1 : Hid (Writer W1 w4.heap.size (.slice none 0 0) []) := hW1 ▸ writer_new (owns_nil w4)
    have B1 : Hid (Below w4.heap.size w4 W1) := hW1 ▸ ((Below.refl _ w4).alloc (Nat.le_refl _) _)
    clear hW1
    have M1' := not_at F1.out (k := w4.heap.size) (by omega)
    have M2' := not_at F2.out (k := w4.heap.size) (by omega)
    go_wp2_with fail
    refine (zzbf_any w4.heap.size _ [] id _ (l.take m) W1 V1.out (P1'.out.below B1.out) M1' (fun g _ h => by simp [Value.ownBlock] at h) (by simp) (by rw [HLM.out]; omega)).mono ?_
    rintro e w5 ⟨rfl, svB, hVB, hFB⟩
    rw [List.nil_append] at hVB
    have P2'' : Hid (Owns w5 (.slice p2 l.length q2) l) := hFB.keep (P2'.out.below B1.out) M2' (fun g _ h => by simp [Value.ownBlock] at h)
    have OA : Hid (Owns w5 (.slice (some ⟨gA, 0, none⟩) (fieldBytes id l).length capA) (fieldBytes id l)) := hFB.keep (VA.out.own.below B1.out) (fun h => by
      have : gA = w4.heap.size := by simpa [Value.ownBlock] using h
      omega) (fun g _ h => by simp [Value.ownBlock] at h)
    have hbA : w5.heap[w3.heap.size]? = some (.cells #[.slice (some ⟨gA, 0, none⟩) (fieldBytes id l).length capA, .nilIface] 64 (0, 0)) := by
      rw [hFB.block w3.heap.size (by have := B1.out.size; omega) (by omega) (by simp [Value.ownBlock]), B1.out.block _ (by omega)]
      exact VA.out.block
    have hlenB : (fieldBytes id (l.take m)).length = 7 + m := by rw [fieldBytes_length, HLM.out]
    have HLB : Hid ((fieldBytes id (l.take m)).length = 7 + m) := hlenB
    obtain ⟨gB, capB, rfl, _, hBlt⟩ := World.ownsRow.form hVB.own (by omega)
    have OB : Hid (Owns w5 (.slice (some ⟨gB, 0, none⟩) (fieldBytes id (l.take m)).length capB) (fieldBytes id (l.take m))) := hVB.own
    have hcB := hVB.cell0
    rw [hlenB] at hcB
    have hcB1 := hVB.cell1
    have hcA1 : w5.cell? ⟨w3.heap.size, 1, none⟩ = some .nilIface := by simp [World.cell?, hbA]
    have K5 : Hid (Below w.heap.size w w5) := (K4.out.trans (B1.out.mono (by omega))).trans (hFB.grown (B := w.heap.size) (by have := B1.out.size; omega) (by omega) (fun x hx => by simp [Value.ownBlock] at hx))
    clear hVB hFB hlenB V1 B1 P1' P2' VA K4 hbA HAp M1 M2 M1' M2' F0 F1 F2 hcA
    go_wp2_with (first | (go_at_call 19; go_in) | (go_at_call 20; go_in))
    have cA0 := owns_byte OA.out 0 (by rw [HLA.out]; omega)
    have cA1 := owns_byte OA.out 1 (by rw [HLA.out]; omega)
    have cA2 := owns_byte OA.out 2 (by rw [HLA.out]; omega)
    have cB0 := owns_byte OB.out 0 (by rw [HLB.out]; omega)
    have cB1 := owns_byte OB.out 1 (by rw [HLB.out]; omega)
    have cB2 := owns_byte OB.out 2 (by rw [HLB.out]; omega)
    rw [head0] at cA0 cB0
    rw [head1] at cA1 cB1
    rw [head2] at cA2 cB2
    have hid := id_back id a1 a2
    have hu := u16_lt id
    have b1 : u16 id / 256 < 256 := by omega
    have b2 : u16 id % 256 < 256 := by omega
    generalize u16 id / 256 = x1 at *
    generalize u16 id % 256 = x2 at *
    have n0A : 0 < 7 + l.length := by omega
    have n0B : 0 < 7 + m := by omega
    have n1A : (1 : Int) < 7 + (l.length : Int) := by omega
    have n1B : (1 : Int) < 7 + (m : Int) := by omega
    have n2A : (2 : Int) < 7 + (l.length : Int) := by omega
    have n2B : (2 : Int) < 7 + (m : Int) := by omega
    have y1 : IntKind.u16.wrap (x1 : Int) = (x1 : Int) := by rw [IntKind.wrap_u16]; omega
    have y2 : IntKind.u16.wrap (x2 : Int) = (x2 : Int) := by rw [IntKind.wrap_u16]; omega
    have s1 : IntKind.u16.wrap ((x1 : Int) * 256) = (x1 : Int) * 256 := by rw [IntKind.wrap_u16]; omega
    have o1 : bits .or .u16 ((x1 : Int) * 256) (x2 : Int) = (x1 : Int) * 256 + (x2 : Int) := or2 x1 x2 (by omega) (by omega)
    clear hcB hcB1 hcA1
    have HA : Hid (∀ n, Calls Tryf.prog 24 #[.slice (some ⟨gA, 0, none⟩) (7 + l.length) capA, .int .i64 3] (w5.drewN n) fun e w' => e = .returned (.int .u32 (l.length : Int)) ∧ ∃ m, w' = w5.drewN m) := fun n => by
      have h := be32_any _ (fieldBytes id l) 3 (w5.drewN n) (OA.out.reads.drewN n) (by rw [HLA.out]; omega) (by rw [HLA.out]; omega)
      rw [head_len id l g0, HLA.out, show ((3 : Nat) : Int) = 3 from rfl] at h
      exact Calls.quiet_of h
    have HB : Hid (∀ n, Calls Tryf.prog 24 #[.slice (some ⟨gB, 0, none⟩) (7 + m) capB, .int .i64 3] (w5.drewN n) fun e w' => e = .returned (.int .u32 (m : Int)) ∧ ∃ m, w' = w5.drewN m) := fun n => by
      have h := be32_any _ (fieldBytes id (l.take m)) 3 (w5.drewN n) (OB.out.reads.drewN n) (by rw [HLB.out]; omega) (by rw [HLB.out]; omega)
      rw [head_len id (l.take m) (by rw [HLM.out]; omega), HLM.out, HLB.out, show ((3 : Nat) : Int) = 3 from rfl] at h
      exact Calls.quiet_of h
    go_quiet (fail)
    go_wp2_with fail
    go_quiet (fail)
    go_wp2_with fail
    refine (HA.out _).mono ?_
    rintro e w6 ⟨rfl, n6, rfl⟩
    go_wp2_with fail
    refine (HB.out _).mono ?_
    rintro e w7 ⟨rfl, n7, rfl⟩
    clear HA HB y1 y2 s1 o1 hid n0A n0B n1A n1B n2A n2B cA0 cA1 cA2 cB0 cB1 cB2 b1 b2 hu
    have hcapA : 7 + l.length ≤ capA := by have := owns_cap OA.out; rw [HLA.out] at this; exact this
    have hcapB : 7 + m ≤ capB := by have := owns_cap OB.out; rw [HLB.out] at this; exact this
    have e1 : IntKind.u32.wrap (m : Int) = (m : Int) := by rw [IntKind.wrap_u32]; omega
    have e2 : IntKind.i64.wrap ((l.length : Int) - (m : Int)) = (l.length : Int) - (m : Int) := by rw [IntKind.wrap_i64]; omega
    have e3 : IntKind.u32.wrap ((l.length : Int) - (m : Int)) = (l.length : Int) - (m : Int) := by rw [IntKind.wrap_u32]; omega
    have e4 : IntKind.i64.wrap (7 + (m : Int)) = 7 + (m : Int) := by rw [IntKind.wrap_i64]; omega
    have RA1' : ∀ c, Reads w5 (.slice (some ⟨gA, 7, none⟩) m c) (l.take m) := fun c => by
      have := owns_cut (c := c) OA.out 7 m (by rw [HLA.out]; omega)
      rw [tail7] at this
      exact this
    have RA2' : ∀ c, Reads w5 (.slice (some ⟨gA, 7, none⟩) l.length c) l := fun c => by
      have := owns_cut (c := c) OA.out 7 l.length (by rw [HLA.out]; omega)
      rw [tail7, List.take_of_length_le (Nat.le_refl _)] at this
      exact this
    have RB1' : ∀ c, Reads w5 (.slice (some ⟨gB, 7, none⟩) m c) (l.take m) := fun c => by
      have := owns_cut (c := c) OB.out 7 m (by rw [HLB.out]; omega)
      rw [tail7, List.take_of_length_le (by rw [HLM.out]; omega)] at this
      exact this
    replace RA1' := fun c => (RA1' c).drewN n7
    replace RA2' := fun c => (RA2' c).drewN n7
    replace RB1' := fun c => (RB1' c).drewN n7
    have RW : Hid (Reads (w5.drewN n7) (.slice p2 l.length q2) l) := P2''.out.reads.drewN n7
    have K7 : Hid (Below w.heap.size w (w5.drewN n7)) := below_drewN K5.out n7
    clear OA OB P2'' K5
    generalize w5.drewN n7 = W7 at *
    by_cases hA7 : capA = 7
    · subst hA7
      by_cases hB7 : capB = 7
      · subst hB7
        have hl0 : l.length = 0 := by omega
        have hm00 : m = 0 := by omega
        have RA1 : Reads W7 (.slice (some ⟨gA, 0, none⟩) m 0) (l.take m) := by rw [List.eq_nil_of_length_eq_zero hl0, hm00]; exact .inr ⟨_, 0, rfl, fun j hj => by simp at hj⟩
        have RA2 : Reads W7 (.slice (some ⟨gA, 0, none⟩) l.length 0) l := by rw [List.eq_nil_of_length_eq_zero hl0]; exact .inr ⟨_, 0, rfl, fun j hj => by simp at hj⟩
        have hmm0 : m = 0 := by omega
        have RB1 : Reads W7 (.slice (some ⟨gB, 0, none⟩) m 0) (l.take m) := by rw [hmm0]; exact .inr ⟨_, 0, rfl, fun j hj => by simp at hj⟩
        have HE1 : Hid (∀ n, Calls Tryf.prog 21 #[.slice (some ⟨gA, 0, none⟩) m 0, .slice (some ⟨gB, 0, none⟩) m 0] (W7.drewN n) fun e w' => e = .returned (.bool true) ∧ ∃ k, w' = W7.drewN k) := fun n => Calls.quiet_of (equal_any _ _ (l.take m) (W7.drewN n) (RA1.drewN n) (RB1.drewN n) (by rw [HLM.out]; omega))
        have HE2 : Hid (∀ n, Calls Tryf.prog 21 #[.slice (some ⟨gA, 0, none⟩) l.length 0, .slice p2 l.length q2] (W7.drewN n) fun e w' => e = .returned (.bool true) ∧ ∃ k, w' = W7.drewN k) := fun n => Calls.quiet_of (equal_any _ _ l (W7.drewN n) (RA2.drewN n) (RW.out.drewN n) (by omega))
        clear RA1 RA2 RB1 RA1' RA2' RB1' hl0 hm00 hmm0
        have f1 : (0 : Int) ≤ 7 + (m : Int) := by omega
        have f2 : 7 + (m : Int) ≤ (7 : Int) := by omega
        have f3 : max (7 + (m : Int)) 0 = 7 + (m : Int) := by omega
        have f4 : (7 : Int) ≤ 7 + (m : Int) := by omega
        have f5 : (7 + (m : Int)).toNat = 7 + m := by omega
        have f6 : (7 : Int) ≤ 7 + (l.length : Int) := by omega
        have f7 : 7 ≤ 7 + m := by omega
        have f8 : 7 ≤ 7 + l.length := by omega
        have f9 : 7 + m - 7 = m := by omega
        have f10 : 7 + l.length - 7 = l.length := by omega
        go_wp2_with fail
        go_quiet (first | (go_at_call_of 21 (Value.slice p2 l.length q2); exact HE2.out _) | (go_at_call 21; exact HE1.out _))
        go_wp2
        go_ret
        exact ⟨rfl, below_drewN K7.out nq⟩
      · skip
        have hl0 : l.length = 0 := by omega
        have hm00 : m = 0 := by omega
        have RA1 : Reads W7 (.slice (some ⟨gA, 0, none⟩) m 0) (l.take m) := by rw [List.eq_nil_of_length_eq_zero hl0, hm00]; exact .inr ⟨_, 0, rfl, fun j hj => by simp at hj⟩
        have RA2 : Reads W7 (.slice (some ⟨gA, 0, none⟩) l.length 0) l := by rw [List.eq_nil_of_length_eq_zero hl0]; exact .inr ⟨_, 0, rfl, fun j hj => by simp at hj⟩
        have RB1 := RB1' (capB - 7)
        have HE1 : Hid (∀ n, Calls Tryf.prog 21 #[.slice (some ⟨gA, 0, none⟩) m 0, .slice (some ⟨gB, 7, none⟩) m (capB - 7)] (W7.drewN n) fun e w' => e = .returned (.bool true) ∧ ∃ k, w' = W7.drewN k) := fun n => Calls.quiet_of (equal_any _ _ (l.take m) (W7.drewN n) (RA1.drewN n) (RB1.drewN n) (by rw [HLM.out]; omega))
        have HE2 : Hid (∀ n, Calls Tryf.prog 21 #[.slice (some ⟨gA, 0, none⟩) l.length 0, .slice p2 l.length q2] (W7.drewN n) fun e w' => e = .returned (.bool true) ∧ ∃ k, w' = W7.drewN k) := fun n => Calls.quiet_of (equal_any _ _ l (W7.drewN n) (RA2.drewN n) (RW.out.drewN n) (by omega))
        clear RA1 RA2 RB1 RA1' RA2' RB1' hl0 hm00
        have f1 : (0 : Int) ≤ 7 + (m : Int) := by omega
        have f2 : 7 + (m : Int) ≤ (7 : Int) := by omega
        have f3 : max (7 + (m : Int)) 0 = 7 + (m : Int) := by omega
        have f4 : (7 : Int) ≤ 7 + (m : Int) := by omega
        have f5 : (7 + (m : Int)).toNat = 7 + m := by omega
        have f6 : (7 : Int) ≤ 7 + (l.length : Int) := by omega
        have f7 : 7 ≤ 7 + m := by omega
        have f8 : 7 ≤ 7 + l.length := by omega
        have f9 : 7 + m - 7 = m := by omega
        have f10 : 7 + l.length - 7 = l.length := by omega
        go_wp2_with fail
        go_quiet (first | (go_at_call_of 21 (Value.slice p2 l.length q2); exact HE2.out _) | (go_at_call 21; exact HE1.out _))
        go_wp2
        go_ret
        exact ⟨rfl, below_drewN K7.out nq⟩
    · by_cases hB7 : capB = 7
      · subst hB7
        have RA1 := RA1' (capA - 7)
        have RA2 := RA2' (capA - 7)
        have hmm0 : m = 0 := by omega
        have RB1 : Reads W7 (.slice (some ⟨gB, 0, none⟩) m 0) (l.take m) := by rw [hmm0]; exact .inr ⟨_, 0, rfl, fun j hj => by simp at hj⟩
        have HE1 : Hid (∀ n, Calls Tryf.prog 21 #[.slice (some ⟨gA, 7, none⟩) m (capA - 7), .slice (some ⟨gB, 0, none⟩) m 0] (W7.drewN n) fun e w' => e = .returned (.bool true) ∧ ∃ k, w' = W7.drewN k) := fun n => Calls.quiet_of (equal_any _ _ (l.take m) (W7.drewN n) (RA1.drewN n) (RB1.drewN n) (by rw [HLM.out]; omega))
        have HE2 : Hid (∀ n, Calls Tryf.prog 21 #[.slice (some ⟨gA, 7, none⟩) l.length (capA - 7), .slice p2 l.length q2] (W7.drewN n) fun e w' => e = .returned (.bool true) ∧ ∃ k, w' = W7.drewN k) := fun n => Calls.quiet_of (equal_any _ _ l (W7.drewN n) (RA2.drewN n) (RW.out.drewN n) (by omega))
        clear RA1 RA2 RB1 RA1' RA2' RB1' hmm0
        have f1 : (0 : Int) ≤ 7 + (m : Int) := by omega
        have f2 : 7 + (m : Int) ≤ (capA : Int) := by omega
        have f3 : max (7 + (m : Int)) 0 = 7 + (m : Int) := by omega
        have f4 : (7 : Int) ≤ 7 + (m : Int) := by omega
        have f5 : (7 + (m : Int)).toNat = 7 + m := by omega
        have f6 : (7 : Int) ≤ 7 + (l.length : Int) := by omega
        have f7 : 7 ≤ 7 + m := by omega
        have f8 : 7 ≤ 7 + l.length := by omega
        have f9 : 7 + m - 7 = m := by omega
        have f10 : 7 + l.length - 7 = l.length := by omega
        go_wp2_with fail
        go_quiet (first | (go_at_call_of 21 (Value.slice p2 l.length q2); exact HE2.out _) | (go_at_call 21; exact HE1.out _))
        go_wp2
        go_ret
        exact ⟨rfl, below_drewN K7.out nq⟩
      · skip
        have RA1 := RA1' (capA - 7)
        have RA2 := RA2' (capA - 7)
        have RB1 := RB1' (capB - 7)
        have HE1 : Hid (∀ n, Calls Tryf.prog 21 #[.slice (some ⟨gA, 7, none⟩) m (capA - 7), .slice (some ⟨gB, 7, none⟩) m (capB - 7)] (W7.drewN n) fun e w' => e = .returned (.bool true) ∧ ∃ k, w' = W7.drewN k) := fun n => Calls.quiet_of (equal_any _ _ (l.take m) (W7.drewN n) (RA1.drewN n) (RB1.drewN n) (by rw [HLM.out]; omega))
        have HE2 : Hid (∀ n, Calls Tryf.prog 21 #[.slice (some ⟨gA, 7, none⟩) l.length (capA - 7), .slice p2 l.length q2] (W7.drewN n) fun e w' => e = .returned (.bool true) ∧ ∃ k, w' = W7.drewN k) := fun n => Calls.quiet_of (equal_any _ _ l (W7.drewN n) (RA2.drewN n) (RW.out.drewN n) (by omega))
        clear RA1 RA2 RB1 RA1' RA2' RB1'
        have f1 : (0 : Int) ≤ 7 + (m : Int) := by omega
        have f2 : 7 + (m : Int) ≤ (capA : Int) := by omega
        have f3 : max (7 + (m : Int)) 0 = 7 + (m : Int) := by omega
        have f4 : (7 : Int) ≤ 7 + (m : Int) := by omega
        have f5 : (7 + (m : Int)).toNat = 7 + m := by omega
        have f6 : (7 : Int) ≤ 7 + (l.length : Int) := by omega
        have f7 : 7 ≤ 7 + m := by omega
        have f8 : 7 ≤ 7 + l.length := by omega
        have f9 : 7 + m - 7 = m := by omega
        have f10 : 7 + l.length - 7 = l.length := by omega
        go_wp2_with fail
        go_quiet (first | (go_at_call_of 21 (Value.slice p2 l.length q2); exact HE2.out _) | (go_at_call 21; exact HE1.out _))
        go_wp2
        go_ret
        exact ⟨rfl, below_drewN K7.out nq⟩
  · clear H0
    go_enter Tryf.func6, Tryf.ntmps6
    go_wp2
    all_goals
      go_ret
      exact ⟨rfl, Below.refl _ _⟩
end Go.Proofs.Qxb6613276aFmt
