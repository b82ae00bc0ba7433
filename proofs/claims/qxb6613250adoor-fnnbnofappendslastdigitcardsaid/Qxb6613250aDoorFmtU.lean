/-
  strconv.FormatUint at base 10: the number's decimal numeral, for every uint64, out of the shelf's contracts of its callees.
-/
import Derived.Test.Qxb6613250aDoorShelf
import Derived.Lib.Walk
import Derived.Lib.ItoaMem
import Derived.Lib.Hide
import Derived.WalkKit
import Derived.BigCall
import Derived.BigGuard
import Derived.Below
namespace Go.Proofs.Qxb6613250aDoor
open Go.RowKit Go.Sort

theorem holds_zero24 (w : World) (T : TypeId) (nd : Nat) (hs : nd ≤ 24) : Holds (fun (b : UInt8) => Value.int .u8 (b.toNat : Int)) (w.alloc (.cells Lib.zeros24 T)) w.heap.size 0 (Array.replicate nd (0 : UInt8)) := fun j hj => by
  have hj' : j < nd := by simpa using hj
  refine ⟨?_, World.frozen?_alloc_new _ _ _ _⟩
  rw [World.cell?_alloc_new, Lib.zeros24_at _ (by omega), getElem!_pos _ j hj]
  simp

theorem below_row (w : World) (o : Obj) (dk : Array UInt8) (k : Nat) : Below w.heap.size w ((putRow (fun (b : UInt8) => Value.int .u8 (b.toNat : Int)) (w.alloc o) w.heap.size 0 dk).drewN k) := by
  rw [alloc_eq_grow]
  obtain ⟨os', _, e⟩ := putRow_grow_new (fun (b : UInt8) => Value.int .u8 (b.toNat : Int)) w #[o] w.heap.size 0 dk (Nat.le_refl _)
  rw [e]
  exact ⟨rfl, rfl, rfl, by simp [World.drewN, grow], fun i hi => heap_grow_old w os' hi⟩

theorem nd20 (u : Nat) (h : u < 18446744073709551616) : Lib.nDigits u ≤ 20 := by
  by_cases h1 : 1 ≤ u
  · have := Lib.numDigits_eq u h1 h
    split at this <;> omega
  · rw [Lib.nDigits_small (by omega)]; omega

theorem formatUint_len (k : Nat) (hk : k < 18446744073709551616) : (Lib.decDigits k).length ≤ 20 := by
  rw [Lib.decDigits_length]; exact nd20 k hk

set_option maxHeartbeats 1600000 in
set_option maxRecDepth 100000 in
theorem formatUint11 (u : Nat) (hu64 : u < 18446744073709551616) (w : World) (htab : Lib.TabIs Tryd.prog w tabName .u64 Lib.pow10Tab) :
    Calls Tryd.prog 11 #[.int .u64 u, .int .i64 10] w fun e w' => e = .returned (.string ⟨(Lib.decDigits u).toArray⟩) ∧ Below w.heap.size w w' := by
  by_cases hi : u < 100
  · go_enter Tryd.func11, Tryd.ntmps11
    go_wp2_with (go_at_call 12; refine (Tryd.internal_strconv_small u hi _).mono ?_; rintro e w' ⟨rfl, rfl⟩)
    go_ret
    exact ⟨rfl, Below.refl _ _⟩
  · have hu1 : 1 ≤ u := by omega
    have hnd20 := nd20 u hu64
    have hal : Tryd.prog.arrayLen 30 = 24 := by kernel_rfl
    have hsl1 : ∀ W, (Instr.sliceAt 30 (.pointer (some ⟨w.heap.size, 0, none⟩)) none (some (.int .i64 (Lib.nDigits u : Int))) none).run Tryd.prog W = .ok (.slice (some ⟨w.heap.size, 0, none⟩) (Lib.nDigits u) 24) W := fun W => by
      rw [run_sliceAt_array_h W 30 ⟨w.heap.size, 0, none⟩ (by kernel_rfl) .i64 (Lib.nDigits u : Int) (by omega) (by rw [hal]; omega)]
      go_simp
    have hH0 := holds_zero24 w 30 (Lib.nDigits u) (by omega)
    have hfmt := Tryd.internal_strconv_formatBase10 w.heap.size 0 24 u (Array.replicate (Lib.nDigits u) 0) (w.alloc (.cells Lib.zeros24 30)) hH0 (by rw [Array.size_replicate]; exact Lib.lt_pow_nDigits u) hu64 (by rw [Array.size_replicate]; omega)
    rw [Array.size_replicate] at hfmt
    have HH0 := Lib.hid hH0
    clear hH0 hal
    go_enter Tryd.func11, Tryd.ntmps11
    go_wp2_with (first
      | (go_at_call 13; refine (Tryd.internal_strconv_numDigits u hu1 hu64 _ (Lib.tabIs_alloc htab _)).mono ?_; rintro e w' ⟨rfl, rfl⟩))
    go_at_call 14
    refine hfmt.mono ?_
    rintro e w' ⟨rfl, k, v', dk, rfl, hF⟩
    have hcv : (convert 25 9 (.slice (some ⟨w.heap.size, 0, none⟩) (Lib.nDigits u) 24)).run Tryd.prog ((putRow (fun (b : UInt8) => Value.int .u8 (b.toNat : Int)) (w.alloc (.cells Lib.zeros24 30)) w.heap.size 0 dk).drewN k) = .ok (.string ⟨(Lib.decDigits u).toArray⟩) ((putRow (fun (b : UInt8) => Value.int .u8 (b.toNat : Int)) (w.alloc (.cells Lib.zeros24 30)) w.heap.size 0 dk).drewN k) := by
      have h := run_convert_bytes_back (P := Tryd.prog) ((putRow (fun (b : UInt8) => Value.int .u8 (b.toNat : Int)) (w.alloc (.cells Lib.zeros24 30)) w.heap.size 0 dk).drewN k) 25 9 5 ⟨w.heap.size, 0, none⟩ 24 (Lib.decDigits u) Tryd.underlying25 Tryd.underlying5 Tryd.underlying9 (fun j hj => by
        rw [Lib.row_is_numeral hF j hj, Lib.add_plain, World.cell?_drewN]
        exact cell?_putRow (fun (b : UInt8) => Value.int .u8 (b.toNat : Int)) _ w.heap.size 0 _ dk HH0.out (by rw [hF.size, Array.size_replicate]) j (by rw [hF.size]; rw [Lib.decDigits_length] at hj; exact hj))
      rw [Lib.decDigits_length] at h
      exact h
    go_wp2
    go_ret
    exact ⟨rfl, below_row w _ dk k⟩

theorem formatUint (k : Nat) (hk : k < 18446744073709551616) (w : World) (htab : Lib.TabIs Tryd.prog w tabName .u64 Lib.pow10Tab) :
    Calls Tryd.prog 10 #[.int .u64 k, .int .i64 10] w fun e w' => e = .returned (.string ⟨(Lib.decDigits k).toArray⟩) ∧ Below w.heap.size w w' := by
  have H := formatUint11 k hk w htab
  clear htab hk
  go_enter Tryd.func10, Tryd.ntmps10
  go_wp2_with (go_at_call 11; refine H.mono ?_; rintro e w' ⟨rfl, hb⟩)
  go_ret
  exact ⟨rfl, hb⟩

end Go.Proofs.Qxb6613250aDoor
