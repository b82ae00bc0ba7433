/-
  A field read back: the plain facts on its bytes, and zzThriftBinaryAt at them.
-/
import Derived.Test.Qxb6613276aFmtBf
import Derived.Test.Qxb6613276aFmtRd
namespace Go.Proofs.Qxb6613276aFmt
open Go Go.RowKit Mem

theorem getD_right (pre s : List UInt8) (j : Nat) : (pre ++ s).getD (pre.length + j) 0 = s.getD j 0 := by
  simp [List.getD_eq_getElem?_getD, List.getElem?_append_right]

theorem field_form (pre post b : List UInt8) (id : Int) : pre ++ fieldBytes id b ++ post =
    pre ++ (11 :: UInt8.ofNat (u16 id / 256) :: UInt8.ofNat (u16 id % 256) :: UInt8.ofNat (b.length / 16777216) :: UInt8.ofNat (b.length / 65536 % 256) :: UInt8.ofNat (b.length / 256 % 256) :: UInt8.ofNat (b.length % 256) :: (b ++ post)) := by
  simp [fieldBytes, be2, be4]

theorem byte_toNat {n : Nat} (h : n < 256) : ((UInt8.ofNat n).toNat : Int) = n := by
  rw [UInt8.toNat_ofNat']; omega

theorem id_back (id : Int) (h1 : -32768 ≤ id) (h2 : id ≤ 32767) : IntKind.i16.wrap (((u16 id / 256 : Nat) : Int) * 256 + ((u16 id % 256 : Nat) : Int)) = id := by
  have e : ((u16 id / 256 : Nat) : Int) * 256 + ((u16 id % 256 : Nat) : Int) = (u16 id : Int) := by omega
  rw [e]
  unfold u16
  simp only [IntKind.wrap, IntKind.bits, IntKind.signed]
  simp
  omega

theorem u16_lt (id : Int) : u16 id < 65536 := by unfold u16; omega

section
variable (pre post b : List UInt8) (id : Int)
theorem at_type : (pre ++ fieldBytes id b ++ post).getD pre.length 0 = 11 := by
  rw [field_form]; exact getD_right pre _ 0
theorem at_id (h1 : -32768 ≤ id) (h2 : id ≤ 32767) : IntKind.i16.wrap ((((pre ++ fieldBytes id b ++ post).getD (pre.length + 1) 0).toNat : Int) * 256 + (((pre ++ fieldBytes id b ++ post).getD (pre.length + 2) 0).toNat : Int)) = id := by
  rw [field_form, getD_right, getD_right]
  simp only [List.getD_cons_succ, List.getD_cons_zero]
  have := u16_lt id
  rw [byte_toNat (by omega), byte_toNat (by omega)]
  exact id_back id h1 h2
theorem at_len (hb : b.length ≤ 65536) : be32 (pre ++ fieldBytes id b ++ post) (pre.length + 3) = (b.length : Int) := by
  unfold be32
  rw [field_form, show pre.length + 3 + 1 = pre.length + 4 from rfl, show pre.length + 3 + 2 = pre.length + 5 from rfl, show pre.length + 3 + 3 = pre.length + 6 from rfl, getD_right, getD_right, getD_right, getD_right]
  simp only [List.getD_cons_succ, List.getD_cons_zero]
  rw [byte_toNat (by omega), byte_toNat (by omega), byte_toNat (by omega), byte_toNat (by omega)]
  omega
theorem at_body : ∀ k, k < b.length → (pre ++ fieldBytes id b ++ post).getD (pre.length + 7 + k) 0 = b.getD k 0 := by
  intro k hk
  rw [field_form, Nat.add_assoc, getD_right, show 7 + k = k + 1 + 1 + 1 + 1 + 1 + 1 + 1 by omega]
  simp only [List.getD_cons_succ]
  simp [List.getD_eq_getElem?_getD, List.getElem?_append_left hk]
end

theorem at_any (v vw : Value) (pre b post : List UInt8) (id : Int) (w : World) (hr : Reads w v (pre ++ fieldBytes id b ++ post)) (hw : Reads w vw b) (h1 : -32768 ≤ id) (h2 : id ≤ 32767)
    (hb : b.length ≤ 65536) (hl : (pre ++ fieldBytes id b ++ post).length ≤ 1048576) :
    Calls Tryf.prog 22 #[v, .int .i64 (pre.length : Int), .int .i16 id, vw] w fun e w' => e = .returned (.int .i64 ((pre.length : Int) + 7 + (b.length : Int))) ∧ ∃ n, w' = w.drewN n :=
  at_core v vw (pre ++ fieldBytes id b ++ post) b pre.length id w hr hw (by simp [fieldBytes_length]; omega) hl (at_type pre post b id) (at_id pre post b id h1 h2) (at_len pre post b id hb) (at_body pre post b id)

end Go.Proofs.Qxb6613276aFmt
