/- Part of the proof that laws.FnGroup returns true for all 32 bytes p, q and x: fiatScalarToBytes, Scalar.Bytes.
   Conditions: those that each theorem states. -/
import Derived.Test.YtkibnongmkhbaaaGreatDoorSA
import Derived.Test.YtkibnongmkhbaaaGreatDoorAM
import Derived.Test.YtkibnongmkhbaaaGreatDoorSB
import Derived.Test.YtkibnongmkhbaaaGreatDoorSC
import Derived.Test.YtkibnongmkhbaaaGreatDoorSD

section
open Go Go.RowKit
namespace Go.Proofs.YtkibnongmkhbaaaGreatDoor
open Ed

@[go_sem] theorem and255 (x : Int) : bits .and .u8 x 255 = x % 256 := by
  have key : (BitVec.ofInt 8 x &&& BitVec.ofInt 8 255).toNat = (x % ((2 ^ 8 : Nat) : Int)).toNat := by
    rw [BitVec.toNat_and, show (BitVec.ofInt 8 255).toNat = 2 ^ 8 - 1 from rfl, Nat.and_two_pow_sub_one_eq_mod, Nat.mod_eq_of_lt (BitVec.isLt _), BitVec.toNat_ofInt]
  show IntKind.u8.wrap ((BitVec.ofInt 8 x &&& BitVec.ofInt 8 255).toNat : Nat) = _
  rw [key]
  simp [IntKind.wrap, IntKind.bits, IntKind.signed]
  omega

theorem val_parts {a0 a1 a2 a3 : Int} (a0_0 : 0 ≤ a0) (a0_1 : a0 < 18446744073709551616) (a1_0 : 0 ≤ a1) (a1_1 : a1 < 18446744073709551616) (a2_0 : 0 ≤ a2) (a2_1 : a2 < 18446744073709551616) (a3_0 : 0 ≤ a3) (a3_1 : a3 < 18446744073709551616) :
    val4 a0 a1 a2 a3 / 256 ^ 0 % 18446744073709551616 = a0 ∧ val4 a0 a1 a2 a3 / 256 ^ 8 % 18446744073709551616 = a1 ∧ val4 a0 a1 a2 a3 / 256 ^ 16 % 18446744073709551616 = a2 ∧ val4 a0 a1 a2 a3 / 256 ^ 24 % 18446744073709551616 = a3 := by
  unfold val4
  simp only [Int.reducePow]
  omega
theorem word_byte {N a : Int} {k : Nat} (h : N / 256 ^ k % 18446744073709551616 = a) (i : Nat) (hi : i < 8) : byteOf N (k + i) = a / 256 ^ i % 256 := by rw [← byte_part N k i hi, h]

set_option maxRecDepth 100000 in
set_option maxHeartbeats 16000000 in
theorem toBytes113_c (ob ab : Nat) (a0 a1 a2 a3 : Int) (a0_0 : 0 ≤ a0) (a0_1 : a0 < 18446744073709551616) (a1_0 : 0 ≤ a1) (a1_1 : a1 < 18446744073709551616) (a2_0 : 0 ≤ a2) (a2_1 : a2 < 18446744073709551616) (a3_0 : 0 ≤ a3) (a3_1 : a3 < 18446744073709551616)
    (w : World) (Ha : W4 w ab a0 a1 a2 a3) (Ho : Wy w ob 0 32) :
    Calls Tryz.prog 113 #[.pointer (some ⟨ob, 0, none⟩), .pointer (some ⟨ab, 0, none⟩)] w fun e w' => e = .returned (.tuple #[]) ∧ Upd w w' (Rg ob 0 32) ∧ By w' ob 0 32 (byteOf (val4 a0 a1 a2 a3)) := by
  have hlt := Ha.lt
  have hlo := Ho.lt (by decide)
  obtain ⟨d0, d1, d2, d3, f0, f1, f2, f3⟩ := id Ha
  obtain ⟨⟨v0, c0⟩, g0⟩ := Ho 0 (by omega)
  rw [Nat.zero_add] at c0 g0
  obtain ⟨⟨v1, c1⟩, g1⟩ := Ho 1 (by omega)
  rw [Nat.zero_add] at c1 g1
  obtain ⟨⟨v2, c2⟩, g2⟩ := Ho 2 (by omega)
  rw [Nat.zero_add] at c2 g2
  obtain ⟨⟨v3, c3⟩, g3⟩ := Ho 3 (by omega)
  rw [Nat.zero_add] at c3 g3
  obtain ⟨⟨v4, c4⟩, g4⟩ := Ho 4 (by omega)
  rw [Nat.zero_add] at c4 g4
  obtain ⟨⟨v5, c5⟩, g5⟩ := Ho 5 (by omega)
  rw [Nat.zero_add] at c5 g5
  obtain ⟨⟨v6, c6⟩, g6⟩ := Ho 6 (by omega)
  rw [Nat.zero_add] at c6 g6
  obtain ⟨⟨v7, c7⟩, g7⟩ := Ho 7 (by omega)
  rw [Nat.zero_add] at c7 g7
  obtain ⟨⟨v8, c8⟩, g8⟩ := Ho 8 (by omega)
  rw [Nat.zero_add] at c8 g8
  obtain ⟨⟨v9, c9⟩, g9⟩ := Ho 9 (by omega)
  rw [Nat.zero_add] at c9 g9
  obtain ⟨⟨v10, c10⟩, g10⟩ := Ho 10 (by omega)
  rw [Nat.zero_add] at c10 g10
  obtain ⟨⟨v11, c11⟩, g11⟩ := Ho 11 (by omega)
  rw [Nat.zero_add] at c11 g11
  obtain ⟨⟨v12, c12⟩, g12⟩ := Ho 12 (by omega)
  rw [Nat.zero_add] at c12 g12
  obtain ⟨⟨v13, c13⟩, g13⟩ := Ho 13 (by omega)
  rw [Nat.zero_add] at c13 g13
  obtain ⟨⟨v14, c14⟩, g14⟩ := Ho 14 (by omega)
  rw [Nat.zero_add] at c14 g14
  obtain ⟨⟨v15, c15⟩, g15⟩ := Ho 15 (by omega)
  rw [Nat.zero_add] at c15 g15
  obtain ⟨⟨v16, c16⟩, g16⟩ := Ho 16 (by omega)
  rw [Nat.zero_add] at c16 g16
  obtain ⟨⟨v17, c17⟩, g17⟩ := Ho 17 (by omega)
  rw [Nat.zero_add] at c17 g17
  obtain ⟨⟨v18, c18⟩, g18⟩ := Ho 18 (by omega)
  rw [Nat.zero_add] at c18 g18
  obtain ⟨⟨v19, c19⟩, g19⟩ := Ho 19 (by omega)
  rw [Nat.zero_add] at c19 g19
  obtain ⟨⟨v20, c20⟩, g20⟩ := Ho 20 (by omega)
  rw [Nat.zero_add] at c20 g20
  obtain ⟨⟨v21, c21⟩, g21⟩ := Ho 21 (by omega)
  rw [Nat.zero_add] at c21 g21
  obtain ⟨⟨v22, c22⟩, g22⟩ := Ho 22 (by omega)
  rw [Nat.zero_add] at c22 g22
  obtain ⟨⟨v23, c23⟩, g23⟩ := Ho 23 (by omega)
  rw [Nat.zero_add] at c23 g23
  obtain ⟨⟨v24, c24⟩, g24⟩ := Ho 24 (by omega)
  rw [Nat.zero_add] at c24 g24
  obtain ⟨⟨v25, c25⟩, g25⟩ := Ho 25 (by omega)
  rw [Nat.zero_add] at c25 g25
  obtain ⟨⟨v26, c26⟩, g26⟩ := Ho 26 (by omega)
  rw [Nat.zero_add] at c26 g26
  obtain ⟨⟨v27, c27⟩, g27⟩ := Ho 27 (by omega)
  rw [Nat.zero_add] at c27 g27
  obtain ⟨⟨v28, c28⟩, g28⟩ := Ho 28 (by omega)
  rw [Nat.zero_add] at c28 g28
  obtain ⟨⟨v29, c29⟩, g29⟩ := Ho 29 (by omega)
  rw [Nat.zero_add] at c29 g29
  obtain ⟨⟨v30, c30⟩, g30⟩ := Ho 30 (by omega)
  rw [Nat.zero_add] at c30 g30
  obtain ⟨⟨v31, c31⟩, g31⟩ := Ho 31 (by omega)
  rw [Nat.zero_add] at c31 g31
  go_enter Tryz.func113, Tryz.ntmps113
  go_wp2
  have V := val_parts a0_0 a0_1 a1_0 a1_1 a2_0 a2_1 a3_0 a3_1
  obtain ⟨V0, V1, V2, V3⟩ := V
  generalize val4 a0 a1 a2 a3 = N at *
  have q0 : byteOf N 0 = a0 % 256 := (word_byte V0 0 (by decide)).trans (by clear V0 V1 V2 V3; first | (simp only [Int.reducePow]; omega) | simp only [Int.reducePow])
  have q1 : byteOf N 1 = a0 / 256 % 256 := (word_byte V0 1 (by decide)).trans (by clear V0 V1 V2 V3; first | (simp only [Int.reducePow]; omega) | simp only [Int.reducePow])
  have q2 : byteOf N 2 = a0 / 256 / 256 % 256 := (word_byte V0 2 (by decide)).trans (by clear V0 V1 V2 V3; first | (simp only [Int.reducePow]; omega) | simp only [Int.reducePow])
  have q3 : byteOf N 3 = a0 / 256 / 256 / 256 % 256 := (word_byte V0 3 (by decide)).trans (by clear V0 V1 V2 V3; first | (simp only [Int.reducePow]; omega) | simp only [Int.reducePow])
  have q4 : byteOf N 4 = a0 / 256 / 256 / 256 / 256 % 256 := (word_byte V0 4 (by decide)).trans (by clear V0 V1 V2 V3; first | (simp only [Int.reducePow]; omega) | simp only [Int.reducePow])
  have q5 : byteOf N 5 = a0 / 256 / 256 / 256 / 256 / 256 % 256 := (word_byte V0 5 (by decide)).trans (by clear V0 V1 V2 V3; first | (simp only [Int.reducePow]; omega) | simp only [Int.reducePow])
  have q6 : byteOf N 6 = a0 / 256 / 256 / 256 / 256 / 256 / 256 % 256 := (word_byte V0 6 (by decide)).trans (by clear V0 V1 V2 V3; first | (simp only [Int.reducePow]; omega) | simp only [Int.reducePow])
  have q7 : byteOf N 7 = a0 / 256 / 256 / 256 / 256 / 256 / 256 / 256 := (word_byte V0 7 (by decide)).trans (by clear V0 V1 V2 V3; first | (simp only [Int.reducePow]; omega) | simp only [Int.reducePow])
  have q8 : byteOf N 8 = a1 % 256 := (word_byte V1 0 (by decide)).trans (by clear V0 V1 V2 V3; first | (simp only [Int.reducePow]; omega) | simp only [Int.reducePow])
  have q9 : byteOf N 9 = a1 / 256 % 256 := (word_byte V1 1 (by decide)).trans (by clear V0 V1 V2 V3; first | (simp only [Int.reducePow]; omega) | simp only [Int.reducePow])
  have q10 : byteOf N 10 = a1 / 256 / 256 % 256 := (word_byte V1 2 (by decide)).trans (by clear V0 V1 V2 V3; first | (simp only [Int.reducePow]; omega) | simp only [Int.reducePow])
  have q11 : byteOf N 11 = a1 / 256 / 256 / 256 % 256 := (word_byte V1 3 (by decide)).trans (by clear V0 V1 V2 V3; first | (simp only [Int.reducePow]; omega) | simp only [Int.reducePow])
  have q12 : byteOf N 12 = a1 / 256 / 256 / 256 / 256 % 256 := (word_byte V1 4 (by decide)).trans (by clear V0 V1 V2 V3; first | (simp only [Int.reducePow]; omega) | simp only [Int.reducePow])
  have q13 : byteOf N 13 = a1 / 256 / 256 / 256 / 256 / 256 % 256 := (word_byte V1 5 (by decide)).trans (by clear V0 V1 V2 V3; first | (simp only [Int.reducePow]; omega) | simp only [Int.reducePow])
  have q14 : byteOf N 14 = a1 / 256 / 256 / 256 / 256 / 256 / 256 % 256 := (word_byte V1 6 (by decide)).trans (by clear V0 V1 V2 V3; first | (simp only [Int.reducePow]; omega) | simp only [Int.reducePow])
  have q15 : byteOf N 15 = a1 / 256 / 256 / 256 / 256 / 256 / 256 / 256 := (word_byte V1 7 (by decide)).trans (by clear V0 V1 V2 V3; first | (simp only [Int.reducePow]; omega) | simp only [Int.reducePow])
  have q16 : byteOf N 16 = a2 % 256 := (word_byte V2 0 (by decide)).trans (by clear V0 V1 V2 V3; first | (simp only [Int.reducePow]; omega) | simp only [Int.reducePow])
  have q17 : byteOf N 17 = a2 / 256 % 256 := (word_byte V2 1 (by decide)).trans (by clear V0 V1 V2 V3; first | (simp only [Int.reducePow]; omega) | simp only [Int.reducePow])
  have q18 : byteOf N 18 = a2 / 256 / 256 % 256 := (word_byte V2 2 (by decide)).trans (by clear V0 V1 V2 V3; first | (simp only [Int.reducePow]; omega) | simp only [Int.reducePow])
  have q19 : byteOf N 19 = a2 / 256 / 256 / 256 % 256 := (word_byte V2 3 (by decide)).trans (by clear V0 V1 V2 V3; first | (simp only [Int.reducePow]; omega) | simp only [Int.reducePow])
  have q20 : byteOf N 20 = a2 / 256 / 256 / 256 / 256 % 256 := (word_byte V2 4 (by decide)).trans (by clear V0 V1 V2 V3; first | (simp only [Int.reducePow]; omega) | simp only [Int.reducePow])
  have q21 : byteOf N 21 = a2 / 256 / 256 / 256 / 256 / 256 % 256 := (word_byte V2 5 (by decide)).trans (by clear V0 V1 V2 V3; first | (simp only [Int.reducePow]; omega) | simp only [Int.reducePow])
  have q22 : byteOf N 22 = a2 / 256 / 256 / 256 / 256 / 256 / 256 % 256 := (word_byte V2 6 (by decide)).trans (by clear V0 V1 V2 V3; first | (simp only [Int.reducePow]; omega) | simp only [Int.reducePow])
  have q23 : byteOf N 23 = a2 / 256 / 256 / 256 / 256 / 256 / 256 / 256 := (word_byte V2 7 (by decide)).trans (by clear V0 V1 V2 V3; first | (simp only [Int.reducePow]; omega) | simp only [Int.reducePow])
  have q24 : byteOf N 24 = a3 % 256 := (word_byte V3 0 (by decide)).trans (by clear V0 V1 V2 V3; first | (simp only [Int.reducePow]; omega) | simp only [Int.reducePow])
  have q25 : byteOf N 25 = a3 / 256 % 256 := (word_byte V3 1 (by decide)).trans (by clear V0 V1 V2 V3; first | (simp only [Int.reducePow]; omega) | simp only [Int.reducePow])
  have q26 : byteOf N 26 = a3 / 256 / 256 % 256 := (word_byte V3 2 (by decide)).trans (by clear V0 V1 V2 V3; first | (simp only [Int.reducePow]; omega) | simp only [Int.reducePow])
  have q27 : byteOf N 27 = a3 / 256 / 256 / 256 % 256 := (word_byte V3 3 (by decide)).trans (by clear V0 V1 V2 V3; first | (simp only [Int.reducePow]; omega) | simp only [Int.reducePow])
  have q28 : byteOf N 28 = a3 / 256 / 256 / 256 / 256 % 256 := (word_byte V3 4 (by decide)).trans (by clear V0 V1 V2 V3; first | (simp only [Int.reducePow]; omega) | simp only [Int.reducePow])
  have q29 : byteOf N 29 = a3 / 256 / 256 / 256 / 256 / 256 % 256 := (word_byte V3 5 (by decide)).trans (by clear V0 V1 V2 V3; first | (simp only [Int.reducePow]; omega) | simp only [Int.reducePow])
  have q30 : byteOf N 30 = a3 / 256 / 256 / 256 / 256 / 256 / 256 % 256 := (word_byte V3 6 (by decide)).trans (by clear V0 V1 V2 V3; first | (simp only [Int.reducePow]; omega) | simp only [Int.reducePow])
  have q31 : byteOf N 31 = a3 / 256 / 256 / 256 / 256 / 256 / 256 / 256 := (word_byte V3 7 (by decide)).trans (by clear V0 V1 V2 V3; first | (simp only [Int.reducePow]; omega) | simp only [Int.reducePow])
  have e : ([.int .u8 (a0 % 256), .int .u8 (a0 / 256 % 256), .int .u8 (a0 / 256 / 256 % 256), .int .u8 (a0 / 256 / 256 / 256 % 256), .int .u8 (a0 / 256 / 256 / 256 / 256 % 256), .int .u8 (a0 / 256 / 256 / 256 / 256 / 256 % 256), .int .u8 (a0 / 256 / 256 / 256 / 256 / 256 / 256 % 256), .int .u8 (a0 / 256 / 256 / 256 / 256 / 256 / 256 / 256), .int .u8 (a1 % 256), .int .u8 (a1 / 256 % 256), .int .u8 (a1 / 256 / 256 % 256), .int .u8 (a1 / 256 / 256 / 256 % 256), .int .u8 (a1 / 256 / 256 / 256 / 256 % 256), .int .u8 (a1 / 256 / 256 / 256 / 256 / 256 % 256), .int .u8 (a1 / 256 / 256 / 256 / 256 / 256 / 256 % 256), .int .u8 (a1 / 256 / 256 / 256 / 256 / 256 / 256 / 256), .int .u8 (a2 % 256), .int .u8 (a2 / 256 % 256), .int .u8 (a2 / 256 / 256 % 256), .int .u8 (a2 / 256 / 256 / 256 % 256), .int .u8 (a2 / 256 / 256 / 256 / 256 % 256), .int .u8 (a2 / 256 / 256 / 256 / 256 / 256 % 256), .int .u8 (a2 / 256 / 256 / 256 / 256 / 256 / 256 % 256), .int .u8 (a2 / 256 / 256 / 256 / 256 / 256 / 256 / 256), .int .u8 (a3 % 256), .int .u8 (a3 / 256 % 256), .int .u8 (a3 / 256 / 256 % 256), .int .u8 (a3 / 256 / 256 / 256 % 256), .int .u8 (a3 / 256 / 256 / 256 / 256 % 256), .int .u8 (a3 / 256 / 256 / 256 / 256 / 256 % 256), .int .u8 (a3 / 256 / 256 / 256 / 256 / 256 / 256 % 256), .int .u8 (a3 / 256 / 256 / 256 / 256 / 256 / 256 / 256)] : List Value) = ArrL (byteOf N) := by
    show _ = ([.int .u8 (byteOf N 0), .int .u8 (byteOf N 1), .int .u8 (byteOf N 2), .int .u8 (byteOf N 3), .int .u8 (byteOf N 4), .int .u8 (byteOf N 5), .int .u8 (byteOf N 6), .int .u8 (byteOf N 7), .int .u8 (byteOf N 8), .int .u8 (byteOf N 9), .int .u8 (byteOf N 10), .int .u8 (byteOf N 11), .int .u8 (byteOf N 12), .int .u8 (byteOf N 13), .int .u8 (byteOf N 14), .int .u8 (byteOf N 15), .int .u8 (byteOf N 16), .int .u8 (byteOf N 17), .int .u8 (byteOf N 18), .int .u8 (byteOf N 19), .int .u8 (byteOf N 20), .int .u8 (byteOf N 21), .int .u8 (byteOf N 22), .int .u8 (byteOf N 23), .int .u8 (byteOf N 24), .int .u8 (byteOf N 25), .int .u8 (byteOf N 26), .int .u8 (byteOf N 27), .int .u8 (byteOf N 28), .int .u8 (byteOf N 29), .int .u8 (byteOf N 30), .int .u8 (byteOf N 31)] : List Value)
    rw [q0, q1, q2, q3, q4, q5, q6, q7, q8, q9, q10, q11, q12, q13, q14, q15, q16, q17, q18, q19, q20, q21, q22, q23, q24, q25, q26, q27, q28, q29, q30, q31]
  have ht : w.there ob 0 (ArrL (byteOf N)).length := fun j hj => by
    have h := Ho j hj
    obtain ⟨⟨v, h1⟩, h2⟩ := h
    exact ⟨by rw [h1]; rfl, h2⟩
  go_end0
  show _ ∧ Upd w (w.setCells ob 0 [.int .u8 (a0 % 256), .int .u8 (a0 / 256 % 256), .int .u8 (a0 / 256 / 256 % 256), .int .u8 (a0 / 256 / 256 / 256 % 256), .int .u8 (a0 / 256 / 256 / 256 / 256 % 256), .int .u8 (a0 / 256 / 256 / 256 / 256 / 256 % 256), .int .u8 (a0 / 256 / 256 / 256 / 256 / 256 / 256 % 256), .int .u8 (a0 / 256 / 256 / 256 / 256 / 256 / 256 / 256), .int .u8 (a1 % 256), .int .u8 (a1 / 256 % 256), .int .u8 (a1 / 256 / 256 % 256), .int .u8 (a1 / 256 / 256 / 256 % 256), .int .u8 (a1 / 256 / 256 / 256 / 256 % 256), .int .u8 (a1 / 256 / 256 / 256 / 256 / 256 % 256), .int .u8 (a1 / 256 / 256 / 256 / 256 / 256 / 256 % 256), .int .u8 (a1 / 256 / 256 / 256 / 256 / 256 / 256 / 256), .int .u8 (a2 % 256), .int .u8 (a2 / 256 % 256), .int .u8 (a2 / 256 / 256 % 256), .int .u8 (a2 / 256 / 256 / 256 % 256), .int .u8 (a2 / 256 / 256 / 256 / 256 % 256), .int .u8 (a2 / 256 / 256 / 256 / 256 / 256 % 256), .int .u8 (a2 / 256 / 256 / 256 / 256 / 256 / 256 % 256), .int .u8 (a2 / 256 / 256 / 256 / 256 / 256 / 256 / 256), .int .u8 (a3 % 256), .int .u8 (a3 / 256 % 256), .int .u8 (a3 / 256 / 256 % 256), .int .u8 (a3 / 256 / 256 / 256 % 256), .int .u8 (a3 / 256 / 256 / 256 / 256 % 256), .int .u8 (a3 / 256 / 256 / 256 / 256 / 256 % 256), .int .u8 (a3 / 256 / 256 / 256 / 256 / 256 / 256 % 256), .int .u8 (a3 / 256 / 256 / 256 / 256 / 256 / 256 / 256)]) _ ∧ By (w.setCells ob 0 [.int .u8 (a0 % 256), .int .u8 (a0 / 256 % 256), .int .u8 (a0 / 256 / 256 % 256), .int .u8 (a0 / 256 / 256 / 256 % 256), .int .u8 (a0 / 256 / 256 / 256 / 256 % 256), .int .u8 (a0 / 256 / 256 / 256 / 256 / 256 % 256), .int .u8 (a0 / 256 / 256 / 256 / 256 / 256 / 256 % 256), .int .u8 (a0 / 256 / 256 / 256 / 256 / 256 / 256 / 256), .int .u8 (a1 % 256), .int .u8 (a1 / 256 % 256), .int .u8 (a1 / 256 / 256 % 256), .int .u8 (a1 / 256 / 256 / 256 % 256), .int .u8 (a1 / 256 / 256 / 256 / 256 % 256), .int .u8 (a1 / 256 / 256 / 256 / 256 / 256 % 256), .int .u8 (a1 / 256 / 256 / 256 / 256 / 256 / 256 % 256), .int .u8 (a1 / 256 / 256 / 256 / 256 / 256 / 256 / 256), .int .u8 (a2 % 256), .int .u8 (a2 / 256 % 256), .int .u8 (a2 / 256 / 256 % 256), .int .u8 (a2 / 256 / 256 / 256 % 256), .int .u8 (a2 / 256 / 256 / 256 / 256 % 256), .int .u8 (a2 / 256 / 256 / 256 / 256 / 256 % 256), .int .u8 (a2 / 256 / 256 / 256 / 256 / 256 / 256 % 256), .int .u8 (a2 / 256 / 256 / 256 / 256 / 256 / 256 / 256), .int .u8 (a3 % 256), .int .u8 (a3 / 256 % 256), .int .u8 (a3 / 256 / 256 % 256), .int .u8 (a3 / 256 / 256 / 256 % 256), .int .u8 (a3 / 256 / 256 / 256 / 256 % 256), .int .u8 (a3 / 256 / 256 / 256 / 256 / 256 % 256), .int .u8 (a3 / 256 / 256 / 256 / 256 / 256 / 256 % 256), .int .u8 (a3 / 256 / 256 / 256 / 256 / 256 / 256 / 256)]) ob 0 32 _
  rw [e]
  exact ⟨rfl, (Upd.refl w _).cells ob _ 0 (fun i hi _ => ⟨rfl, by omega, by have : (ArrL (byteOf N)).length = 32 := rfl; omega⟩), By.of_range (World.rangeAt_setCells_same w ob 0 _ ht)⟩

end Go.Proofs.YtkibnongmkhbaaaGreatDoor
end

section
open Go Go.RowKit
namespace Go.Proofs.YtkibnongmkhbaaaGreatDoor
open Ed

theorem le96_at (b o cap k : Nat) (bs : Nat → Int) (hb : ∀ i, Byte (bs i)) (w : World) (h : By w b o 8 (fun i => bs (k + i))) :
    Calls Tryz.prog 96 #[.slice (some ⟨b, o, none⟩) 8 cap] w fun e w' => ∃ L : Int, e = .returned (.int .u64 L) ∧ w' = w ∧ Hid (L = le bs k 8) ∧ 0 ≤ L ∧ L < 18446744073709551616 :=
  (le96_c b o cap (fun i => bs (k + i)) (fun _ => hb _) w h).mono fun e w' ⟨he, hw⟩ => by
    rw [le_shift] at he
    exact ⟨_, he, hw, rfl, (le8_u64 bs hb k).1, (le8_u64 bs hb k).2⟩

theorem le32_val (bs : Nat → Int) : le bs 0 32 = val4 (le bs 0 8) (le bs 8 8) (le bs 16 8) (le bs 24 8) := by
  have h1 := le_append bs 8 24 0
  have h2 := le_append bs 8 16 8
  have h3 := le_append bs 8 8 16
  simp only [Nat.reduceAdd, Int.reducePow] at h1 h2 h3
  unfold val4
  omega

def mbs (i : Nat) : Int := mbytes.getD i 0
theorem mbs_byte (i : Nat) : Byte (mbs i) := by
  by_cases h : i < 32
  · have : ∀ j : Fin 32, Byte (mbs j) := by unfold Byte; decide
    exact this ⟨i, h⟩
  · unfold mbs
    rw [List.getD_eq_getElem?_getD, List.getElem?_eq_none (by simp [mbytes]; omega)]
    exact ⟨by decide, by decide⟩

theorem red_words {L0 L1 L2 L3 s0 s1 s2 s3 d0 d1 d2 d3 : Int} (h0 : s0 - 18446744073709551616 * d0 = 6346243789798364140 - L0 - 0) (h1 : s1 - 18446744073709551616 * d1 = 1503914060200516822 - L1 - d0)
    (h2 : s2 - 18446744073709551616 * d2 = 0 - L2 - d1) (h3 : s3 - 18446744073709551616 * d3 = 1152921504606846976 - L3 - d2)
    (a0 : 0 ≤ s0) (a1 : s0 < 18446744073709551616) (b0 : 0 ≤ s1) (b1 : s1 < 18446744073709551616) (c0 : 0 ≤ s2) (c1 : s2 < 18446744073709551616) (e0 : 0 ≤ s3) (e1 : s3 < 18446744073709551616)
    (f0 : 0 ≤ d3) (f1 : d3 ≤ 1) : d3 = 0 ↔ val4 L0 L1 L2 L3 < ell := by
  have h : val4 s0 s1 s2 s3 = ell - 1 - val4 L0 L1 L2 L3 + B4 * d3 := by unfold val4 ell B4; omega
  have hs := val4_lt a0 a1 b0 b1 c0 c1 e0 e1
  clear h0 h1 h2 h3
  generalize val4 s0 s1 s2 s3 = s at *
  generalize val4 L0 L1 L2 L3 = L at *
  unfold B4 ell at *
  constructor
  · intro hd; omega
  · intro hd; omega

def RedPost (n : Int) (w : World) (e : Ending) (w' : World) : Prop := ∃ r : Bool, e = .returned (.bool r) ∧ w' = w ∧ (r = true ↔ n < ell)

set_option maxRecDepth 100000 in
set_option maxHeartbeats 8000000 in
theorem isRed_c (B b o cap : Nat) (bs : Nat → Int) (hb : ∀ i, Byte (bs i)) (w : World) (hG : Glob B w) (h : By w b o 32 bs) (hcap : 32 ≤ cap) :
    Calls Tryz.prog 75 #[.slice (some ⟨b, o, none⟩) 32 cap] w (RedPost (le bs 0 32) w) := by
  have p0 := h.part 0 8 (by omega)
  have p1 := h.part 8 8 (by omega)
  have p2 := h.part 16 8 (by omega)
  have p3 := h.part 24 8 (by omega)
  obtain ⟨zb, zo, ob, oo, sb, so, hg⟩ := hG
  have hm : By w 3 0 32 mbs := fun i hi => by rw [Nat.zero_add]; exact hg.rm i hi
  have m0 := hm.part 0 8 (by omega)
  have m1 := hm.part 8 8 (by omega)
  have m2 := hm.part 16 8 (by omega)
  have m3 := hm.part 24 8 (by omega)
  have hlen : (32 : Int) ≤ (cap : Int) := by omega
  clear hg hm
  go_enter Tryz.func75, Tryz.ntmps75
  go_wp2_with fail
  refine (le96_at b _ _ 0 bs hb _ p0).mono ?_
  rintro e w1 ⟨L0, rfl, hw1, H0, u0, n0⟩
  subst w1
  go_wp2_with fail
  refine (le96_at b _ _ 8 bs hb _ p1).mono ?_
  rintro e w1 ⟨L1, rfl, hw1, H1, u1, n1⟩
  subst w1
  go_wp2_with fail
  refine (le96_at b _ _ 16 bs hb _ p2).mono ?_
  rintro e w1 ⟨L2, rfl, hw1, H2, u2, n2⟩
  subst w1
  go_wp2_with fail
  refine (le96_at b _ _ 24 bs hb _ p3).mono ?_
  rintro e w1 ⟨L3, rfl, hw1, H3, u3, n3⟩
  subst w1
  go_wp2_with fail
  refine (le96_at 3 _ _ 0 mbs mbs_byte _ m0).mono ?_
  rintro e w1 ⟨M0, rfl, hw1, G0, -, -⟩
  subst w1
  have : M0 = 6346243789798364140 := G0.out.trans (by decide)
  subst this
  clear G0
  go_wp2_with fail
  refine (le96_at 3 _ _ 8 mbs mbs_byte _ m1).mono ?_
  rintro e w1 ⟨M1, rfl, hw1, G1, -, -⟩
  subst w1
  have : M1 = 1503914060200516822 := G1.out.trans (by decide)
  subst this
  clear G1
  go_wp2_with fail
  refine (le96_at 3 _ _ 16 mbs mbs_byte _ m2).mono ?_
  rintro e w1 ⟨M2, rfl, hw1, G2, -, -⟩
  subst w1
  have : M2 = 0 := G2.out.trans (by decide)
  subst this
  clear G2
  go_wp2_with fail
  refine (le96_at 3 _ _ 24 mbs mbs_byte _ m3).mono ?_
  rintro e w1 ⟨M3, rfl, hw1, G3, -, -⟩
  subst w1
  have : M3 = 1152921504606846976 := G3.out.trans (by decide)
  subst this
  clear G3
  go_wp2_with with_reducible (first | refine stop_add ?_ | refine stop_sub ?_)
  refine upon_subS (by decide) (by decide) u0 n0 (by decide) (by decide) (fun s0 d0 K0 a0 a1 d00 d01 => ?_)
  go_wp2_with with_reducible (first | refine stop_add ?_ | refine stop_sub ?_)
  refine upon_subS (by decide) (by decide) u1 n1 d00 d01 (fun s1 d1 K1 b0 b1 d10 d11 => ?_)
  go_wp2_with with_reducible (first | refine stop_add ?_ | refine stop_sub ?_)
  refine upon_subS (by decide) (by decide) u2 n2 d10 d11 (fun s2 d2 K2 c0 c1 d20 d21 => ?_)
  go_wp2_with with_reducible (first | refine stop_add ?_ | refine stop_sub ?_)
  refine upon_subS (by decide) (by decide) u3 n3 d20 d21 (fun s3 d3 K3 e0 e1 d30 d31 => ?_)
  have hr := red_words K0.out K1.out K2.out K3.out a0 a1 b0 b1 c0 c1 e0 e1 d30 d31
  rw [H0.out, H1.out, H2.out, H3.out, ← le32_val] at hr
  have Hr := Lib.hid hr
  clear hr
  have hd : d3 = 0 ∨ d3 = 1 := by omega
  rcases hd with hd | hd
  · have K := Lib.hid (Hr.out.1 hd)
    subst hd
    clear Hr
    go_wp2
    go_ret
    exact ⟨true, rfl, rfl, fun _ => K.out, fun _ => rfl⟩
  · have K := Lib.hid (fun h => absurd (Hr.out.2 h) (by omega) : ¬ le bs 0 32 < ell)
    subst hd
    clear Hr
    go_wp2
    go_ret
    exact ⟨false, rfl, rfl, fun h => absurd h (by decide), fun h => absurd h K.out⟩

/-- the scalar n in memory -/
def Sc (w : World) (b : Nat) (n : Int) : Prop := ∃ l0 l1 l2 l3 : Int, W4 w b l0 l1 l2 l3 ∧ Wd l0 ∧ Wd l1 ∧ Wd l2 ∧ Wd l3 ∧ 0 ≤ n ∧ n < ell ∧ ∃ k, B4 * val4 l0 l1 l2 l3 = rr * n + ell * k
theorem Sc.lt {w : World} {b : Nat} {n : Int} (h : Sc w b n) : b < w.heap.size := by obtain ⟨_, _, _, _, h, _⟩ := h; exact h.lt
theorem Sc.keep {w w' : World} {S : Nat → Nat → Prop} {b : Nat} {n : Int} (hu : Upd w w' S) (h : Sc w b n) (hn : ∀ i, i < 4 → ¬ S b i) : Sc w' b n := by
  obtain ⟨l0, l1, l2, l3, h, r⟩ := h
  exact ⟨l0, l1, l2, l3, h.keep hu hn, r⟩

theorem W4.zeros (w : World) (t : TypeId) : W4 (w.alloc (.cells #[.int .u64 0, .int .u64 0, .int .u64 0, .int .u64 0] t)) w.heap.size 0 0 0 0 :=
  ⟨by simp, by simp, by simp, by simp, by simp, by simp, by simp, by simp⟩

set_option maxRecDepth 100000 in
set_option maxHeartbeats 8000000 in
theorem scBytes99_c (sb ob : Nat) (n : Int) (w : World) (hS : Sc w sb n) (hW : Wy w ob 0 32) :
    Calls Tryz.prog 99 #[.pointer (some ⟨sb, 0, none⟩), .pointer (some ⟨ob, 0, none⟩)] w fun e w' => e = .returned (.slice (some ⟨ob, 0, none⟩) 32 32) ∧ Upd w w' (Rg ob 0 32) ∧ By w' ob 0 32 (byteOf n) := by
  have hlo := hW.lt (by decide)
  have hls := hS.lt
  obtain ⟨l0, l1, l2, l3, hw, p0, p1, p2, p3, n0, n1, k, hk⟩ := hS
  have z := W4.zeros w 159
  have A0 := (Upd.refl w (fun _ _ => False)).alloc (.cells #[.int .u64 0, .int .u64 0, .int .u64 0, .int .u64 0] 159)
  have hw1 := hw.keep A0 (fun _ _ h => h)
  have hW1 := hW.keep A0 (fun _ _ h => h)
  have Hk := Lib.hid hk
  clear hk
  go_enter Tryz.func99, Tryz.ntmps99
  go_wp2_with fail
  refine (fromMont_c w.heap.size sb l0 l1 l2 l3 0 0 0 0 p0.1 p0.2 p1.1 p1.2 p2.1 p2.2 p3.1 p3.2 _ hw1 z).mono ?_
  rintro e w1 ⟨rfl, hU, r0, r1, r2, r3, hR, q0, q1, q2, q3, g0, g1, k', hk'⟩
  have hN : val4 r0 r1 r2 r3 = n := to_from Hk.out hk' n0 n1 g0 g1
  have HN := Lib.hid hN
  clear hk' hN g0 g1
  have s1 := hU.size
  simp only [World.size_alloc] at s1
  go_wp2_with fail
  refine (toBytes113_c ob w.heap.size r0 r1 r2 r3 q0.1 q0.2 q1.1 q1.2 q2.1 q2.2 q3.1 q3.2 _ hR (hW1.keep hU (fun i hi h => by obtain ⟨h1, h2, h3⟩ := h; omega))).mono ?_
  rintro e w2 ⟨rfl, hU2, hB⟩
  go_wp2
  go_ret
  rw [HN.out] at hB
  exact ⟨rfl, ((A0.trans hU (fun b o hb h => absurd h.1 (by omega))).wide (fun _ _ _ h => h.elim)).trans hU2 (fun _ _ _ h => h), hB⟩

set_option maxRecDepth 100000 in
set_option maxHeartbeats 8000000 in
theorem scBytes_c (sb : Nat) (n : Int) (w : World) (hS : Sc w sb n) :
    Calls Tryz.prog 78 #[.pointer (some ⟨sb, 0, none⟩)] w fun e w' => e = .returned (.slice (some ⟨w.heap.size, 0, none⟩) 32 32) ∧ Upd w w' (fun _ _ => False) ∧ By w' w.heap.size 0 32 (byteOf n) := by
  have hls := hS.lt
  have A0 := (Upd.refl w (fun _ _ => False)).alloc zero32
  have hS1 := hS.keep A0 (fun _ _ h => h)
  have hW := zero32_wy w
  go_enter Tryz.func78, Tryz.ntmps78
  go_wp2_with fail
  refine (scBytes99_c sb w.heap.size n _ hS1 hW).mono ?_
  rintro e w1 ⟨rfl, hU, hB⟩
  go_wp2
  go_ret
  exact ⟨rfl, A0.trans hU (fun b o hb h => absurd h.1 (by omega)), hB⟩

set_option maxRecDepth 100000 in
theorem newSc_c (w : World) : Calls Tryz.prog 44 #[] w fun e w' => e = .returned (.pointer (some ⟨w.heap.size, 0, none⟩)) ∧ Upd w w' (fun _ _ => False) ∧ W4 w' w.heap.size 0 0 0 0 := by
  go_enter Tryz.func44, Tryz.ntmps44
  go_wp2
  go_ret
  exact ⟨rfl, (Upd.refl _ _).alloc _, W4.zeros w _⟩

end Go.Proofs.YtkibnongmkhbaaaGreatDoor
end
