/- Part of the proof that laws.FnGroup returns true for all 32 bytes p, q and x: fiatScalarFromBytes.
   Conditions: those that each theorem states. -/
import Derived.Test.YtkibnongmkhbaaaGreatDoorSA
import Derived.Test.YtkibnongmkhbaaaGreatDoorAD

section
open Go Go.RowKit
namespace Go.Proofs.YtkibnongmkhbaaaGreatDoor
open Ed

theorem le8 (bs : Nat → Int) (k : Nat) : le bs k 8 = bs (k + 0) * 1 + bs (k + 1) * 256 + bs (k + 2) * 65536 + bs (k + 3) * 16777216 + bs (k + 4) * 4294967296 + bs (k + 5) * 1099511627776 + bs (k + 6) * 281474976710656 + bs (k + 7) * 72057594037927936 := by
  simp only [le, Nat.add_assoc, Nat.reduceAdd, Nat.add_zero]
  omega

set_option maxRecDepth 100000 in
set_option maxHeartbeats 16000000 in
theorem fromBytes76_c (ob ab : Nat) (bs : Nat → Int) (hb : ∀ i, Byte (bs i)) (v0 v1 v2 v3 : Int) (w : World) (Ha : By w ab 0 32 bs) (Ho : W4 w ob v0 v1 v2 v3) :
    Calls Tryz.prog 76 #[.pointer (some ⟨ob, 0, none⟩), .pointer (some ⟨ab, 0, none⟩)] w fun e w' => e = .returned (.tuple #[]) ∧ Upd w w' (Rg ob 0 4) ∧ W4 w' ob (le bs 0 8) (le bs 8 8) (le bs 16 8) (le bs 24 8) := by
  have hlt := Ho.lt
  have c0 : w.cell? ⟨ab, 0, none⟩ = some (.int .u8 (bs 0)) := Ha 0 (by omega)
  obtain ⟨p0, q0⟩ := hb 0
  have c1 : w.cell? ⟨ab, 1, none⟩ = some (.int .u8 (bs 1)) := Ha 1 (by omega)
  obtain ⟨p1, q1⟩ := hb 1
  have c2 : w.cell? ⟨ab, 2, none⟩ = some (.int .u8 (bs 2)) := Ha 2 (by omega)
  obtain ⟨p2, q2⟩ := hb 2
  have c3 : w.cell? ⟨ab, 3, none⟩ = some (.int .u8 (bs 3)) := Ha 3 (by omega)
  obtain ⟨p3, q3⟩ := hb 3
  have c4 : w.cell? ⟨ab, 4, none⟩ = some (.int .u8 (bs 4)) := Ha 4 (by omega)
  obtain ⟨p4, q4⟩ := hb 4
  have c5 : w.cell? ⟨ab, 5, none⟩ = some (.int .u8 (bs 5)) := Ha 5 (by omega)
  obtain ⟨p5, q5⟩ := hb 5
  have c6 : w.cell? ⟨ab, 6, none⟩ = some (.int .u8 (bs 6)) := Ha 6 (by omega)
  obtain ⟨p6, q6⟩ := hb 6
  have c7 : w.cell? ⟨ab, 7, none⟩ = some (.int .u8 (bs 7)) := Ha 7 (by omega)
  obtain ⟨p7, q7⟩ := hb 7
  have c8 : w.cell? ⟨ab, 8, none⟩ = some (.int .u8 (bs 8)) := Ha 8 (by omega)
  obtain ⟨p8, q8⟩ := hb 8
  have c9 : w.cell? ⟨ab, 9, none⟩ = some (.int .u8 (bs 9)) := Ha 9 (by omega)
  obtain ⟨p9, q9⟩ := hb 9
  have c10 : w.cell? ⟨ab, 10, none⟩ = some (.int .u8 (bs 10)) := Ha 10 (by omega)
  obtain ⟨p10, q10⟩ := hb 10
  have c11 : w.cell? ⟨ab, 11, none⟩ = some (.int .u8 (bs 11)) := Ha 11 (by omega)
  obtain ⟨p11, q11⟩ := hb 11
  have c12 : w.cell? ⟨ab, 12, none⟩ = some (.int .u8 (bs 12)) := Ha 12 (by omega)
  obtain ⟨p12, q12⟩ := hb 12
  have c13 : w.cell? ⟨ab, 13, none⟩ = some (.int .u8 (bs 13)) := Ha 13 (by omega)
  obtain ⟨p13, q13⟩ := hb 13
  have c14 : w.cell? ⟨ab, 14, none⟩ = some (.int .u8 (bs 14)) := Ha 14 (by omega)
  obtain ⟨p14, q14⟩ := hb 14
  have c15 : w.cell? ⟨ab, 15, none⟩ = some (.int .u8 (bs 15)) := Ha 15 (by omega)
  obtain ⟨p15, q15⟩ := hb 15
  have c16 : w.cell? ⟨ab, 16, none⟩ = some (.int .u8 (bs 16)) := Ha 16 (by omega)
  obtain ⟨p16, q16⟩ := hb 16
  have c17 : w.cell? ⟨ab, 17, none⟩ = some (.int .u8 (bs 17)) := Ha 17 (by omega)
  obtain ⟨p17, q17⟩ := hb 17
  have c18 : w.cell? ⟨ab, 18, none⟩ = some (.int .u8 (bs 18)) := Ha 18 (by omega)
  obtain ⟨p18, q18⟩ := hb 18
  have c19 : w.cell? ⟨ab, 19, none⟩ = some (.int .u8 (bs 19)) := Ha 19 (by omega)
  obtain ⟨p19, q19⟩ := hb 19
  have c20 : w.cell? ⟨ab, 20, none⟩ = some (.int .u8 (bs 20)) := Ha 20 (by omega)
  obtain ⟨p20, q20⟩ := hb 20
  have c21 : w.cell? ⟨ab, 21, none⟩ = some (.int .u8 (bs 21)) := Ha 21 (by omega)
  obtain ⟨p21, q21⟩ := hb 21
  have c22 : w.cell? ⟨ab, 22, none⟩ = some (.int .u8 (bs 22)) := Ha 22 (by omega)
  obtain ⟨p22, q22⟩ := hb 22
  have c23 : w.cell? ⟨ab, 23, none⟩ = some (.int .u8 (bs 23)) := Ha 23 (by omega)
  obtain ⟨p23, q23⟩ := hb 23
  have c24 : w.cell? ⟨ab, 24, none⟩ = some (.int .u8 (bs 24)) := Ha 24 (by omega)
  obtain ⟨p24, q24⟩ := hb 24
  have c25 : w.cell? ⟨ab, 25, none⟩ = some (.int .u8 (bs 25)) := Ha 25 (by omega)
  obtain ⟨p25, q25⟩ := hb 25
  have c26 : w.cell? ⟨ab, 26, none⟩ = some (.int .u8 (bs 26)) := Ha 26 (by omega)
  obtain ⟨p26, q26⟩ := hb 26
  have c27 : w.cell? ⟨ab, 27, none⟩ = some (.int .u8 (bs 27)) := Ha 27 (by omega)
  obtain ⟨p27, q27⟩ := hb 27
  have c28 : w.cell? ⟨ab, 28, none⟩ = some (.int .u8 (bs 28)) := Ha 28 (by omega)
  obtain ⟨p28, q28⟩ := hb 28
  have c29 : w.cell? ⟨ab, 29, none⟩ = some (.int .u8 (bs 29)) := Ha 29 (by omega)
  obtain ⟨p29, q29⟩ := hb 29
  have c30 : w.cell? ⟨ab, 30, none⟩ = some (.int .u8 (bs 30)) := Ha 30 (by omega)
  obtain ⟨p30, q30⟩ := hb 30
  have c31 : w.cell? ⟨ab, 31, none⟩ = some (.int .u8 (bs 31)) := Ha 31 (by omega)
  obtain ⟨p31, q31⟩ := hb 31
  have L0 : Hid (le bs 0 8 = bs 0 * 1 + bs 1 * 256 + bs 2 * 65536 + bs 3 * 16777216 + bs 4 * 4294967296 + bs 5 * 1099511627776 + bs 6 * 281474976710656 + bs 7 * 72057594037927936) := le8 bs 0
  have L1 : Hid (le bs 8 8 = bs 8 * 1 + bs 9 * 256 + bs 10 * 65536 + bs 11 * 16777216 + bs 12 * 4294967296 + bs 13 * 1099511627776 + bs 14 * 281474976710656 + bs 15 * 72057594037927936) := le8 bs 8
  have L2 : Hid (le bs 16 8 = bs 16 * 1 + bs 17 * 256 + bs 18 * 65536 + bs 19 * 16777216 + bs 20 * 4294967296 + bs 21 * 1099511627776 + bs 22 * 281474976710656 + bs 23 * 72057594037927936) := le8 bs 16
  have L3 : Hid (le bs 24 8 = bs 24 * 1 + bs 25 * 256 + bs 26 * 65536 + bs 27 * 16777216 + bs 28 * 4294967296 + bs 29 * 1099511627776 + bs 30 * 281474976710656 + bs 31 * 72057594037927936) := le8 bs 24
  generalize bs 0 = x0 at *
  generalize bs 1 = x1 at *
  generalize bs 2 = x2 at *
  generalize bs 3 = x3 at *
  generalize bs 4 = x4 at *
  generalize bs 5 = x5 at *
  generalize bs 6 = x6 at *
  generalize bs 7 = x7 at *
  generalize bs 8 = x8 at *
  generalize bs 9 = x9 at *
  generalize bs 10 = x10 at *
  generalize bs 11 = x11 at *
  generalize bs 12 = x12 at *
  generalize bs 13 = x13 at *
  generalize bs 14 = x14 at *
  generalize bs 15 = x15 at *
  generalize bs 16 = x16 at *
  generalize bs 17 = x17 at *
  generalize bs 18 = x18 at *
  generalize bs 19 = x19 at *
  generalize bs 20 = x20 at *
  generalize bs 21 = x21 at *
  generalize bs 22 = x22 at *
  generalize bs 23 = x23 at *
  generalize bs 24 = x24 at *
  generalize bs 25 = x25 at *
  generalize bs 26 = x26 at *
  generalize bs 27 = x27 at *
  generalize bs 28 = x28 at *
  generalize bs 29 = x29 at *
  generalize bs 30 = x30 at *
  generalize bs 31 = x31 at *
  obtain ⟨d0, d1, d2, d3, f0, f1, f2, f3⟩ := id Ho
  clear Ha hb
  go_enter Tryz.func76, Tryz.ntmps76
  go_wp2
  go_end0
  have H := Ho.set (le bs 0 8) (le bs 8 8) (le bs 16 8) (le bs 24 8)
  have e0 : x7 * 72057594037927936 + (x6 * 281474976710656 + (x5 * 1099511627776 + (x4 * 4294967296 + (x3 * 16777216 + (x2 * 65536 + (x1 * 256 + x0)))))) = le bs 0 8 := by rw [L0.out]; clear H; omega
  have e1 : x15 * 72057594037927936 + (x14 * 281474976710656 + (x13 * 1099511627776 + (x12 * 4294967296 + (x11 * 16777216 + (x10 * 65536 + (x9 * 256 + x8)))))) = le bs 8 8 := by rw [L1.out]; clear H; omega
  have e2 : x23 * 72057594037927936 + (x22 * 281474976710656 + (x21 * 1099511627776 + (x20 * 4294967296 + (x19 * 16777216 + (x18 * 65536 + (x17 * 256 + x16)))))) = le bs 16 8 := by rw [L2.out]; clear H; omega
  have e3 : x31 * 72057594037927936 + (x30 * 281474976710656 + (x29 * 1099511627776 + (x28 * 4294967296 + (x27 * 16777216 + (x26 * 65536 + (x25 * 256 + x24)))))) = le bs 24 8 := by rw [L3.out]; clear H; omega
  rw [e0, e1, e2, e3]
  exact ⟨rfl, H.2, H.1⟩

end Go.Proofs.YtkibnongmkhbaaaGreatDoor
end
