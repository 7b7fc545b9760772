/- Part of the proof that laws.FnGroup returns true for all 32 bytes p, q and x: the field's Select, Equal, IsNegative, Absolute.
   Conditions: those that each theorem states. -/
import Derived.Test.YtkibnongmkhbaaaGreatDoorAC

section
open Go Go.RowKit
namespace Go.Proofs.YtkibnongmkhbaaaGreatDoor
open Ed

theorem ofInt_back (x : Int) (h0 : 0 ≤ x) (h1 : x < 18446744073709551616) : ((BitVec.ofInt 64 x).toNat : Int) = x := by
  rw [BitVec.toNat_ofInt]
  rw [Int.emod_eq_of_lt h0 (by exact h1)]
  omega

theorem bits_of (op : BinOp) (x y r : Int) (v : BitVec 64) (hv : (match op with | .and => BitVec.ofInt 64 x &&& BitVec.ofInt 64 y | .or => BitVec.ofInt 64 x ||| BitVec.ofInt 64 y | .xor => BitVec.ofInt 64 x ^^^ BitVec.ofInt 64 y | _ => BitVec.ofInt 64 x &&& ~~~(BitVec.ofInt 64 y)) = v)
    (hr : (v.toNat : Int) = r) : bits op .u64 x y = r := by
  subst hv
  subst hr
  cases op <;> exact wrap64_self _ (BitVec.isLt _)

@[go_sem] theorem xor_max1 : bits .xor .u64 IntKind.u64.max 18446744073709551615 = 0 := by decide
@[go_sem] theorem xor_max0 : bits .xor .u64 IntKind.u64.max 0 = 18446744073709551615 := by decide

theorem and_ones (x : Int) (h0 : 0 ≤ x) (h1 : x < 18446744073709551616) : bits .and .u64 18446744073709551615 x = x :=
  bits_of .and _ _ _ (BitVec.ofInt 64 x) (by show BitVec.ofInt 64 18446744073709551615 &&& BitVec.ofInt 64 x = _; rw [show BitVec.ofInt 64 18446744073709551615 = BitVec.allOnes 64 by decide]; exact BitVec.allOnes_and) (ofInt_back x h0 h1)
theorem and_zero (x : Int) : bits .and .u64 0 x = 0 :=
  bits_of .and _ _ _ (0#64) (by show BitVec.ofInt 64 0 &&& BitVec.ofInt 64 x = _; rw [show BitVec.ofInt 64 0 = 0#64 by decide]; simp) (by decide)
theorem or_zero (x : Int) (h0 : 0 ≤ x) (h1 : x < 18446744073709551616) : bits .or .u64 x 0 = x :=
  bits_of .or _ _ _ (BitVec.ofInt 64 x) (by show BitVec.ofInt 64 x ||| BitVec.ofInt 64 0 = _; rw [show BitVec.ofInt 64 0 = 0#64 by decide]; simp) (ofInt_back x h0 h1)
theorem zero_or (x : Int) (h0 : 0 ≤ x) (h1 : x < 18446744073709551616) : bits .or .u64 0 x = x :=
  bits_of .or _ _ _ (BitVec.ofInt 64 x) (by show BitVec.ofInt 64 0 ||| BitVec.ofInt 64 x = _; rw [show BitVec.ofInt 64 0 = 0#64 by decide]; simp) (ofInt_back x h0 h1)
theorem xor_zero (x : Int) (h0 : 0 ≤ x) (h1 : x < 18446744073709551616) : bits .xor .u64 x 0 = x :=
  bits_of .xor _ _ _ (BitVec.ofInt 64 x) (by show BitVec.ofInt 64 x ^^^ BitVec.ofInt 64 0 = _; rw [show BitVec.ofInt 64 0 = 0#64 by decide]; simp) (ofInt_back x h0 h1)
theorem ofInt_bits (op : BinOp) (x y : Int) : BitVec.ofInt 64 (bits op .u64 x y) = (match op with | .and => BitVec.ofInt 64 x &&& BitVec.ofInt 64 y | .or => BitVec.ofInt 64 x ||| BitVec.ofInt 64 y | .xor => BitVec.ofInt 64 x ^^^ BitVec.ofInt 64 y | _ => BitVec.ofInt 64 x &&& ~~~(BitVec.ofInt 64 y)) := by
  rw [bits_of op x y _ _ rfl rfl, BitVec.ofInt_natCast, BitVec.ofNat_toNat, BitVec.setWidth_eq]
theorem xor_left (x y : Int) (h0 : 0 ≤ y) (h1 : y < 18446744073709551616) : bits .xor .u64 x (bits .xor .u64 x y) = y :=
  bits_of .xor _ _ _ (BitVec.ofInt 64 y) (by show BitVec.ofInt 64 x ^^^ BitVec.ofInt 64 (bits .xor .u64 x y) = _; rw [ofInt_bits]; show BitVec.ofInt 64 x ^^^ (BitVec.ofInt 64 x ^^^ BitVec.ofInt 64 y) = _; rw [← BitVec.xor_assoc]; simp) (ofInt_back y h0 h1)
theorem xor_right (x y : Int) (h0 : 0 ≤ x) (h1 : x < 18446744073709551616) : bits .xor .u64 y (bits .xor .u64 x y) = x :=
  bits_of .xor _ _ _ (BitVec.ofInt 64 x) (by show BitVec.ofInt 64 y ^^^ BitVec.ofInt 64 (bits .xor .u64 x y) = _; rw [ofInt_bits]; show BitVec.ofInt 64 y ^^^ (BitVec.ofInt 64 x ^^^ BitVec.ofInt 64 y) = _; rw [BitVec.xor_comm (BitVec.ofInt 64 x), ← BitVec.xor_assoc]; simp) (ofInt_back x h0 h1)
theorem bits_u64 (op : BinOp) (x y : Int) : 0 ≤ bits op .u64 x y ∧ bits op .u64 x y < 18446744073709551616 := by
  rw [bits_of op x y _ _ rfl rfl]
  have := BitVec.isLt (match op with | .and => BitVec.ofInt 64 x &&& BitVec.ofInt 64 y | .or => BitVec.ofInt 64 x ||| BitVec.ofInt 64 y | .xor => BitVec.ofInt 64 x ^^^ BitVec.ofInt 64 y | _ => BitVec.ofInt 64 x &&& ~~~(BitVec.ofInt 64 y))
  omega
end Go.Proofs.YtkibnongmkhbaaaGreatDoor
end

section
open Go Go.RowKit
namespace Go.Proofs.YtkibnongmkhbaaaGreatDoor
open Ed

set_option maxRecDepth 1000000 in
set_option maxHeartbeats 40000000 in
theorem sel0_c (vb vo ab ao bb bo : Nat) (V X Y : F) (w : World) (hV : El w vb vo V) (hX : ElR w ab ao X) (hY : ElR w bb bo Y) (pa : Ap vb vo ab ao) (pb : Ap vb vo bb bo) :
    Calls Tryz.prog 65 #[.pointer (some ⟨vb, vo, none⟩), .pointer (some ⟨ab, ao, none⟩), .pointer (some ⟨bb, bo, none⟩), .int .i64 0] w fun e w' => e = .returned (.pointer (some ⟨vb, vo, none⟩)) ∧ Upd w w' (Rg vb vo 5) ∧ El w' vb vo Y := by
  obtain ⟨v0, v1, v2, v3, v4, hv, _⟩ := hV
  obtain ⟨a0, a1, a2, a3, a4, ha, ⟨la0, ma0⟩, ⟨la1, ma1⟩, ⟨la2, ma2⟩, ⟨la3, ma3⟩, ⟨la4, ma4⟩, hza'⟩ := hX
  obtain ⟨b0, b1, b2, b3, b4, hb, ⟨lb0, mb0⟩, ⟨lb1, mb1⟩, ⟨lb2, mb2⟩, ⟨lb3, mb3⟩, ⟨lb4, mb4⟩, hzb'⟩ := hY
  have Hza := Lib.hid hza'
  have Hzb := Lib.hid hzb'
  clear hza' hzb'
  go_enter Tryz.func65, Tryz.ntmps65
  go_wp2_with fail
  refine (mask_0 _).mono ?_
  rintro e w1 ⟨rfl, hw1⟩
  subst w1
  go_wp2
  have ca0 : w.cell? ⟨ab, ao, none⟩ = some (.int .u64 a0) := ha.c0
  have cb0 : w.cell? ⟨bb, bo, none⟩ = some (.int .u64 b0) := hb.c0
  have cv0 : w.cell? ⟨vb, vo, none⟩ = some (.int .u64 v0) := hv.c0
  have fv0 := hv.f0
  have q1 := and_ones b0 lb0 (by omega)
  have q2 := and_zero a0
  have q3 := zero_or b0 lb0 (by omega)
  refine still_tail 17 (by kernel_rfl) (by kernel_rfl) ?_
  simp only [List.take_succ_cons, List.take_zero, List.drop_succ_cons, List.drop_zero]
  repeat still_step
  refine wpStill_nil ?_
  go_wp2
  clear ca0 cb0 cv0 fv0 q1 q2 q3
  have ca1 : (w.setCell ⟨vb, vo, none⟩ (.int .u64 (b0))).cell? ⟨ab, ao + 1, none⟩ = some (.int .u64 a1) := (World.cell?_setCell_other _ _ _ _ (pa.ne 0 1 (by omega) (by omega) (by omega))).trans (ha.c1)
  have cb1 : (w.setCell ⟨vb, vo, none⟩ (.int .u64 (b0))).cell? ⟨bb, bo + 1, none⟩ = some (.int .u64 b1) := (World.cell?_setCell_other _ _ _ _ (pb.ne 0 1 (by omega) (by omega) (by omega))).trans (hb.c1)
  have cv1 : (w.setCell ⟨vb, vo, none⟩ (.int .u64 (b0))).cell? ⟨vb, vo + 1, none⟩ = some (.int .u64 v1) := (World.cell?_setCell_other _ _ _ _ (by simp)).trans (hv.c1)
  have fv1 := hv.f1
  have q1 := and_ones b1 lb1 (by omega)
  have q2 := and_zero a1
  have q3 := zero_or b1 lb1 (by omega)
  refine still_tail 17 (by kernel_rfl) (by kernel_rfl) ?_
  simp only [List.take_succ_cons, List.take_zero, List.drop_succ_cons, List.drop_zero]
  repeat still_step
  refine wpStill_nil ?_
  go_wp2
  clear ca1 cb1 cv1 fv1 q1 q2 q3
  have ca2 : ((w.setCell ⟨vb, vo, none⟩ (.int .u64 (b0))).setCell ⟨vb, vo + 1, none⟩ (.int .u64 (b1))).cell? ⟨ab, ao + 2, none⟩ = some (.int .u64 a2) := (World.cell?_setCell_other _ _ _ _ (pa.ne 1 2 (by omega) (by omega) (by omega))).trans ((World.cell?_setCell_other _ _ _ _ (pa.ne 0 2 (by omega) (by omega) (by omega))).trans (ha.c2))
  have cb2 : ((w.setCell ⟨vb, vo, none⟩ (.int .u64 (b0))).setCell ⟨vb, vo + 1, none⟩ (.int .u64 (b1))).cell? ⟨bb, bo + 2, none⟩ = some (.int .u64 b2) := (World.cell?_setCell_other _ _ _ _ (pb.ne 1 2 (by omega) (by omega) (by omega))).trans ((World.cell?_setCell_other _ _ _ _ (pb.ne 0 2 (by omega) (by omega) (by omega))).trans (hb.c2))
  have cv2 : ((w.setCell ⟨vb, vo, none⟩ (.int .u64 (b0))).setCell ⟨vb, vo + 1, none⟩ (.int .u64 (b1))).cell? ⟨vb, vo + 2, none⟩ = some (.int .u64 v2) := (World.cell?_setCell_other _ _ _ _ (by simp)).trans ((World.cell?_setCell_other _ _ _ _ (by simp)).trans (hv.c2))
  have fv2 := hv.f2
  have q1 := and_ones b2 lb2 (by omega)
  have q2 := and_zero a2
  have q3 := zero_or b2 lb2 (by omega)
  refine still_tail 17 (by kernel_rfl) (by kernel_rfl) ?_
  simp only [List.take_succ_cons, List.take_zero, List.drop_succ_cons, List.drop_zero]
  repeat still_step
  refine wpStill_nil ?_
  go_wp2
  clear ca2 cb2 cv2 fv2 q1 q2 q3
  have ca3 : (((w.setCell ⟨vb, vo, none⟩ (.int .u64 (b0))).setCell ⟨vb, vo + 1, none⟩ (.int .u64 (b1))).setCell ⟨vb, vo + 2, none⟩ (.int .u64 (b2))).cell? ⟨ab, ao + 3, none⟩ = some (.int .u64 a3) := (World.cell?_setCell_other _ _ _ _ (pa.ne 2 3 (by omega) (by omega) (by omega))).trans ((World.cell?_setCell_other _ _ _ _ (pa.ne 1 3 (by omega) (by omega) (by omega))).trans ((World.cell?_setCell_other _ _ _ _ (pa.ne 0 3 (by omega) (by omega) (by omega))).trans (ha.c3)))
  have cb3 : (((w.setCell ⟨vb, vo, none⟩ (.int .u64 (b0))).setCell ⟨vb, vo + 1, none⟩ (.int .u64 (b1))).setCell ⟨vb, vo + 2, none⟩ (.int .u64 (b2))).cell? ⟨bb, bo + 3, none⟩ = some (.int .u64 b3) := (World.cell?_setCell_other _ _ _ _ (pb.ne 2 3 (by omega) (by omega) (by omega))).trans ((World.cell?_setCell_other _ _ _ _ (pb.ne 1 3 (by omega) (by omega) (by omega))).trans ((World.cell?_setCell_other _ _ _ _ (pb.ne 0 3 (by omega) (by omega) (by omega))).trans (hb.c3)))
  have cv3 : (((w.setCell ⟨vb, vo, none⟩ (.int .u64 (b0))).setCell ⟨vb, vo + 1, none⟩ (.int .u64 (b1))).setCell ⟨vb, vo + 2, none⟩ (.int .u64 (b2))).cell? ⟨vb, vo + 3, none⟩ = some (.int .u64 v3) := (World.cell?_setCell_other _ _ _ _ (by simp)).trans ((World.cell?_setCell_other _ _ _ _ (by simp)).trans ((World.cell?_setCell_other _ _ _ _ (by simp)).trans (hv.c3)))
  have fv3 := hv.f3
  have q1 := and_ones b3 lb3 (by omega)
  have q2 := and_zero a3
  have q3 := zero_or b3 lb3 (by omega)
  refine still_tail 17 (by kernel_rfl) (by kernel_rfl) ?_
  simp only [List.take_succ_cons, List.take_zero, List.drop_succ_cons, List.drop_zero]
  repeat still_step
  refine wpStill_nil ?_
  go_wp2
  clear ca3 cb3 cv3 fv3 q1 q2 q3
  have ca4 : ((((w.setCell ⟨vb, vo, none⟩ (.int .u64 (b0))).setCell ⟨vb, vo + 1, none⟩ (.int .u64 (b1))).setCell ⟨vb, vo + 2, none⟩ (.int .u64 (b2))).setCell ⟨vb, vo + 3, none⟩ (.int .u64 (b3))).cell? ⟨ab, ao + 4, none⟩ = some (.int .u64 a4) := (World.cell?_setCell_other _ _ _ _ (pa.ne 3 4 (by omega) (by omega) (by omega))).trans ((World.cell?_setCell_other _ _ _ _ (pa.ne 2 4 (by omega) (by omega) (by omega))).trans ((World.cell?_setCell_other _ _ _ _ (pa.ne 1 4 (by omega) (by omega) (by omega))).trans ((World.cell?_setCell_other _ _ _ _ (pa.ne 0 4 (by omega) (by omega) (by omega))).trans (ha.c4))))
  have cb4 : ((((w.setCell ⟨vb, vo, none⟩ (.int .u64 (b0))).setCell ⟨vb, vo + 1, none⟩ (.int .u64 (b1))).setCell ⟨vb, vo + 2, none⟩ (.int .u64 (b2))).setCell ⟨vb, vo + 3, none⟩ (.int .u64 (b3))).cell? ⟨bb, bo + 4, none⟩ = some (.int .u64 b4) := (World.cell?_setCell_other _ _ _ _ (pb.ne 3 4 (by omega) (by omega) (by omega))).trans ((World.cell?_setCell_other _ _ _ _ (pb.ne 2 4 (by omega) (by omega) (by omega))).trans ((World.cell?_setCell_other _ _ _ _ (pb.ne 1 4 (by omega) (by omega) (by omega))).trans ((World.cell?_setCell_other _ _ _ _ (pb.ne 0 4 (by omega) (by omega) (by omega))).trans (hb.c4))))
  have cv4 : ((((w.setCell ⟨vb, vo, none⟩ (.int .u64 (b0))).setCell ⟨vb, vo + 1, none⟩ (.int .u64 (b1))).setCell ⟨vb, vo + 2, none⟩ (.int .u64 (b2))).setCell ⟨vb, vo + 3, none⟩ (.int .u64 (b3))).cell? ⟨vb, vo + 4, none⟩ = some (.int .u64 v4) := (World.cell?_setCell_other _ _ _ _ (by simp)).trans ((World.cell?_setCell_other _ _ _ _ (by simp)).trans ((World.cell?_setCell_other _ _ _ _ (by simp)).trans ((World.cell?_setCell_other _ _ _ _ (by simp)).trans (hv.c4))))
  have fv4 := hv.f4
  have q1 := and_ones b4 lb4 (by omega)
  have q2 := and_zero a4
  have q3 := zero_or b4 lb4 (by omega)
  refine still_tail 17 (by kernel_rfl) (by kernel_rfl) ?_
  simp only [List.take_succ_cons, List.take_zero, List.drop_succ_cons, List.drop_zero]
  repeat still_step
  refine wpStill_nil ?_
  go_wp2
  clear ca4 cb4 cv4 fv4 q1 q2 q3
  go_ret
  exact ⟨rfl, (five_upd _ _ _ _ _ _ _ _).drew.drew.drew.drew.drew, _, _, _, _, _, (((((hv.set0 b0).set1 b1).set2 b2).set3 b3).set4 b4).drew.drew.drew.drew.drew, ⟨lb0, mb0⟩, ⟨lb1, mb1⟩, ⟨lb2, mb2⟩, ⟨lb3, mb3⟩, ⟨lb4, mb4⟩, Hzb.out⟩
set_option maxRecDepth 1000000 in
set_option maxHeartbeats 40000000 in
theorem sel1_c (vb vo ab ao bb bo : Nat) (V X Y : F) (w : World) (hV : El w vb vo V) (hX : ElR w ab ao X) (hY : ElR w bb bo Y) (pa : Ap vb vo ab ao) (pb : Ap vb vo bb bo) :
    Calls Tryz.prog 65 #[.pointer (some ⟨vb, vo, none⟩), .pointer (some ⟨ab, ao, none⟩), .pointer (some ⟨bb, bo, none⟩), .int .i64 1] w fun e w' => e = .returned (.pointer (some ⟨vb, vo, none⟩)) ∧ Upd w w' (Rg vb vo 5) ∧ El w' vb vo X := by
  obtain ⟨v0, v1, v2, v3, v4, hv, _⟩ := hV
  obtain ⟨a0, a1, a2, a3, a4, ha, ⟨la0, ma0⟩, ⟨la1, ma1⟩, ⟨la2, ma2⟩, ⟨la3, ma3⟩, ⟨la4, ma4⟩, hza'⟩ := hX
  obtain ⟨b0, b1, b2, b3, b4, hb, ⟨lb0, mb0⟩, ⟨lb1, mb1⟩, ⟨lb2, mb2⟩, ⟨lb3, mb3⟩, ⟨lb4, mb4⟩, hzb'⟩ := hY
  have Hza := Lib.hid hza'
  have Hzb := Lib.hid hzb'
  clear hza' hzb'
  go_enter Tryz.func65, Tryz.ntmps65
  go_wp2_with fail
  refine (mask_1 _).mono ?_
  rintro e w1 ⟨rfl, hw1⟩
  subst w1
  go_wp2
  have ca0 : w.cell? ⟨ab, ao, none⟩ = some (.int .u64 a0) := ha.c0
  have cb0 : w.cell? ⟨bb, bo, none⟩ = some (.int .u64 b0) := hb.c0
  have cv0 : w.cell? ⟨vb, vo, none⟩ = some (.int .u64 v0) := hv.c0
  have fv0 := hv.f0
  have q1 := and_ones a0 la0 (by omega)
  have q2 := and_zero b0
  have q3 := or_zero a0 la0 (by omega)
  refine still_tail 17 (by kernel_rfl) (by kernel_rfl) ?_
  simp only [List.take_succ_cons, List.take_zero, List.drop_succ_cons, List.drop_zero]
  repeat still_step
  refine wpStill_nil ?_
  go_wp2
  clear ca0 cb0 cv0 fv0 q1 q2 q3
  have ca1 : (w.setCell ⟨vb, vo, none⟩ (.int .u64 (a0))).cell? ⟨ab, ao + 1, none⟩ = some (.int .u64 a1) := (World.cell?_setCell_other _ _ _ _ (pa.ne 0 1 (by omega) (by omega) (by omega))).trans (ha.c1)
  have cb1 : (w.setCell ⟨vb, vo, none⟩ (.int .u64 (a0))).cell? ⟨bb, bo + 1, none⟩ = some (.int .u64 b1) := (World.cell?_setCell_other _ _ _ _ (pb.ne 0 1 (by omega) (by omega) (by omega))).trans (hb.c1)
  have cv1 : (w.setCell ⟨vb, vo, none⟩ (.int .u64 (a0))).cell? ⟨vb, vo + 1, none⟩ = some (.int .u64 v1) := (World.cell?_setCell_other _ _ _ _ (by simp)).trans (hv.c1)
  have fv1 := hv.f1
  have q1 := and_ones a1 la1 (by omega)
  have q2 := and_zero b1
  have q3 := or_zero a1 la1 (by omega)
  refine still_tail 17 (by kernel_rfl) (by kernel_rfl) ?_
  simp only [List.take_succ_cons, List.take_zero, List.drop_succ_cons, List.drop_zero]
  repeat still_step
  refine wpStill_nil ?_
  go_wp2
  clear ca1 cb1 cv1 fv1 q1 q2 q3
  have ca2 : ((w.setCell ⟨vb, vo, none⟩ (.int .u64 (a0))).setCell ⟨vb, vo + 1, none⟩ (.int .u64 (a1))).cell? ⟨ab, ao + 2, none⟩ = some (.int .u64 a2) := (World.cell?_setCell_other _ _ _ _ (pa.ne 1 2 (by omega) (by omega) (by omega))).trans ((World.cell?_setCell_other _ _ _ _ (pa.ne 0 2 (by omega) (by omega) (by omega))).trans (ha.c2))
  have cb2 : ((w.setCell ⟨vb, vo, none⟩ (.int .u64 (a0))).setCell ⟨vb, vo + 1, none⟩ (.int .u64 (a1))).cell? ⟨bb, bo + 2, none⟩ = some (.int .u64 b2) := (World.cell?_setCell_other _ _ _ _ (pb.ne 1 2 (by omega) (by omega) (by omega))).trans ((World.cell?_setCell_other _ _ _ _ (pb.ne 0 2 (by omega) (by omega) (by omega))).trans (hb.c2))
  have cv2 : ((w.setCell ⟨vb, vo, none⟩ (.int .u64 (a0))).setCell ⟨vb, vo + 1, none⟩ (.int .u64 (a1))).cell? ⟨vb, vo + 2, none⟩ = some (.int .u64 v2) := (World.cell?_setCell_other _ _ _ _ (by simp)).trans ((World.cell?_setCell_other _ _ _ _ (by simp)).trans (hv.c2))
  have fv2 := hv.f2
  have q1 := and_ones a2 la2 (by omega)
  have q2 := and_zero b2
  have q3 := or_zero a2 la2 (by omega)
  refine still_tail 17 (by kernel_rfl) (by kernel_rfl) ?_
  simp only [List.take_succ_cons, List.take_zero, List.drop_succ_cons, List.drop_zero]
  repeat still_step
  refine wpStill_nil ?_
  go_wp2
  clear ca2 cb2 cv2 fv2 q1 q2 q3
  have ca3 : (((w.setCell ⟨vb, vo, none⟩ (.int .u64 (a0))).setCell ⟨vb, vo + 1, none⟩ (.int .u64 (a1))).setCell ⟨vb, vo + 2, none⟩ (.int .u64 (a2))).cell? ⟨ab, ao + 3, none⟩ = some (.int .u64 a3) := (World.cell?_setCell_other _ _ _ _ (pa.ne 2 3 (by omega) (by omega) (by omega))).trans ((World.cell?_setCell_other _ _ _ _ (pa.ne 1 3 (by omega) (by omega) (by omega))).trans ((World.cell?_setCell_other _ _ _ _ (pa.ne 0 3 (by omega) (by omega) (by omega))).trans (ha.c3)))
  have cb3 : (((w.setCell ⟨vb, vo, none⟩ (.int .u64 (a0))).setCell ⟨vb, vo + 1, none⟩ (.int .u64 (a1))).setCell ⟨vb, vo + 2, none⟩ (.int .u64 (a2))).cell? ⟨bb, bo + 3, none⟩ = some (.int .u64 b3) := (World.cell?_setCell_other _ _ _ _ (pb.ne 2 3 (by omega) (by omega) (by omega))).trans ((World.cell?_setCell_other _ _ _ _ (pb.ne 1 3 (by omega) (by omega) (by omega))).trans ((World.cell?_setCell_other _ _ _ _ (pb.ne 0 3 (by omega) (by omega) (by omega))).trans (hb.c3)))
  have cv3 : (((w.setCell ⟨vb, vo, none⟩ (.int .u64 (a0))).setCell ⟨vb, vo + 1, none⟩ (.int .u64 (a1))).setCell ⟨vb, vo + 2, none⟩ (.int .u64 (a2))).cell? ⟨vb, vo + 3, none⟩ = some (.int .u64 v3) := (World.cell?_setCell_other _ _ _ _ (by simp)).trans ((World.cell?_setCell_other _ _ _ _ (by simp)).trans ((World.cell?_setCell_other _ _ _ _ (by simp)).trans (hv.c3)))
  have fv3 := hv.f3
  have q1 := and_ones a3 la3 (by omega)
  have q2 := and_zero b3
  have q3 := or_zero a3 la3 (by omega)
  refine still_tail 17 (by kernel_rfl) (by kernel_rfl) ?_
  simp only [List.take_succ_cons, List.take_zero, List.drop_succ_cons, List.drop_zero]
  repeat still_step
  refine wpStill_nil ?_
  go_wp2
  clear ca3 cb3 cv3 fv3 q1 q2 q3
  have ca4 : ((((w.setCell ⟨vb, vo, none⟩ (.int .u64 (a0))).setCell ⟨vb, vo + 1, none⟩ (.int .u64 (a1))).setCell ⟨vb, vo + 2, none⟩ (.int .u64 (a2))).setCell ⟨vb, vo + 3, none⟩ (.int .u64 (a3))).cell? ⟨ab, ao + 4, none⟩ = some (.int .u64 a4) := (World.cell?_setCell_other _ _ _ _ (pa.ne 3 4 (by omega) (by omega) (by omega))).trans ((World.cell?_setCell_other _ _ _ _ (pa.ne 2 4 (by omega) (by omega) (by omega))).trans ((World.cell?_setCell_other _ _ _ _ (pa.ne 1 4 (by omega) (by omega) (by omega))).trans ((World.cell?_setCell_other _ _ _ _ (pa.ne 0 4 (by omega) (by omega) (by omega))).trans (ha.c4))))
  have cb4 : ((((w.setCell ⟨vb, vo, none⟩ (.int .u64 (a0))).setCell ⟨vb, vo + 1, none⟩ (.int .u64 (a1))).setCell ⟨vb, vo + 2, none⟩ (.int .u64 (a2))).setCell ⟨vb, vo + 3, none⟩ (.int .u64 (a3))).cell? ⟨bb, bo + 4, none⟩ = some (.int .u64 b4) := (World.cell?_setCell_other _ _ _ _ (pb.ne 3 4 (by omega) (by omega) (by omega))).trans ((World.cell?_setCell_other _ _ _ _ (pb.ne 2 4 (by omega) (by omega) (by omega))).trans ((World.cell?_setCell_other _ _ _ _ (pb.ne 1 4 (by omega) (by omega) (by omega))).trans ((World.cell?_setCell_other _ _ _ _ (pb.ne 0 4 (by omega) (by omega) (by omega))).trans (hb.c4))))
  have cv4 : ((((w.setCell ⟨vb, vo, none⟩ (.int .u64 (a0))).setCell ⟨vb, vo + 1, none⟩ (.int .u64 (a1))).setCell ⟨vb, vo + 2, none⟩ (.int .u64 (a2))).setCell ⟨vb, vo + 3, none⟩ (.int .u64 (a3))).cell? ⟨vb, vo + 4, none⟩ = some (.int .u64 v4) := (World.cell?_setCell_other _ _ _ _ (by simp)).trans ((World.cell?_setCell_other _ _ _ _ (by simp)).trans ((World.cell?_setCell_other _ _ _ _ (by simp)).trans ((World.cell?_setCell_other _ _ _ _ (by simp)).trans (hv.c4))))
  have fv4 := hv.f4
  have q1 := and_ones a4 la4 (by omega)
  have q2 := and_zero b4
  have q3 := or_zero a4 la4 (by omega)
  refine still_tail 17 (by kernel_rfl) (by kernel_rfl) ?_
  simp only [List.take_succ_cons, List.take_zero, List.drop_succ_cons, List.drop_zero]
  repeat still_step
  refine wpStill_nil ?_
  go_wp2
  clear ca4 cb4 cv4 fv4 q1 q2 q3
  go_ret
  exact ⟨rfl, (five_upd _ _ _ _ _ _ _ _).drew.drew.drew.drew.drew, _, _, _, _, _, (((((hv.set0 a0).set1 a1).set2 a2).set3 a3).set4 a4).drew.drew.drew.drew.drew, ⟨la0, ma0⟩, ⟨la1, ma1⟩, ⟨la2, ma2⟩, ⟨la3, ma3⟩, ⟨la4, ma4⟩, Hza.out⟩

end Go.Proofs.YtkibnongmkhbaaaGreatDoor
end

section
open Go Go.RowKit
namespace Go.Proofs.YtkibnongmkhbaaaGreatDoor
open Ed

def CmpPost (f g : Nat → Int) (w : World) (e : Ending) (w' : World) : Prop :=
  ((e = .returned (.int .i64 1) ∧ ∀ i, i < 32 → f i = g i) ∨ (e = .returned (.int .i64 0) ∧ ∃ i, i < 32 ∧ f i ≠ g i)) ∧ Upd w w' (fun _ _ => False)

def CmpRel (f g : Nat → Int) (w : World) (t : Value) (wr : World) : Prop :=
  ∃ k : Nat, k ≤ 32 ∧ t = .int .i64 k ∧ Upd w wr (fun _ _ => False) ∧ ∀ i, i < k → f i = g i

set_option maxRecDepth 100000 in
theorem cmp_c (ab ao bb bo : Nat) (f g : Nat → Int) (w : World) (ha : By w ab ao 32 f) (hb : By w bb bo 32 g) :
    Calls Tryz.prog 111 #[.slice (some ⟨ab, ao, none⟩) 32 32, .slice (some ⟨bb, bo, none⟩) 32 32] w (CmpPost f g w) := by
  have HA := Lib.hid ha
  have HB := Lib.hid hb
  clear ha hb
  go_enter Tryz.func111, Tryz.ntmps111
  go_wp2
  go_loopw [13] (fun t wr => CmpRel f g w t wr) (fun t _ => 32 - (intOf t).toNat)
  case atStart => exact ⟨0, by omega, rfl, Upd.refl _ _, fun i hi => absurd hi (by omega)⟩
  case round =>
    obtain ⟨k, hk, rfl, hU, hE⟩ := hrel
    have HE := Lib.hid hE
    clear hE
    by_cases hlt : k = 32
    · subst hlt
      go_wp2
      go_ret
      exact ⟨.inl ⟨rfl, HE.out⟩, hU⟩
    · have hk32 : (k : Int) < 32 := by omega
      have ca := (hU.cell _ _ (World.block_lt_of_cell? w _ (HA.out k (by omega))) id).trans (HA.out k (by omega))
      have cb := (hU.cell _ _ (World.block_lt_of_cell? w _ (HB.out k (by omega))) id).trans (HB.out k (by omega))
      go_wp2
      refine still_all (by kernel_rfl) (by kernel_rfl) ?_
      by_cases hfg : f k = g k
      · have h1 : (f k != g k) = false := by simp [hfg]
        have HF := Lib.hid hfg
        clear hfg
        repeat still_step
        refine wpStill_nil ?_
        go_wp2
        refine ⟨⟨k + 1, by omega, by go_num, hU.drew, ?_⟩, by simp [intOf]; omega⟩
        intro i hi
        by_cases hik : i = k
        · rw [hik]; exact HF.out
        · exact HE.out i (by omega)
      · have h1 : (f k != g k) = true := by simp [hfg]
        have HF := Lib.hid hfg
        clear hfg
        repeat still_step
        refine wpStill_nil ?_
        go_wp2
        go_ret
        exact ⟨.inr ⟨rfl, k, by omega, HF.out⟩, hU.drew⟩

theorem le_byteOf (N : Int) (n : Nat) : ∀ k, le (byteOf N) k n = N / 256 ^ k % 256 ^ n := by
  induction n with
  | zero => intro k; show 0 = _ % 1; omega
  | succ n ih =>
    intro k
    unfold le
    rw [ih (k + 1)]
    unfold byteOf
    rw [Int.pow_succ, ← Int.ediv_ediv_of_nonneg (Int.le_of_lt (Int.pow_pos (by decide)))]
    generalize N / 256 ^ k = M
    have hp : (0 : Int) < 256 ^ n := Int.pow_pos (by decide)
    have e1 := Int.mul_ediv_add_emod M 256
    have e2 := Int.mul_ediv_add_emod (M / 256) (256 ^ n)
    have h1 := Int.emod_nonneg (M / 256) (Int.ne_of_gt hp)
    have h2 := Int.emod_lt_of_pos (M / 256) hp
    have h3 := Int.emod_nonneg M (show (256 : Int) ≠ 0 by decide)
    have h4 := Int.emod_lt_of_pos M (show (0 : Int) < 256 by decide)
    have e3 : M = M % 256 + 256 * (M / 256 % 256 ^ n) + 256 ^ n * 256 * (M / 256 / 256 ^ n) := by grind
    have e4 : M % (256 ^ n * 256) = (M % 256 + 256 * (M / 256 % 256 ^ n)) % (256 ^ n * 256) := by
      conv => lhs; rw [e3]
      exact Int.add_mul_emod_self_left _ _ _
    rw [show (256 : Int) ^ (n + 1) = 256 ^ n * 256 from Int.pow_succ _ _, e4]
    exact (Int.emod_eq_of_lt (by omega) (by omega)).symm

theorem val_lt (X : F) : (0 : Int) ≤ X.val ∧ (X.val : Int) < 57896044618658097711785492504343953926634992332820282019728792003956564819949 := by
  have h := X.isLt
  have := P_int
  omega

theorem bytes_inj (X Y : F) (h : ∀ i, i < 32 → byteOf X.val i = byteOf Y.val i) : X = Y := by
  have hx := val_lt X
  have hy := val_lt Y
  have key : ∀ n k, k + n ≤ 32 → le (byteOf X.val) k n = le (byteOf Y.val) k n := by
    intro n
    induction n with
    | zero => intro k _; rfl
    | succ n ih => intro k hk; unfold le; rw [h k (by omega), ih (k + 1) (by omega)]
  have := key 32 0 (by decide)
  rw [le_byteOf, le_byteOf] at this
  apply Fin.ext
  have e : (256 : Int) ^ 32 = 115792089237316195423570985008687907853269984665640564039457584007913129639936 := by decide
  rw [e, Int.pow_zero] at this
  omega

/-- 1 where they are one, else 0 -/
def eqI (X Y : F) : Int := if X = Y then 1 else 0

set_option maxRecDepth 100000 in
theorem equal_c (ab ao bb bo : Nat) (X Y : F) (w : World) (hX : ElR w ab ao X) (hY : ElR w bb bo Y) :
    Calls Tryz.prog 89 #[.pointer (some ⟨ab, ao, none⟩), .pointer (some ⟨bb, bo, none⟩)] w fun e w' => e = .returned (.int .i64 (eqI X Y)) ∧ Upd w w' (fun _ _ => False) := by
  have l1 := hX.lt
  have l2 := hY.lt
  go_enter Tryz.func89, Tryz.ntmps89
  go_wp2_with fail
  refine (bytes110_c bb bo Y w hY).mono ?_
  rintro e w1 ⟨rfl, hU1, hB1, _⟩
  have hX1 := hX.keep hU1 (fun _ _ h => h)
  go_wp2_with fail
  refine (bytes110_c ab ao X w1 hX1).mono ?_
  rintro e w2 ⟨rfl, hU2, hB2, _⟩
  have hB1' := hB1.keep hU2 (fun _ _ h => h)
  go_wp2_with fail
  refine (cmp_c w.heap.size 0 w1.heap.size 0 (byteOf Y.val) (byteOf X.val) w2 hB1' hB2).mono ?_
  rintro e w3 ⟨h, hU3⟩
  have hU := (hU1.trans hU2 (fun _ _ _ h => h)).trans hU3 (fun _ _ _ h => h)
  rcases h with ⟨rfl, h⟩ | ⟨rfl, i, hi, h⟩
  · have e : eqI X Y = 1 := by
      have := bytes_inj Y X h
      unfold eqI; rw [if_pos this.symm]
    have He := Lib.hid e
    clear e
    go_wp2
    go_ret
    exact ⟨by rw [He.out]; rfl, hU⟩
  · have e : eqI X Y = 0 := by
      unfold eqI; rw [if_neg]
      rintro rfl
      exact h rfl
    have He := Lib.hid e
    clear e
    go_wp2
    go_ret
    exact ⟨by rw [He.out]; rfl, hU⟩

set_option maxRecDepth 100000 in
theorem isNeg_c (ab ao : Nat) (X : F) (w : World) (hX : ElR w ab ao X) :
    Calls Tryz.prog 94 #[.pointer (some ⟨ab, ao, none⟩)] w fun e w' => e = .returned (.int .i64 ((X.val : Int) % 2)) ∧ Upd w w' (fun _ _ => False) := by
  have hand : bits .and .u8 (byteOf X.val 0) 1 = (X.val : Int) % 2 := by
    have hb := byteOf_byte X.val 0
    have := bits_mask .u8 8 (by decide) wraps_u8 1 (by decide) (byteOf X.val 0) hb.1 hb.2
    rw [show (2 : Int) ^ 1 - 1 = 1 by decide] at this
    rw [this]
    unfold byteOf
    omega
  go_enter Tryz.func94, Tryz.ntmps94
  go_wp2_with fail
  refine (bytes110_c ab ao X w hX).mono ?_
  rintro e w1 ⟨rfl, hU, hB, _⟩
  have c0 : w1.cell? ⟨w.heap.size, 0, none⟩ = some (.int .u8 (byteOf X.val 0)) := hB 0 (by decide)
  have hlt := val_lt X
  generalize hv : (X.val : Int) % 2 = v at *
  have v0 : 0 ≤ v := by omega
  have v1 : v < 2 := by omega
  have Hv := Lib.hid hv
  clear hB hv
  go_wp2
  go_ret
  exact ⟨by simp; exact Hv.out.symm, hU⟩

/-- the one of X and -X that is not negative -/
def absF (X : F) : F := if (X.val : Int) % 2 = 1 then -X else X

theorem C5.zero (w : World) : C5 (w.alloc (.cells #[.int .u64 0, .int .u64 0, .int .u64 0, .int .u64 0, .int .u64 0] 40)) w.heap.size 0 0 0 0 0 0 := C5.new w 0 0 0 0 0 40
theorem El.zero (w : World) : El (w.alloc (.cells #[.int .u64 0, .int .u64 0, .int .u64 0, .int .u64 0, .int .u64 0] 40)) w.heap.size 0 0 := ⟨_, _, _, _, _, C5.zero w, lim0, lim0, lim0, lim0, lim0, lv0⟩

set_option maxRecDepth 100000 in
theorem abs_c (B vb vo ab ao : Nat) (V X : F) (w : World) (hG : Glob B w) (hB : B ≤ vb) (hV : El w vb vo V) (hX : ElR w ab ao X) (pa : Ap vb vo ab ao) :
    Calls Tryz.prog 90 #[.pointer (some ⟨vb, vo, none⟩), .pointer (some ⟨ab, ao, none⟩)] w fun e w' => e = .returned (.pointer (some ⟨vb, vo, none⟩)) ∧ Upd w w' (Rg vb vo 5) ∧ El w' vb vo (absF X) := by
  have l1 := hV.lt
  have l2 := hX.lt
  have A0 := (Upd.refl w (fun _ _ => False)).alloc (.cells #[.int .u64 0, .int .u64 0, .int .u64 0, .int .u64 0, .int .u64 0] 40)
  have hG0 := hG.keep A0 (fun _ _ _ h => h)
  have hX0 := hX.keep A0 (fun _ _ h => h)
  have hV0 := hV.keep A0 (fun _ _ h => h)
  have hN0 := El.zero w
  go_enter Tryz.func90, Tryz.ntmps90
  go_wp2_with fail
  refine (neg_c B w.heap.size 0 ab ao 0 X _ hG0 (by omega) hN0 hX0 (.inl (by omega))).mono ?_
  rintro e w1 ⟨rfl, hU1, hN1⟩
  have hX1 := hX0.keep hU1 (fun _ _ h => absurd h.1 (by omega))
  have hV1 := hV0.keep hU1 (fun _ _ h => absurd h.1 (by omega))
  go_wp2_with fail
  refine (isNeg_c ab ao X w1 hX1).mono ?_
  rintro e w2 ⟨he, hU2⟩
  have hX2 := hX1.keep hU2 (fun _ _ h => h)
  have hV2 := hV1.keep hU2 (fun _ _ h => h)
  have hN2 := hN1.keep hU2 (fun _ _ h => h)
  have hA := ((A0.trans hU1 (fun b o hb h => absurd h.1 (by omega))).wide (S := Rg vb vo 5) (fun _ _ _ h => h.elim)).trans hU2 (fun _ _ _ h => h.elim)
  have hc : (X.val : Int) % 2 = 0 ∨ (X.val : Int) % 2 = 1 := by omega
  rcases hc with hc | hc
  · rw [hc] at he
    subst he
    have ea : absF X = X := by unfold absF; rw [if_neg (by omega)]
    have Ea := Lib.hid ea
    clear ea hc
    go_wp2_with fail
    refine (sel0_c vb vo w.heap.size 0 ab ao V (-X) X w2 hV2 hN2.r hX2 (.inl (by omega)) pa).mono ?_
    rintro e w3 ⟨rfl, hU3, hE⟩
    go_wp2
    go_ret
    exact ⟨rfl, hA.trans hU3 (fun _ _ _ h => h), by rw [Ea.out]; exact hE⟩
  · rw [hc] at he
    subst he
    have ea : absF X = -X := by unfold absF; rw [if_pos hc]
    have Ea := Lib.hid ea
    clear ea hc
    go_wp2_with fail
    refine (sel1_c vb vo w.heap.size 0 ab ao V (-X) X w2 hV2 hN2.r hX2 (.inl (by omega)) pa).mono ?_
    rintro e w3 ⟨rfl, hU3, hE⟩
    go_wp2
    go_ret
    exact ⟨rfl, hA.trans hU3 (fun _ _ _ h => h), by rw [Ea.out]; exact hE⟩
end Go.Proofs.YtkibnongmkhbaaaGreatDoor
end
