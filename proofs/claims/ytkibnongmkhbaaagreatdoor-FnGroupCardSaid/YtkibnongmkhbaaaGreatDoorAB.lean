/- Part of the proof that laws.FnGroup returns true for all 32 bytes p, q and x: the field's squaring, repeated squaring, addition and subtraction.
   Conditions: those that each theorem states. -/
import Derived.Test.YtkibnongmkhbaaaGreatDoorAA

section
open Go Go.RowKit
namespace Go.Proofs.YtkibnongmkhbaaaGreatDoor
open Ed

set_option maxRecDepth 1000000 in
set_option maxHeartbeats 40000000 in
theorem feSq_c (vb vo ab ao : Nat) (v0 v1 v2 v3 v4 a0 a1 a2 a3 a4 : Int) (w : World) (hv : C5 w vb vo v0 v1 v2 v3 v4) (ha : R5 w ab ao a0 a1 a2 a3 a4)
    (la0 : Lim a0) (la1 : Lim a1) (la2 : Lim a2) (la3 : Lim a3) (la4 : Lim a4) :
    Calls Tryz.prog 85 #[.pointer (some ⟨vb, vo, none⟩), .pointer (some ⟨ab, ao, none⟩)] w fun e w' => e = .returned (.tuple #[]) ∧ Upd w w' (Rg vb vo 5) ∧
      El w' vb vo (z (lv a0 a1 a2 a3 a4) * z (lv a0 a1 a2 a3 a4)) := by
  unfold Lim at la0 la1 la2 la3 la4
  obtain ⟨pa0, qa0⟩ := la0
  obtain ⟨pa1, qa1⟩ := la1
  obtain ⟨pa2, qa2⟩ := la2
  obtain ⟨pa3, qa3⟩ := la3
  obtain ⟨pa4, qa4⟩ := la4
  obtain ⟨i0, i1, i2, i3, i4⟩ := ha
  have hA := Upd.refl w (fun _ _ => False)
  go_enter Tryz.func85, Tryz.ntmps85
  go_wp2_with fail
  clear i0 i1 i2 i3 i4
  refine (mulV a0 a0 (by omega) (by omega) (by omega) (by omega) _).mono ?_
  rintro e w1 ⟨V00, rfl, V00e, V00a, V00b, hU⟩
  replace hA := hA.trans hU (fun _ _ _ h => h.elim)
  have hb0 := hA.size
  clear hU
  go_wp2_with fail
  replace hA := hA.alloc (.cells #[.int .u64 (V00 % 18446744073709551616), .int .u64 (V00 / 18446744073709551616)] 152)
  have r0 := C2.new w1 (V00 % 18446744073709551616) (V00 / 18446744073709551616) 152
  refine (addMul38V _ V00 a1 a4 V00a V00b (by omega) (by omega) (by omega) (by omega) (by omega) _).mono ?_
  rintro e w2 ⟨V01, rfl, V01e, V01a, V01b, hU⟩
  replace hA := hA.trans hU (fun _ _ _ h => h.elim)
  replace r0 := C2.keep hU r0
  clear hU
  obtain ⟨z0, z1, z2, z3⟩ := id r0
  go_wp2_with fail
  clear z0 z1 z2 z3
  replace hA := hA.set (b := w1.heap.size) (o := 0) (fun h => absurd h (by omega)) (.int .u64 (V01 % 18446744073709551616))
  replace hA := hA.set (b := w1.heap.size) (o := 1) (fun h => absurd h (by omega)) (.int .u64 (V01 / 18446744073709551616))
  replace r0 := r0.set (V01 % 18446744073709551616) (V01 / 18446744073709551616)
  refine (addMul38V _ V01 a2 a3 V01a V01b (by omega) (by omega) (by omega) (by omega) (by omega) _).mono ?_
  rintro e w3 ⟨V02, rfl, V02e, V02a, V02b, hU⟩
  replace hA := hA.trans hU (fun _ _ _ h => h.elim)
  replace r0 := C2.keep hU r0
  clear hU
  obtain ⟨z0, z1, z2, z3⟩ := id r0
  go_wp2_with fail
  clear z0 z1 z2 z3
  replace hA := hA.set (b := w1.heap.size) (o := 0) (fun h => absurd h (by omega)) (.int .u64 (V02 % 18446744073709551616))
  replace hA := hA.set (b := w1.heap.size) (o := 1) (fun h => absurd h (by omega)) (.int .u64 (V02 / 18446744073709551616))
  replace r0 := r0.set (V02 % 18446744073709551616) (V02 / 18446744073709551616)
  refine (mulV (a0 * 2) a1 (by omega) (by omega) (by omega) (by omega) _).mono ?_
  rintro e w4 ⟨V10, rfl, V10e, V10a, V10b, hU⟩
  replace hA := hA.trans hU (fun _ _ _ h => h.elim)
  replace r0 := C2.keep hU r0
  have d01 := r0.lt
  have hb1 := hA.size
  clear hU
  go_wp2_with fail
  replace hA := hA.alloc (.cells #[.int .u64 (V10 % 18446744073709551616), .int .u64 (V10 / 18446744073709551616)] 152)
  replace r0 := r0.alloc (.cells #[.int .u64 (V10 % 18446744073709551616), .int .u64 (V10 / 18446744073709551616)] 152)
  have r1 := C2.new w4 (V10 % 18446744073709551616) (V10 / 18446744073709551616) 152
  refine (addMul38V _ V10 a2 a4 V10a V10b (by omega) (by omega) (by omega) (by omega) (by omega) _).mono ?_
  rintro e w5 ⟨V11, rfl, V11e, V11a, V11b, hU⟩
  replace hA := hA.trans hU (fun _ _ _ h => h.elim)
  replace r0 := C2.keep hU r0
  replace r1 := C2.keep hU r1
  clear hU
  obtain ⟨z0, z1, z2, z3⟩ := id r1
  go_wp2_with fail
  clear z0 z1 z2 z3
  replace hA := hA.set (b := w4.heap.size) (o := 0) (fun h => absurd h (by omega)) (.int .u64 (V11 % 18446744073709551616))
  replace r0 := r0.other (b' := w4.heap.size) (by omega) 0 (.int .u64 (V11 % 18446744073709551616))
  replace hA := hA.set (b := w4.heap.size) (o := 1) (fun h => absurd h (by omega)) (.int .u64 (V11 / 18446744073709551616))
  replace r0 := r0.other (b' := w4.heap.size) (by omega) 1 (.int .u64 (V11 / 18446744073709551616))
  replace r1 := r1.set (V11 % 18446744073709551616) (V11 / 18446744073709551616)
  refine (addMul19V _ V11 a3 a3 V11a V11b (by omega) (by omega) (by omega) (by omega) (by omega) _).mono ?_
  rintro e w6 ⟨V12, rfl, V12e, V12a, V12b, hU⟩
  replace hA := hA.trans hU (fun _ _ _ h => h.elim)
  replace r0 := C2.keep hU r0
  replace r1 := C2.keep hU r1
  clear hU
  obtain ⟨z0, z1, z2, z3⟩ := id r1
  go_wp2_with fail
  clear z0 z1 z2 z3
  replace hA := hA.set (b := w4.heap.size) (o := 0) (fun h => absurd h (by omega)) (.int .u64 (V12 % 18446744073709551616))
  replace r0 := r0.other (b' := w4.heap.size) (by omega) 0 (.int .u64 (V12 % 18446744073709551616))
  replace hA := hA.set (b := w4.heap.size) (o := 1) (fun h => absurd h (by omega)) (.int .u64 (V12 / 18446744073709551616))
  replace r0 := r0.other (b' := w4.heap.size) (by omega) 1 (.int .u64 (V12 / 18446744073709551616))
  replace r1 := r1.set (V12 % 18446744073709551616) (V12 / 18446744073709551616)
  refine (mulV (a0 * 2) a2 (by omega) (by omega) (by omega) (by omega) _).mono ?_
  rintro e w7 ⟨V20, rfl, V20e, V20a, V20b, hU⟩
  replace hA := hA.trans hU (fun _ _ _ h => h.elim)
  replace r0 := C2.keep hU r0
  replace r1 := C2.keep hU r1
  have d02 := r0.lt
  have d12 := r1.lt
  have hb2 := hA.size
  clear hU
  go_wp2_with fail
  replace hA := hA.alloc (.cells #[.int .u64 (V20 % 18446744073709551616), .int .u64 (V20 / 18446744073709551616)] 152)
  replace r0 := r0.alloc (.cells #[.int .u64 (V20 % 18446744073709551616), .int .u64 (V20 / 18446744073709551616)] 152)
  replace r1 := r1.alloc (.cells #[.int .u64 (V20 % 18446744073709551616), .int .u64 (V20 / 18446744073709551616)] 152)
  have r2 := C2.new w7 (V20 % 18446744073709551616) (V20 / 18446744073709551616) 152
  refine (addMulV _ V20 a1 a1 V20a V20b (by omega) (by omega) (by omega) (by omega) (by omega) _).mono ?_
  rintro e w8 ⟨V21, rfl, V21e, V21a, V21b, hU⟩
  replace hA := hA.trans hU (fun _ _ _ h => h.elim)
  replace r0 := C2.keep hU r0
  replace r1 := C2.keep hU r1
  replace r2 := C2.keep hU r2
  clear hU
  obtain ⟨z0, z1, z2, z3⟩ := id r2
  go_wp2_with fail
  clear z0 z1 z2 z3
  replace hA := hA.set (b := w7.heap.size) (o := 0) (fun h => absurd h (by omega)) (.int .u64 (V21 % 18446744073709551616))
  replace r0 := r0.other (b' := w7.heap.size) (by omega) 0 (.int .u64 (V21 % 18446744073709551616))
  replace r1 := r1.other (b' := w7.heap.size) (by omega) 0 (.int .u64 (V21 % 18446744073709551616))
  replace hA := hA.set (b := w7.heap.size) (o := 1) (fun h => absurd h (by omega)) (.int .u64 (V21 / 18446744073709551616))
  replace r0 := r0.other (b' := w7.heap.size) (by omega) 1 (.int .u64 (V21 / 18446744073709551616))
  replace r1 := r1.other (b' := w7.heap.size) (by omega) 1 (.int .u64 (V21 / 18446744073709551616))
  replace r2 := r2.set (V21 % 18446744073709551616) (V21 / 18446744073709551616)
  refine (addMul38V _ V21 a3 a4 V21a V21b (by omega) (by omega) (by omega) (by omega) (by omega) _).mono ?_
  rintro e w9 ⟨V22, rfl, V22e, V22a, V22b, hU⟩
  replace hA := hA.trans hU (fun _ _ _ h => h.elim)
  replace r0 := C2.keep hU r0
  replace r1 := C2.keep hU r1
  replace r2 := C2.keep hU r2
  clear hU
  obtain ⟨z0, z1, z2, z3⟩ := id r2
  go_wp2_with fail
  clear z0 z1 z2 z3
  replace hA := hA.set (b := w7.heap.size) (o := 0) (fun h => absurd h (by omega)) (.int .u64 (V22 % 18446744073709551616))
  replace r0 := r0.other (b' := w7.heap.size) (by omega) 0 (.int .u64 (V22 % 18446744073709551616))
  replace r1 := r1.other (b' := w7.heap.size) (by omega) 0 (.int .u64 (V22 % 18446744073709551616))
  replace hA := hA.set (b := w7.heap.size) (o := 1) (fun h => absurd h (by omega)) (.int .u64 (V22 / 18446744073709551616))
  replace r0 := r0.other (b' := w7.heap.size) (by omega) 1 (.int .u64 (V22 / 18446744073709551616))
  replace r1 := r1.other (b' := w7.heap.size) (by omega) 1 (.int .u64 (V22 / 18446744073709551616))
  replace r2 := r2.set (V22 % 18446744073709551616) (V22 / 18446744073709551616)
  refine (mulV (a0 * 2) a3 (by omega) (by omega) (by omega) (by omega) _).mono ?_
  rintro e w10 ⟨V30, rfl, V30e, V30a, V30b, hU⟩
  replace hA := hA.trans hU (fun _ _ _ h => h.elim)
  replace r0 := C2.keep hU r0
  replace r1 := C2.keep hU r1
  replace r2 := C2.keep hU r2
  have d03 := r0.lt
  have d13 := r1.lt
  have d23 := r2.lt
  have hb3 := hA.size
  clear hU
  go_wp2_with fail
  replace hA := hA.alloc (.cells #[.int .u64 (V30 % 18446744073709551616), .int .u64 (V30 / 18446744073709551616)] 152)
  replace r0 := r0.alloc (.cells #[.int .u64 (V30 % 18446744073709551616), .int .u64 (V30 / 18446744073709551616)] 152)
  replace r1 := r1.alloc (.cells #[.int .u64 (V30 % 18446744073709551616), .int .u64 (V30 / 18446744073709551616)] 152)
  replace r2 := r2.alloc (.cells #[.int .u64 (V30 % 18446744073709551616), .int .u64 (V30 / 18446744073709551616)] 152)
  have r3 := C2.new w10 (V30 % 18446744073709551616) (V30 / 18446744073709551616) 152
  refine (addMulV _ V30 (a1 * 2) a2 V30a V30b (by omega) (by omega) (by omega) (by omega) (by omega) _).mono ?_
  rintro e w11 ⟨V31, rfl, V31e, V31a, V31b, hU⟩
  replace hA := hA.trans hU (fun _ _ _ h => h.elim)
  replace r0 := C2.keep hU r0
  replace r1 := C2.keep hU r1
  replace r2 := C2.keep hU r2
  replace r3 := C2.keep hU r3
  clear hU
  obtain ⟨z0, z1, z2, z3⟩ := id r3
  go_wp2_with fail
  clear z0 z1 z2 z3
  replace hA := hA.set (b := w10.heap.size) (o := 0) (fun h => absurd h (by omega)) (.int .u64 (V31 % 18446744073709551616))
  replace r0 := r0.other (b' := w10.heap.size) (by omega) 0 (.int .u64 (V31 % 18446744073709551616))
  replace r1 := r1.other (b' := w10.heap.size) (by omega) 0 (.int .u64 (V31 % 18446744073709551616))
  replace r2 := r2.other (b' := w10.heap.size) (by omega) 0 (.int .u64 (V31 % 18446744073709551616))
  replace hA := hA.set (b := w10.heap.size) (o := 1) (fun h => absurd h (by omega)) (.int .u64 (V31 / 18446744073709551616))
  replace r0 := r0.other (b' := w10.heap.size) (by omega) 1 (.int .u64 (V31 / 18446744073709551616))
  replace r1 := r1.other (b' := w10.heap.size) (by omega) 1 (.int .u64 (V31 / 18446744073709551616))
  replace r2 := r2.other (b' := w10.heap.size) (by omega) 1 (.int .u64 (V31 / 18446744073709551616))
  replace r3 := r3.set (V31 % 18446744073709551616) (V31 / 18446744073709551616)
  refine (addMul19V _ V31 a4 a4 V31a V31b (by omega) (by omega) (by omega) (by omega) (by omega) _).mono ?_
  rintro e w12 ⟨V32, rfl, V32e, V32a, V32b, hU⟩
  replace hA := hA.trans hU (fun _ _ _ h => h.elim)
  replace r0 := C2.keep hU r0
  replace r1 := C2.keep hU r1
  replace r2 := C2.keep hU r2
  replace r3 := C2.keep hU r3
  clear hU
  obtain ⟨z0, z1, z2, z3⟩ := id r3
  go_wp2_with fail
  clear z0 z1 z2 z3
  replace hA := hA.set (b := w10.heap.size) (o := 0) (fun h => absurd h (by omega)) (.int .u64 (V32 % 18446744073709551616))
  replace r0 := r0.other (b' := w10.heap.size) (by omega) 0 (.int .u64 (V32 % 18446744073709551616))
  replace r1 := r1.other (b' := w10.heap.size) (by omega) 0 (.int .u64 (V32 % 18446744073709551616))
  replace r2 := r2.other (b' := w10.heap.size) (by omega) 0 (.int .u64 (V32 % 18446744073709551616))
  replace hA := hA.set (b := w10.heap.size) (o := 1) (fun h => absurd h (by omega)) (.int .u64 (V32 / 18446744073709551616))
  replace r0 := r0.other (b' := w10.heap.size) (by omega) 1 (.int .u64 (V32 / 18446744073709551616))
  replace r1 := r1.other (b' := w10.heap.size) (by omega) 1 (.int .u64 (V32 / 18446744073709551616))
  replace r2 := r2.other (b' := w10.heap.size) (by omega) 1 (.int .u64 (V32 / 18446744073709551616))
  replace r3 := r3.set (V32 % 18446744073709551616) (V32 / 18446744073709551616)
  refine (mulV (a0 * 2) a4 (by omega) (by omega) (by omega) (by omega) _).mono ?_
  rintro e w13 ⟨V40, rfl, V40e, V40a, V40b, hU⟩
  replace hA := hA.trans hU (fun _ _ _ h => h.elim)
  replace r0 := C2.keep hU r0
  replace r1 := C2.keep hU r1
  replace r2 := C2.keep hU r2
  replace r3 := C2.keep hU r3
  have d04 := r0.lt
  have d14 := r1.lt
  have d24 := r2.lt
  have d34 := r3.lt
  have hb4 := hA.size
  clear hU
  go_wp2_with fail
  replace hA := hA.alloc (.cells #[.int .u64 (V40 % 18446744073709551616), .int .u64 (V40 / 18446744073709551616)] 152)
  replace r0 := r0.alloc (.cells #[.int .u64 (V40 % 18446744073709551616), .int .u64 (V40 / 18446744073709551616)] 152)
  replace r1 := r1.alloc (.cells #[.int .u64 (V40 % 18446744073709551616), .int .u64 (V40 / 18446744073709551616)] 152)
  replace r2 := r2.alloc (.cells #[.int .u64 (V40 % 18446744073709551616), .int .u64 (V40 / 18446744073709551616)] 152)
  replace r3 := r3.alloc (.cells #[.int .u64 (V40 % 18446744073709551616), .int .u64 (V40 / 18446744073709551616)] 152)
  have r4 := C2.new w13 (V40 % 18446744073709551616) (V40 / 18446744073709551616) 152
  refine (addMulV _ V40 (a1 * 2) a3 V40a V40b (by omega) (by omega) (by omega) (by omega) (by omega) _).mono ?_
  rintro e w14 ⟨V41, rfl, V41e, V41a, V41b, hU⟩
  replace hA := hA.trans hU (fun _ _ _ h => h.elim)
  replace r0 := C2.keep hU r0
  replace r1 := C2.keep hU r1
  replace r2 := C2.keep hU r2
  replace r3 := C2.keep hU r3
  replace r4 := C2.keep hU r4
  clear hU
  obtain ⟨z0, z1, z2, z3⟩ := id r4
  go_wp2_with fail
  clear z0 z1 z2 z3
  replace hA := hA.set (b := w13.heap.size) (o := 0) (fun h => absurd h (by omega)) (.int .u64 (V41 % 18446744073709551616))
  replace r0 := r0.other (b' := w13.heap.size) (by omega) 0 (.int .u64 (V41 % 18446744073709551616))
  replace r1 := r1.other (b' := w13.heap.size) (by omega) 0 (.int .u64 (V41 % 18446744073709551616))
  replace r2 := r2.other (b' := w13.heap.size) (by omega) 0 (.int .u64 (V41 % 18446744073709551616))
  replace r3 := r3.other (b' := w13.heap.size) (by omega) 0 (.int .u64 (V41 % 18446744073709551616))
  replace hA := hA.set (b := w13.heap.size) (o := 1) (fun h => absurd h (by omega)) (.int .u64 (V41 / 18446744073709551616))
  replace r0 := r0.other (b' := w13.heap.size) (by omega) 1 (.int .u64 (V41 / 18446744073709551616))
  replace r1 := r1.other (b' := w13.heap.size) (by omega) 1 (.int .u64 (V41 / 18446744073709551616))
  replace r2 := r2.other (b' := w13.heap.size) (by omega) 1 (.int .u64 (V41 / 18446744073709551616))
  replace r3 := r3.other (b' := w13.heap.size) (by omega) 1 (.int .u64 (V41 / 18446744073709551616))
  replace r4 := r4.set (V41 % 18446744073709551616) (V41 / 18446744073709551616)
  refine (addMulV _ V41 a2 a2 V41a V41b (by omega) (by omega) (by omega) (by omega) (by omega) _).mono ?_
  rintro e w15 ⟨V42, rfl, V42e, V42a, V42b, hU⟩
  replace hA := hA.trans hU (fun _ _ _ h => h.elim)
  replace r0 := C2.keep hU r0
  replace r1 := C2.keep hU r1
  replace r2 := C2.keep hU r2
  replace r3 := C2.keep hU r3
  replace r4 := C2.keep hU r4
  clear hU
  obtain ⟨z0, z1, z2, z3⟩ := id r4
  have hne : ¬ w13.heap.size = w1.heap.size := by omega
  obtain ⟨y0, y1, y2, y3⟩ := id r0
  go_wp2_with fail
  clear y0 y1 y2 y3
  clear hne
  clear z0 z1 z2 z3
  replace hA := hA.set (b := w13.heap.size) (o := 0) (fun h => absurd h (by omega)) (.int .u64 (V42 % 18446744073709551616))
  replace r0 := r0.other (b' := w13.heap.size) (by omega) 0 (.int .u64 (V42 % 18446744073709551616))
  replace r1 := r1.other (b' := w13.heap.size) (by omega) 0 (.int .u64 (V42 % 18446744073709551616))
  replace r2 := r2.other (b' := w13.heap.size) (by omega) 0 (.int .u64 (V42 % 18446744073709551616))
  replace r3 := r3.other (b' := w13.heap.size) (by omega) 0 (.int .u64 (V42 % 18446744073709551616))
  replace hA := hA.set (b := w13.heap.size) (o := 1) (fun h => absurd h (by omega)) (.int .u64 (V42 / 18446744073709551616))
  replace r0 := r0.other (b' := w13.heap.size) (by omega) 1 (.int .u64 (V42 / 18446744073709551616))
  replace r1 := r1.other (b' := w13.heap.size) (by omega) 1 (.int .u64 (V42 / 18446744073709551616))
  replace r2 := r2.other (b' := w13.heap.size) (by omega) 1 (.int .u64 (V42 / 18446744073709551616))
  replace r3 := r3.other (b' := w13.heap.size) (by omega) 1 (.int .u64 (V42 / 18446744073709551616))
  replace r4 := r4.set (V42 % 18446744073709551616) (V42 / 18446744073709551616)
  refine (shr51_c V02 V02a (by omega) _).mono ?_
  rintro e w16 ⟨rfl, hU⟩
  replace hA := hA.trans hU (fun _ _ _ h => h.elim)
  replace r0 := C2.keep hU r0
  replace r1 := C2.keep hU r1
  replace r2 := C2.keep hU r2
  replace r3 := C2.keep hU r3
  replace r4 := C2.keep hU r4
  clear hU
  obtain ⟨y0, y1, y2, y3⟩ := id r1
  go_wp2_with fail
  clear y0 y1 y2 y3
  refine (shr51_c V12 V12a (by omega) _).mono ?_
  rintro e w17 ⟨rfl, hU⟩
  replace hA := hA.trans hU (fun _ _ _ h => h.elim)
  replace r0 := C2.keep hU r0
  replace r1 := C2.keep hU r1
  replace r2 := C2.keep hU r2
  replace r3 := C2.keep hU r3
  replace r4 := C2.keep hU r4
  clear hU
  obtain ⟨y0, y1, y2, y3⟩ := id r2
  go_wp2_with fail
  clear y0 y1 y2 y3
  refine (shr51_c V22 V22a (by omega) _).mono ?_
  rintro e w18 ⟨rfl, hU⟩
  replace hA := hA.trans hU (fun _ _ _ h => h.elim)
  replace r0 := C2.keep hU r0
  replace r1 := C2.keep hU r1
  replace r2 := C2.keep hU r2
  replace r3 := C2.keep hU r3
  replace r4 := C2.keep hU r4
  clear hU
  obtain ⟨y0, y1, y2, y3⟩ := id r3
  go_wp2_with fail
  clear y0 y1 y2 y3
  refine (shr51_c V32 V32a (by omega) _).mono ?_
  rintro e w19 ⟨rfl, hU⟩
  replace hA := hA.trans hU (fun _ _ _ h => h.elim)
  replace r0 := C2.keep hU r0
  replace r1 := C2.keep hU r1
  replace r2 := C2.keep hU r2
  replace r3 := C2.keep hU r3
  replace r4 := C2.keep hU r4
  clear hU
  obtain ⟨y0, y1, y2, y3⟩ := id r4
  go_wp2_with fail
  clear y0 y1 y2 y3
  refine (shr51_c V42 V42a (by omega) _).mono ?_
  rintro e w20 ⟨rfl, hU⟩
  replace hA := hA.trans hU (fun _ _ _ h => h.elim)
  replace r0 := C2.keep hU r0
  replace r1 := C2.keep hU r1
  replace r2 := C2.keep hU r2
  replace r3 := C2.keep hU r3
  replace r4 := C2.keep hU r4
  clear hU
  have x0 := r0.c0
  have x1 := r1.c0
  have x2 := r2.c0
  have x3 := r3.c0
  have x4 := r4.c0
  go_wp2
  refine still_all (by kernel_rfl) (by kernel_rfl) ?_
  repeat (first | still_step | still_call (mul19_c _ _ (by omega) (by omega)))
  refine wpStill_nil ?_
  have hv' := hv.keep hA (fun _ _ h => h)
  obtain ⟨u0, u1, u2, u3, u4, g0, g1, g2, g3, g4⟩ := id hv'
  go_wp2_with fail
  refine (mul19_c _ _ (by omega) (by omega)).mono ?_
  rintro e w' ⟨rfl, rfl⟩
  go_wp2
  go_end0
  have K := carry2 V02 V12 V22 V32 V42 V02a V12a V22a V32a V42a (by omega) (by omega) (by omega) (by omega) (by omega)
  have hz : z (lv V02 V12 V22 V32 V42) = z (lv a0 a1 a2 a3 a4) * z (lv a0 a1 a2 a3 a4) := by
    rw [← z_prod a0 a1 a2 a3 a4 a0 a1 a2 a3 a4]
    have qV00 := V00e.out; have qV01 := V01e.out; have qV02 := V02e.out; have qV10 := V10e.out; have qV11 := V11e.out; have qV12 := V12e.out; have qV20 := V20e.out; have qV21 := V21e.out; have qV22 := V22e.out; have qV30 := V30e.out; have qV31 := V31e.out; have qV32 := V32e.out; have qV40 := V40e.out; have qV41 := V41e.out; have qV42 := V42e.out;
    congr 2 <;> grind
  rw [hz] at K
  obtain ⟨k0, k1, k2, k3, k4, k5⟩ := K
  refine ⟨rfl, ?_, _, _, _, _, _, ?_, k0, k1, k2, k3, k4, k5⟩
  · have hw := hA.wide (S := Rg vb vo 5) (fun _ _ _ h => h.elim)
    exact (((((hw.set (fun _ => ⟨rfl, by omega, by omega⟩) _).set (fun _ => ⟨rfl, by omega, by omega⟩) _).set (fun _ => ⟨rfl, by omega, by omega⟩) _).set (fun _ => ⟨rfl, by omega, by omega⟩) _).set (fun _ => ⟨rfl, by omega, by omega⟩) _).drew
  · exact (((((hv'.set0 _).set1 _).set2 _).set3 _).set4 _).drew

end Go.Proofs.YtkibnongmkhbaaaGreatDoor
end

section
open Go Go.RowKit
namespace Go.Proofs.YtkibnongmkhbaaaGreatDoor
open Ed

/-- squared n times -/
def sqN (x : F) : Nat → F
  | 0 => x
  | k + 1 => sqN x k * sqN x k

theorem sqN_eq (x : F) (k : Nat) : sqN x k = fpow x (2 ^ k) := by
  induction k with
  | zero => show x = 1 * x; grind
  | succ k ih => show sqN x k * sqN x k = _; rw [ih, ← fpow_add, Nat.pow_succ]; congr 1; omega

def SqRel (n : Int) (X : F) (w : World) (t6 t7 t8 t9 t10 t47 : Value) (wr : World) : Prop :=
  ∃ (k : Nat) (l0 l1 l2 l3 l4 : Int), (k : Int) ≤ n ∧ t47 = .int .i64 k ∧ t6 = .int .u64 l0 ∧ t7 = .int .u64 l1 ∧ t8 = .int .u64 l2 ∧ t9 = .int .u64 l3 ∧ t10 = .int .u64 l4 ∧
    Lim l0 ∧ Lim l1 ∧ Lim l2 ∧ Lim l3 ∧ Lim l4 ∧ z (lv l0 l1 l2 l3 l4) = sqN X k ∧ Upd w wr (fun _ _ => False)

set_option maxRecDepth 1000000 in
set_option maxHeartbeats 40000000 in
theorem feSqN_c (n : Int) (hn0 : 0 ≤ n) (hn1 : n ≤ 1000) (vb vo ab ao : Nat) (v0 v1 v2 v3 v4 b0 b1 b2 b3 b4 : Int) (w : World) (hv : C5 w vb vo v0 v1 v2 v3 v4) (ha : R5 w ab ao b0 b1 b2 b3 b4)
    (lb0 : Lim b0) (lb1 : Lim b1) (lb2 : Lim b2) (lb3 : Lim b3) (lb4 : Lim b4) :
    Calls Tryz.prog 114 #[.pointer (some ⟨vb, vo, none⟩), .pointer (some ⟨ab, ao, none⟩), .int .i64 n] w fun e w' => e = .returned (.tuple #[]) ∧ Upd w w' (Rg vb vo 5) ∧
      El w' vb vo (sqN (z (lv b0 b1 b2 b3 b4)) n.toNat) := by
  obtain ⟨i0, i1, i2, i3, i4⟩ := ha
  go_enter Tryz.func114, Tryz.ntmps114
  go_wp2
  clear i0 i1 i2 i3 i4
  go_loopw [6, 7, 8, 9, 10, 47] (fun t6 t7 t8 t9 t10 t47 wr => SqRel n (z (lv b0 b1 b2 b3 b4)) w t6 t7 t8 t9 t10 t47 wr) (fun _ _ _ _ _ i _ => n.toNat - (intOf i).toNat)
  case atStart => exact ⟨0, b0, b1, b2, b3, b4, hn0, rfl, rfl, rfl, rfl, rfl, rfl, lb0, lb1, lb2, lb3, lb4, rfl, Upd.refl _ _⟩
  case round =>
    obtain ⟨k, a0, a1, a2, a3, a4, hk, rfl, rfl, rfl, rfl, rfl, rfl, la0, la1, la2, la3, la4, hz0, hA⟩ := hrel
    have Hz0 := Lib.hid hz0
    clear hz0
    unfold Lim at la0 la1 la2 la3 la4
    obtain ⟨pa0, qa0⟩ := la0
    obtain ⟨pa1, qa1⟩ := la1
    obtain ⟨pa2, qa2⟩ := la2
    obtain ⟨pa3, qa3⟩ := la3
    obtain ⟨pa4, qa4⟩ := la4
    by_cases hlt : (k : Int) < n
    · go_wp2_with fail
      refine (mulV a0 a0 (by omega) (by omega) (by omega) (by omega) _).mono ?_
      rintro e w1 ⟨V00, rfl, V00e, V00a, V00b, hU⟩
      replace hA := hA.trans hU (fun _ _ _ h => h.elim)
      have hb0 := hA.size
      clear hU
      go_wp2_with fail
      replace hA := hA.alloc (.cells #[.int .u64 (V00 % 18446744073709551616), .int .u64 (V00 / 18446744073709551616)] 152)
      have r0 := C2.new w1 (V00 % 18446744073709551616) (V00 / 18446744073709551616) 152
      refine (addMul38V _ V00 a1 a4 V00a V00b (by omega) (by omega) (by omega) (by omega) (by omega) _).mono ?_
      rintro e w2 ⟨V01, rfl, V01e, V01a, V01b, hU⟩
      replace hA := hA.trans hU (fun _ _ _ h => h.elim)
      replace r0 := C2.keep hU r0
      clear hU
      obtain ⟨z0, z1, z2, z3⟩ := id r0
      go_wp2_with fail
      clear z0 z1 z2 z3
      replace hA := hA.set (b := w1.heap.size) (o := 0) (fun h => absurd h (by omega)) (.int .u64 (V01 % 18446744073709551616))
      replace hA := hA.set (b := w1.heap.size) (o := 1) (fun h => absurd h (by omega)) (.int .u64 (V01 / 18446744073709551616))
      replace r0 := r0.set (V01 % 18446744073709551616) (V01 / 18446744073709551616)
      refine (addMul38V _ V01 a2 a3 V01a V01b (by omega) (by omega) (by omega) (by omega) (by omega) _).mono ?_
      rintro e w3 ⟨V02, rfl, V02e, V02a, V02b, hU⟩
      replace hA := hA.trans hU (fun _ _ _ h => h.elim)
      replace r0 := C2.keep hU r0
      clear hU
      obtain ⟨z0, z1, z2, z3⟩ := id r0
      go_wp2_with fail
      clear z0 z1 z2 z3
      replace hA := hA.set (b := w1.heap.size) (o := 0) (fun h => absurd h (by omega)) (.int .u64 (V02 % 18446744073709551616))
      replace hA := hA.set (b := w1.heap.size) (o := 1) (fun h => absurd h (by omega)) (.int .u64 (V02 / 18446744073709551616))
      replace r0 := r0.set (V02 % 18446744073709551616) (V02 / 18446744073709551616)
      refine (mulV (a0 * 2) a1 (by omega) (by omega) (by omega) (by omega) _).mono ?_
      rintro e w4 ⟨V10, rfl, V10e, V10a, V10b, hU⟩
      replace hA := hA.trans hU (fun _ _ _ h => h.elim)
      replace r0 := C2.keep hU r0
      have d01 := r0.lt
      have hb1 := hA.size
      clear hU
      go_wp2_with fail
      replace hA := hA.alloc (.cells #[.int .u64 (V10 % 18446744073709551616), .int .u64 (V10 / 18446744073709551616)] 152)
      replace r0 := r0.alloc (.cells #[.int .u64 (V10 % 18446744073709551616), .int .u64 (V10 / 18446744073709551616)] 152)
      have r1 := C2.new w4 (V10 % 18446744073709551616) (V10 / 18446744073709551616) 152
      refine (addMul38V _ V10 a2 a4 V10a V10b (by omega) (by omega) (by omega) (by omega) (by omega) _).mono ?_
      rintro e w5 ⟨V11, rfl, V11e, V11a, V11b, hU⟩
      replace hA := hA.trans hU (fun _ _ _ h => h.elim)
      replace r0 := C2.keep hU r0
      replace r1 := C2.keep hU r1
      clear hU
      obtain ⟨z0, z1, z2, z3⟩ := id r1
      go_wp2_with fail
      clear z0 z1 z2 z3
      replace hA := hA.set (b := w4.heap.size) (o := 0) (fun h => absurd h (by omega)) (.int .u64 (V11 % 18446744073709551616))
      replace r0 := r0.other (b' := w4.heap.size) (by omega) 0 (.int .u64 (V11 % 18446744073709551616))
      replace hA := hA.set (b := w4.heap.size) (o := 1) (fun h => absurd h (by omega)) (.int .u64 (V11 / 18446744073709551616))
      replace r0 := r0.other (b' := w4.heap.size) (by omega) 1 (.int .u64 (V11 / 18446744073709551616))
      replace r1 := r1.set (V11 % 18446744073709551616) (V11 / 18446744073709551616)
      refine (addMul19V _ V11 a3 a3 V11a V11b (by omega) (by omega) (by omega) (by omega) (by omega) _).mono ?_
      rintro e w6 ⟨V12, rfl, V12e, V12a, V12b, hU⟩
      replace hA := hA.trans hU (fun _ _ _ h => h.elim)
      replace r0 := C2.keep hU r0
      replace r1 := C2.keep hU r1
      clear hU
      obtain ⟨z0, z1, z2, z3⟩ := id r1
      go_wp2_with fail
      clear z0 z1 z2 z3
      replace hA := hA.set (b := w4.heap.size) (o := 0) (fun h => absurd h (by omega)) (.int .u64 (V12 % 18446744073709551616))
      replace r0 := r0.other (b' := w4.heap.size) (by omega) 0 (.int .u64 (V12 % 18446744073709551616))
      replace hA := hA.set (b := w4.heap.size) (o := 1) (fun h => absurd h (by omega)) (.int .u64 (V12 / 18446744073709551616))
      replace r0 := r0.other (b' := w4.heap.size) (by omega) 1 (.int .u64 (V12 / 18446744073709551616))
      replace r1 := r1.set (V12 % 18446744073709551616) (V12 / 18446744073709551616)
      refine (mulV (a0 * 2) a2 (by omega) (by omega) (by omega) (by omega) _).mono ?_
      rintro e w7 ⟨V20, rfl, V20e, V20a, V20b, hU⟩
      replace hA := hA.trans hU (fun _ _ _ h => h.elim)
      replace r0 := C2.keep hU r0
      replace r1 := C2.keep hU r1
      have d02 := r0.lt
      have d12 := r1.lt
      have hb2 := hA.size
      clear hU
      go_wp2_with fail
      replace hA := hA.alloc (.cells #[.int .u64 (V20 % 18446744073709551616), .int .u64 (V20 / 18446744073709551616)] 152)
      replace r0 := r0.alloc (.cells #[.int .u64 (V20 % 18446744073709551616), .int .u64 (V20 / 18446744073709551616)] 152)
      replace r1 := r1.alloc (.cells #[.int .u64 (V20 % 18446744073709551616), .int .u64 (V20 / 18446744073709551616)] 152)
      have r2 := C2.new w7 (V20 % 18446744073709551616) (V20 / 18446744073709551616) 152
      refine (addMulV _ V20 a1 a1 V20a V20b (by omega) (by omega) (by omega) (by omega) (by omega) _).mono ?_
      rintro e w8 ⟨V21, rfl, V21e, V21a, V21b, hU⟩
      replace hA := hA.trans hU (fun _ _ _ h => h.elim)
      replace r0 := C2.keep hU r0
      replace r1 := C2.keep hU r1
      replace r2 := C2.keep hU r2
      clear hU
      obtain ⟨z0, z1, z2, z3⟩ := id r2
      go_wp2_with fail
      clear z0 z1 z2 z3
      replace hA := hA.set (b := w7.heap.size) (o := 0) (fun h => absurd h (by omega)) (.int .u64 (V21 % 18446744073709551616))
      replace r0 := r0.other (b' := w7.heap.size) (by omega) 0 (.int .u64 (V21 % 18446744073709551616))
      replace r1 := r1.other (b' := w7.heap.size) (by omega) 0 (.int .u64 (V21 % 18446744073709551616))
      replace hA := hA.set (b := w7.heap.size) (o := 1) (fun h => absurd h (by omega)) (.int .u64 (V21 / 18446744073709551616))
      replace r0 := r0.other (b' := w7.heap.size) (by omega) 1 (.int .u64 (V21 / 18446744073709551616))
      replace r1 := r1.other (b' := w7.heap.size) (by omega) 1 (.int .u64 (V21 / 18446744073709551616))
      replace r2 := r2.set (V21 % 18446744073709551616) (V21 / 18446744073709551616)
      refine (addMul38V _ V21 a3 a4 V21a V21b (by omega) (by omega) (by omega) (by omega) (by omega) _).mono ?_
      rintro e w9 ⟨V22, rfl, V22e, V22a, V22b, hU⟩
      replace hA := hA.trans hU (fun _ _ _ h => h.elim)
      replace r0 := C2.keep hU r0
      replace r1 := C2.keep hU r1
      replace r2 := C2.keep hU r2
      clear hU
      obtain ⟨z0, z1, z2, z3⟩ := id r2
      go_wp2_with fail
      clear z0 z1 z2 z3
      replace hA := hA.set (b := w7.heap.size) (o := 0) (fun h => absurd h (by omega)) (.int .u64 (V22 % 18446744073709551616))
      replace r0 := r0.other (b' := w7.heap.size) (by omega) 0 (.int .u64 (V22 % 18446744073709551616))
      replace r1 := r1.other (b' := w7.heap.size) (by omega) 0 (.int .u64 (V22 % 18446744073709551616))
      replace hA := hA.set (b := w7.heap.size) (o := 1) (fun h => absurd h (by omega)) (.int .u64 (V22 / 18446744073709551616))
      replace r0 := r0.other (b' := w7.heap.size) (by omega) 1 (.int .u64 (V22 / 18446744073709551616))
      replace r1 := r1.other (b' := w7.heap.size) (by omega) 1 (.int .u64 (V22 / 18446744073709551616))
      replace r2 := r2.set (V22 % 18446744073709551616) (V22 / 18446744073709551616)
      refine (mulV (a0 * 2) a3 (by omega) (by omega) (by omega) (by omega) _).mono ?_
      rintro e w10 ⟨V30, rfl, V30e, V30a, V30b, hU⟩
      replace hA := hA.trans hU (fun _ _ _ h => h.elim)
      replace r0 := C2.keep hU r0
      replace r1 := C2.keep hU r1
      replace r2 := C2.keep hU r2
      have d03 := r0.lt
      have d13 := r1.lt
      have d23 := r2.lt
      have hb3 := hA.size
      clear hU
      go_wp2_with fail
      replace hA := hA.alloc (.cells #[.int .u64 (V30 % 18446744073709551616), .int .u64 (V30 / 18446744073709551616)] 152)
      replace r0 := r0.alloc (.cells #[.int .u64 (V30 % 18446744073709551616), .int .u64 (V30 / 18446744073709551616)] 152)
      replace r1 := r1.alloc (.cells #[.int .u64 (V30 % 18446744073709551616), .int .u64 (V30 / 18446744073709551616)] 152)
      replace r2 := r2.alloc (.cells #[.int .u64 (V30 % 18446744073709551616), .int .u64 (V30 / 18446744073709551616)] 152)
      have r3 := C2.new w10 (V30 % 18446744073709551616) (V30 / 18446744073709551616) 152
      refine (addMulV _ V30 (a1 * 2) a2 V30a V30b (by omega) (by omega) (by omega) (by omega) (by omega) _).mono ?_
      rintro e w11 ⟨V31, rfl, V31e, V31a, V31b, hU⟩
      replace hA := hA.trans hU (fun _ _ _ h => h.elim)
      replace r0 := C2.keep hU r0
      replace r1 := C2.keep hU r1
      replace r2 := C2.keep hU r2
      replace r3 := C2.keep hU r3
      clear hU
      obtain ⟨z0, z1, z2, z3⟩ := id r3
      go_wp2_with fail
      clear z0 z1 z2 z3
      replace hA := hA.set (b := w10.heap.size) (o := 0) (fun h => absurd h (by omega)) (.int .u64 (V31 % 18446744073709551616))
      replace r0 := r0.other (b' := w10.heap.size) (by omega) 0 (.int .u64 (V31 % 18446744073709551616))
      replace r1 := r1.other (b' := w10.heap.size) (by omega) 0 (.int .u64 (V31 % 18446744073709551616))
      replace r2 := r2.other (b' := w10.heap.size) (by omega) 0 (.int .u64 (V31 % 18446744073709551616))
      replace hA := hA.set (b := w10.heap.size) (o := 1) (fun h => absurd h (by omega)) (.int .u64 (V31 / 18446744073709551616))
      replace r0 := r0.other (b' := w10.heap.size) (by omega) 1 (.int .u64 (V31 / 18446744073709551616))
      replace r1 := r1.other (b' := w10.heap.size) (by omega) 1 (.int .u64 (V31 / 18446744073709551616))
      replace r2 := r2.other (b' := w10.heap.size) (by omega) 1 (.int .u64 (V31 / 18446744073709551616))
      replace r3 := r3.set (V31 % 18446744073709551616) (V31 / 18446744073709551616)
      refine (addMul19V _ V31 a4 a4 V31a V31b (by omega) (by omega) (by omega) (by omega) (by omega) _).mono ?_
      rintro e w12 ⟨V32, rfl, V32e, V32a, V32b, hU⟩
      replace hA := hA.trans hU (fun _ _ _ h => h.elim)
      replace r0 := C2.keep hU r0
      replace r1 := C2.keep hU r1
      replace r2 := C2.keep hU r2
      replace r3 := C2.keep hU r3
      clear hU
      obtain ⟨z0, z1, z2, z3⟩ := id r3
      go_wp2_with fail
      clear z0 z1 z2 z3
      replace hA := hA.set (b := w10.heap.size) (o := 0) (fun h => absurd h (by omega)) (.int .u64 (V32 % 18446744073709551616))
      replace r0 := r0.other (b' := w10.heap.size) (by omega) 0 (.int .u64 (V32 % 18446744073709551616))
      replace r1 := r1.other (b' := w10.heap.size) (by omega) 0 (.int .u64 (V32 % 18446744073709551616))
      replace r2 := r2.other (b' := w10.heap.size) (by omega) 0 (.int .u64 (V32 % 18446744073709551616))
      replace hA := hA.set (b := w10.heap.size) (o := 1) (fun h => absurd h (by omega)) (.int .u64 (V32 / 18446744073709551616))
      replace r0 := r0.other (b' := w10.heap.size) (by omega) 1 (.int .u64 (V32 / 18446744073709551616))
      replace r1 := r1.other (b' := w10.heap.size) (by omega) 1 (.int .u64 (V32 / 18446744073709551616))
      replace r2 := r2.other (b' := w10.heap.size) (by omega) 1 (.int .u64 (V32 / 18446744073709551616))
      replace r3 := r3.set (V32 % 18446744073709551616) (V32 / 18446744073709551616)
      refine (mulV (a0 * 2) a4 (by omega) (by omega) (by omega) (by omega) _).mono ?_
      rintro e w13 ⟨V40, rfl, V40e, V40a, V40b, hU⟩
      replace hA := hA.trans hU (fun _ _ _ h => h.elim)
      replace r0 := C2.keep hU r0
      replace r1 := C2.keep hU r1
      replace r2 := C2.keep hU r2
      replace r3 := C2.keep hU r3
      have d04 := r0.lt
      have d14 := r1.lt
      have d24 := r2.lt
      have d34 := r3.lt
      have hb4 := hA.size
      clear hU
      go_wp2_with fail
      replace hA := hA.alloc (.cells #[.int .u64 (V40 % 18446744073709551616), .int .u64 (V40 / 18446744073709551616)] 152)
      replace r0 := r0.alloc (.cells #[.int .u64 (V40 % 18446744073709551616), .int .u64 (V40 / 18446744073709551616)] 152)
      replace r1 := r1.alloc (.cells #[.int .u64 (V40 % 18446744073709551616), .int .u64 (V40 / 18446744073709551616)] 152)
      replace r2 := r2.alloc (.cells #[.int .u64 (V40 % 18446744073709551616), .int .u64 (V40 / 18446744073709551616)] 152)
      replace r3 := r3.alloc (.cells #[.int .u64 (V40 % 18446744073709551616), .int .u64 (V40 / 18446744073709551616)] 152)
      have r4 := C2.new w13 (V40 % 18446744073709551616) (V40 / 18446744073709551616) 152
      refine (addMulV _ V40 (a1 * 2) a3 V40a V40b (by omega) (by omega) (by omega) (by omega) (by omega) _).mono ?_
      rintro e w14 ⟨V41, rfl, V41e, V41a, V41b, hU⟩
      replace hA := hA.trans hU (fun _ _ _ h => h.elim)
      replace r0 := C2.keep hU r0
      replace r1 := C2.keep hU r1
      replace r2 := C2.keep hU r2
      replace r3 := C2.keep hU r3
      replace r4 := C2.keep hU r4
      clear hU
      obtain ⟨z0, z1, z2, z3⟩ := id r4
      go_wp2_with fail
      clear z0 z1 z2 z3
      replace hA := hA.set (b := w13.heap.size) (o := 0) (fun h => absurd h (by omega)) (.int .u64 (V41 % 18446744073709551616))
      replace r0 := r0.other (b' := w13.heap.size) (by omega) 0 (.int .u64 (V41 % 18446744073709551616))
      replace r1 := r1.other (b' := w13.heap.size) (by omega) 0 (.int .u64 (V41 % 18446744073709551616))
      replace r2 := r2.other (b' := w13.heap.size) (by omega) 0 (.int .u64 (V41 % 18446744073709551616))
      replace r3 := r3.other (b' := w13.heap.size) (by omega) 0 (.int .u64 (V41 % 18446744073709551616))
      replace hA := hA.set (b := w13.heap.size) (o := 1) (fun h => absurd h (by omega)) (.int .u64 (V41 / 18446744073709551616))
      replace r0 := r0.other (b' := w13.heap.size) (by omega) 1 (.int .u64 (V41 / 18446744073709551616))
      replace r1 := r1.other (b' := w13.heap.size) (by omega) 1 (.int .u64 (V41 / 18446744073709551616))
      replace r2 := r2.other (b' := w13.heap.size) (by omega) 1 (.int .u64 (V41 / 18446744073709551616))
      replace r3 := r3.other (b' := w13.heap.size) (by omega) 1 (.int .u64 (V41 / 18446744073709551616))
      replace r4 := r4.set (V41 % 18446744073709551616) (V41 / 18446744073709551616)
      refine (addMulV _ V41 a2 a2 V41a V41b (by omega) (by omega) (by omega) (by omega) (by omega) _).mono ?_
      rintro e w15 ⟨V42, rfl, V42e, V42a, V42b, hU⟩
      replace hA := hA.trans hU (fun _ _ _ h => h.elim)
      replace r0 := C2.keep hU r0
      replace r1 := C2.keep hU r1
      replace r2 := C2.keep hU r2
      replace r3 := C2.keep hU r3
      replace r4 := C2.keep hU r4
      clear hU
      obtain ⟨z0, z1, z2, z3⟩ := id r4
      have hne : ¬ w13.heap.size = w1.heap.size := by omega
      obtain ⟨y0, y1, y2, y3⟩ := id r0
      go_wp2_with fail
      clear y0 y1 y2 y3
      clear hne
      clear z0 z1 z2 z3
      replace hA := hA.set (b := w13.heap.size) (o := 0) (fun h => absurd h (by omega)) (.int .u64 (V42 % 18446744073709551616))
      replace r0 := r0.other (b' := w13.heap.size) (by omega) 0 (.int .u64 (V42 % 18446744073709551616))
      replace r1 := r1.other (b' := w13.heap.size) (by omega) 0 (.int .u64 (V42 % 18446744073709551616))
      replace r2 := r2.other (b' := w13.heap.size) (by omega) 0 (.int .u64 (V42 % 18446744073709551616))
      replace r3 := r3.other (b' := w13.heap.size) (by omega) 0 (.int .u64 (V42 % 18446744073709551616))
      replace hA := hA.set (b := w13.heap.size) (o := 1) (fun h => absurd h (by omega)) (.int .u64 (V42 / 18446744073709551616))
      replace r0 := r0.other (b' := w13.heap.size) (by omega) 1 (.int .u64 (V42 / 18446744073709551616))
      replace r1 := r1.other (b' := w13.heap.size) (by omega) 1 (.int .u64 (V42 / 18446744073709551616))
      replace r2 := r2.other (b' := w13.heap.size) (by omega) 1 (.int .u64 (V42 / 18446744073709551616))
      replace r3 := r3.other (b' := w13.heap.size) (by omega) 1 (.int .u64 (V42 / 18446744073709551616))
      replace r4 := r4.set (V42 % 18446744073709551616) (V42 / 18446744073709551616)
      refine (shr51_c V02 V02a (by omega) _).mono ?_
      rintro e w16 ⟨rfl, hU⟩
      replace hA := hA.trans hU (fun _ _ _ h => h.elim)
      replace r0 := C2.keep hU r0
      replace r1 := C2.keep hU r1
      replace r2 := C2.keep hU r2
      replace r3 := C2.keep hU r3
      replace r4 := C2.keep hU r4
      clear hU
      obtain ⟨y0, y1, y2, y3⟩ := id r1
      go_wp2_with fail
      clear y0 y1 y2 y3
      refine (shr51_c V12 V12a (by omega) _).mono ?_
      rintro e w17 ⟨rfl, hU⟩
      replace hA := hA.trans hU (fun _ _ _ h => h.elim)
      replace r0 := C2.keep hU r0
      replace r1 := C2.keep hU r1
      replace r2 := C2.keep hU r2
      replace r3 := C2.keep hU r3
      replace r4 := C2.keep hU r4
      clear hU
      obtain ⟨y0, y1, y2, y3⟩ := id r2
      go_wp2_with fail
      clear y0 y1 y2 y3
      refine (shr51_c V22 V22a (by omega) _).mono ?_
      rintro e w18 ⟨rfl, hU⟩
      replace hA := hA.trans hU (fun _ _ _ h => h.elim)
      replace r0 := C2.keep hU r0
      replace r1 := C2.keep hU r1
      replace r2 := C2.keep hU r2
      replace r3 := C2.keep hU r3
      replace r4 := C2.keep hU r4
      clear hU
      obtain ⟨y0, y1, y2, y3⟩ := id r3
      go_wp2_with fail
      clear y0 y1 y2 y3
      refine (shr51_c V32 V32a (by omega) _).mono ?_
      rintro e w19 ⟨rfl, hU⟩
      replace hA := hA.trans hU (fun _ _ _ h => h.elim)
      replace r0 := C2.keep hU r0
      replace r1 := C2.keep hU r1
      replace r2 := C2.keep hU r2
      replace r3 := C2.keep hU r3
      replace r4 := C2.keep hU r4
      clear hU
      obtain ⟨y0, y1, y2, y3⟩ := id r4
      go_wp2_with fail
      clear y0 y1 y2 y3
      refine (shr51_c V42 V42a (by omega) _).mono ?_
      rintro e w20 ⟨rfl, hU⟩
      replace hA := hA.trans hU (fun _ _ _ h => h.elim)
      replace r0 := C2.keep hU r0
      replace r1 := C2.keep hU r1
      replace r2 := C2.keep hU r2
      replace r3 := C2.keep hU r3
      replace r4 := C2.keep hU r4
      clear hU
      have x0 := r0.c0
      have x1 := r1.c0
      have x2 := r2.c0
      have x3 := r3.c0
      have x4 := r4.c0
      go_wp2
      refine still_all (by kernel_rfl) (by kernel_rfl) ?_
      repeat (first | still_step | still_call (mul19_c _ _ (by omega) (by omega)))
      refine wpStill_nil ?_
      go_wp2_with fail
      refine (mul19_c _ _ (by omega) (by omega)).mono ?_
      rintro e w' ⟨rfl, rfl⟩
      go_wp2
      have K := carry2 V02 V12 V22 V32 V42 V02a V12a V22a V32a V42a (by omega) (by omega) (by omega) (by omega) (by omega)
      have hz : z (lv V02 V12 V22 V32 V42) = z (lv a0 a1 a2 a3 a4) * z (lv a0 a1 a2 a3 a4) := by
        rw [← z_prod a0 a1 a2 a3 a4 a0 a1 a2 a3 a4]
        have qV00 := V00e.out; have qV01 := V01e.out; have qV02 := V02e.out; have qV10 := V10e.out; have qV11 := V11e.out; have qV12 := V12e.out; have qV20 := V20e.out; have qV21 := V21e.out; have qV22 := V22e.out; have qV30 := V30e.out; have qV31 := V31e.out; have qV32 := V32e.out; have qV40 := V40e.out; have qV41 := V41e.out; have qV42 := V42e.out;
        congr 2 <;> grind
      rw [hz, Hz0.out] at K
      obtain ⟨k0, k1, k2, k3, k4, k5⟩ := K
      refine ⟨⟨k + 1, _, _, _, _, _, by omega, by go_num, rfl, rfl, rfl, rfl, rfl, k0, k1, k2, k3, k4, k5, hA.drew⟩, by simp [intOf]; omega⟩
    · have hkn : n.toNat = k := by omega
      have HK := Lib.hid hkn
      clear hkn
      have hv' := hv.keep hA (fun _ _ h => h)
      obtain ⟨u0, u1, u2, u3, u4, g0, g1, g2, g3, g4⟩ := id hv'
      go_wp2
      go_end0
      refine ⟨rfl, ?_, a0, a1, a2, a3, a4, ?_, ⟨pa0, qa0⟩, ⟨pa1, qa1⟩, ⟨pa2, qa2⟩, ⟨pa3, qa3⟩, ⟨pa4, qa4⟩, ?_⟩
      · have hw := hA.wide (S := Rg vb vo 5) (fun _ _ _ h => h.elim)
        exact ((((hw.set (fun _ => ⟨rfl, by omega, by omega⟩) _).set (fun _ => ⟨rfl, by omega, by omega⟩) _).set (fun _ => ⟨rfl, by omega, by omega⟩) _).set (fun _ => ⟨rfl, by omega, by omega⟩) _).set (fun _ => ⟨rfl, by omega, by omega⟩) _
      · exact ((((hv'.set0 _).set1 _).set2 _).set3 _).set4 _
      · rw [HK.out]; exact Hz0.out
end Go.Proofs.YtkibnongmkhbaaaGreatDoor
end

section
open Go Go.RowKit
namespace Go.Proofs.YtkibnongmkhbaaaGreatDoor
open Ed

theorem Ap.ne {vb vo ab ao : Nat} (h : Ap vb vo ab ao) (i j : Nat) (hij : i < j) (hi : i < 5) (hj : j < 5) : (⟨vb, vo + i, none⟩ : Addr) ≠ ⟨ab, ao + j, none⟩ := by
  unfold Ap at h
  intro e
  simp only [Addr.mk.injEq] at e
  omega

set_option maxRecDepth 1000000 in
set_option maxHeartbeats 40000000 in
theorem add_c (vb vo ab ao bb bo : Nat) (V X Y : F) (w : World) (hV : El w vb vo V) (hX : ElR w ab ao X) (hY : ElR w bb bo Y) (pa : Ap vb vo ab ao) (pb : Ap vb vo bb bo) :
    Calls Tryz.prog 62 #[.pointer (some ⟨vb, vo, none⟩), .pointer (some ⟨ab, ao, none⟩), .pointer (some ⟨bb, bo, none⟩)] w fun e w' => e = .returned (.pointer (some ⟨vb, vo, none⟩)) ∧ Upd w w' (Rg vb vo 5) ∧ El w' vb vo (X + Y) := by
  obtain ⟨v0, v1, v2, v3, v4, hv, _⟩ := hV
  obtain ⟨a0, a1, a2, a3, a4, ha, ⟨la0, ma0⟩, ⟨la1, ma1⟩, ⟨la2, ma2⟩, ⟨la3, ma3⟩, ⟨la4, ma4⟩, hza'⟩ := hX
  obtain ⟨b0, b1, b2, b3, b4, hb, ⟨lb0, mb0⟩, ⟨lb1, mb1⟩, ⟨lb2, mb2⟩, ⟨lb3, mb3⟩, ⟨lb4, mb4⟩, hzb'⟩ := hY
  have Hza := Lib.hid hza'
  have Hzb := Lib.hid hzb'
  clear hza' hzb'
  go_enter Tryz.func62, Tryz.ntmps62
  go_wp2
  have ca0 : w.cell? ⟨ab, ao, none⟩ = some (.int .u64 a0) := ha.c0
  have cb0 : w.cell? ⟨bb, bo, none⟩ = some (.int .u64 b0) := hb.c0
  have cv0 : w.cell? ⟨vb, vo, none⟩ = some (.int .u64 v0) := hv.c0
  have fv0 := hv.f0
  refine still_tail 12 (by kernel_rfl) (by kernel_rfl) ?_
  simp only [List.take_succ_cons, List.take_zero, List.drop_succ_cons, List.drop_zero]
  repeat still_step
  refine wpStill_nil ?_
  go_wp2_with fail
  clear ca0 cb0 cv0 fv0
  have ca1 : (w.setCell ⟨vb, vo, none⟩ (.int .u64 (a0 + b0))).cell? ⟨ab, ao + 1, none⟩ = some (.int .u64 a1) := (World.cell?_setCell_other _ _ _ _ (pa.ne 0 1 (by omega) (by omega) (by omega))).trans (ha.c1)
  have cb1 : (w.setCell ⟨vb, vo, none⟩ (.int .u64 (a0 + b0))).cell? ⟨bb, bo + 1, none⟩ = some (.int .u64 b1) := (World.cell?_setCell_other _ _ _ _ (pb.ne 0 1 (by omega) (by omega) (by omega))).trans (hb.c1)
  have cv1 : (w.setCell ⟨vb, vo, none⟩ (.int .u64 (a0 + b0))).cell? ⟨vb, vo + 1, none⟩ = some (.int .u64 v1) := (World.cell?_setCell_other _ _ _ _ (by simp)).trans (hv.c1)
  have fv1 := hv.f1
  refine still_tail 12 (by kernel_rfl) (by kernel_rfl) ?_
  simp only [List.take_succ_cons, List.take_zero, List.drop_succ_cons, List.drop_zero]
  repeat still_step
  refine wpStill_nil ?_
  go_wp2_with fail
  clear ca1 cb1 cv1 fv1
  have ca2 : ((w.setCell ⟨vb, vo, none⟩ (.int .u64 (a0 + b0))).setCell ⟨vb, vo + 1, none⟩ (.int .u64 (a1 + b1))).cell? ⟨ab, ao + 2, none⟩ = some (.int .u64 a2) := (World.cell?_setCell_other _ _ _ _ (pa.ne 1 2 (by omega) (by omega) (by omega))).trans ((World.cell?_setCell_other _ _ _ _ (pa.ne 0 2 (by omega) (by omega) (by omega))).trans (ha.c2))
  have cb2 : ((w.setCell ⟨vb, vo, none⟩ (.int .u64 (a0 + b0))).setCell ⟨vb, vo + 1, none⟩ (.int .u64 (a1 + b1))).cell? ⟨bb, bo + 2, none⟩ = some (.int .u64 b2) := (World.cell?_setCell_other _ _ _ _ (pb.ne 1 2 (by omega) (by omega) (by omega))).trans ((World.cell?_setCell_other _ _ _ _ (pb.ne 0 2 (by omega) (by omega) (by omega))).trans (hb.c2))
  have cv2 : ((w.setCell ⟨vb, vo, none⟩ (.int .u64 (a0 + b0))).setCell ⟨vb, vo + 1, none⟩ (.int .u64 (a1 + b1))).cell? ⟨vb, vo + 2, none⟩ = some (.int .u64 v2) := (World.cell?_setCell_other _ _ _ _ (by simp)).trans ((World.cell?_setCell_other _ _ _ _ (by simp)).trans (hv.c2))
  have fv2 := hv.f2
  refine still_tail 12 (by kernel_rfl) (by kernel_rfl) ?_
  simp only [List.take_succ_cons, List.take_zero, List.drop_succ_cons, List.drop_zero]
  repeat still_step
  refine wpStill_nil ?_
  go_wp2_with fail
  clear ca2 cb2 cv2 fv2
  have ca3 : (((w.setCell ⟨vb, vo, none⟩ (.int .u64 (a0 + b0))).setCell ⟨vb, vo + 1, none⟩ (.int .u64 (a1 + b1))).setCell ⟨vb, vo + 2, none⟩ (.int .u64 (a2 + b2))).cell? ⟨ab, ao + 3, none⟩ = some (.int .u64 a3) := (World.cell?_setCell_other _ _ _ _ (pa.ne 2 3 (by omega) (by omega) (by omega))).trans ((World.cell?_setCell_other _ _ _ _ (pa.ne 1 3 (by omega) (by omega) (by omega))).trans ((World.cell?_setCell_other _ _ _ _ (pa.ne 0 3 (by omega) (by omega) (by omega))).trans (ha.c3)))
  have cb3 : (((w.setCell ⟨vb, vo, none⟩ (.int .u64 (a0 + b0))).setCell ⟨vb, vo + 1, none⟩ (.int .u64 (a1 + b1))).setCell ⟨vb, vo + 2, none⟩ (.int .u64 (a2 + b2))).cell? ⟨bb, bo + 3, none⟩ = some (.int .u64 b3) := (World.cell?_setCell_other _ _ _ _ (pb.ne 2 3 (by omega) (by omega) (by omega))).trans ((World.cell?_setCell_other _ _ _ _ (pb.ne 1 3 (by omega) (by omega) (by omega))).trans ((World.cell?_setCell_other _ _ _ _ (pb.ne 0 3 (by omega) (by omega) (by omega))).trans (hb.c3)))
  have cv3 : (((w.setCell ⟨vb, vo, none⟩ (.int .u64 (a0 + b0))).setCell ⟨vb, vo + 1, none⟩ (.int .u64 (a1 + b1))).setCell ⟨vb, vo + 2, none⟩ (.int .u64 (a2 + b2))).cell? ⟨vb, vo + 3, none⟩ = some (.int .u64 v3) := (World.cell?_setCell_other _ _ _ _ (by simp)).trans ((World.cell?_setCell_other _ _ _ _ (by simp)).trans ((World.cell?_setCell_other _ _ _ _ (by simp)).trans (hv.c3)))
  have fv3 := hv.f3
  refine still_tail 12 (by kernel_rfl) (by kernel_rfl) ?_
  simp only [List.take_succ_cons, List.take_zero, List.drop_succ_cons, List.drop_zero]
  repeat still_step
  refine wpStill_nil ?_
  go_wp2_with fail
  clear ca3 cb3 cv3 fv3
  have ca4 : ((((w.setCell ⟨vb, vo, none⟩ (.int .u64 (a0 + b0))).setCell ⟨vb, vo + 1, none⟩ (.int .u64 (a1 + b1))).setCell ⟨vb, vo + 2, none⟩ (.int .u64 (a2 + b2))).setCell ⟨vb, vo + 3, none⟩ (.int .u64 (a3 + b3))).cell? ⟨ab, ao + 4, none⟩ = some (.int .u64 a4) := (World.cell?_setCell_other _ _ _ _ (pa.ne 3 4 (by omega) (by omega) (by omega))).trans ((World.cell?_setCell_other _ _ _ _ (pa.ne 2 4 (by omega) (by omega) (by omega))).trans ((World.cell?_setCell_other _ _ _ _ (pa.ne 1 4 (by omega) (by omega) (by omega))).trans ((World.cell?_setCell_other _ _ _ _ (pa.ne 0 4 (by omega) (by omega) (by omega))).trans (ha.c4))))
  have cb4 : ((((w.setCell ⟨vb, vo, none⟩ (.int .u64 (a0 + b0))).setCell ⟨vb, vo + 1, none⟩ (.int .u64 (a1 + b1))).setCell ⟨vb, vo + 2, none⟩ (.int .u64 (a2 + b2))).setCell ⟨vb, vo + 3, none⟩ (.int .u64 (a3 + b3))).cell? ⟨bb, bo + 4, none⟩ = some (.int .u64 b4) := (World.cell?_setCell_other _ _ _ _ (pb.ne 3 4 (by omega) (by omega) (by omega))).trans ((World.cell?_setCell_other _ _ _ _ (pb.ne 2 4 (by omega) (by omega) (by omega))).trans ((World.cell?_setCell_other _ _ _ _ (pb.ne 1 4 (by omega) (by omega) (by omega))).trans ((World.cell?_setCell_other _ _ _ _ (pb.ne 0 4 (by omega) (by omega) (by omega))).trans (hb.c4))))
  have cv4 : ((((w.setCell ⟨vb, vo, none⟩ (.int .u64 (a0 + b0))).setCell ⟨vb, vo + 1, none⟩ (.int .u64 (a1 + b1))).setCell ⟨vb, vo + 2, none⟩ (.int .u64 (a2 + b2))).setCell ⟨vb, vo + 3, none⟩ (.int .u64 (a3 + b3))).cell? ⟨vb, vo + 4, none⟩ = some (.int .u64 v4) := (World.cell?_setCell_other _ _ _ _ (by simp)).trans ((World.cell?_setCell_other _ _ _ _ (by simp)).trans ((World.cell?_setCell_other _ _ _ _ (by simp)).trans ((World.cell?_setCell_other _ _ _ _ (by simp)).trans (hv.c4))))
  have fv4 := hv.f4
  refine still_tail 12 (by kernel_rfl) (by kernel_rfl) ?_
  simp only [List.take_succ_cons, List.take_zero, List.drop_succ_cons, List.drop_zero]
  repeat still_step
  refine wpStill_nil ?_
  go_wp2_with fail
  clear ca4 cb4 cv4 fv4
  have hv' := (((((hv.set0 (a0 + b0)).set1 (a1 + b1)).set2 (a2 + b2)).set3 (a3 + b3)).set4 (a4 + b4)).drew.drew.drew.drew.drew
  refine (carry_c vb vo (a0 + b0) (a1 + b1) (a2 + b2) (a3 + b3) (a4 + b4) _ hv' (by omega) (by omega) (by omega) (by omega) (by omega) (by omega) (by omega) (by omega) (by omega) (by omega)).mono ?_
  rintro e w1 ⟨rfl, hU, hC⟩
  go_wp2
  go_ret
  refine ⟨rfl, ?_, _, _, _, _, _, hC, ?_, ?_, ?_, ?_, ?_, ?_⟩
  · refine Upd.trans ?_ hU (fun _ _ _ h => h)
    have hw := Upd.refl w (Rg vb vo 5)
    exact (((((hw.set (fun _ => ⟨rfl, by omega, by omega⟩) _).set (fun _ => ⟨rfl, by omega, by omega⟩) _).set (fun _ => ⟨rfl, by omega, by omega⟩) _).set (fun _ => ⟨rfl, by omega, by omega⟩) _).set (fun _ => ⟨rfl, by omega, by omega⟩) _).drew.drew.drew.drew.drew
  · unfold Lim; omega
  · unfold Lim; omega
  · unfold Lim; omega
  · unfold Lim; omega
  · unfold Lim; omega
  · rw [z_carry, ← Hza.out, ← Hzb.out, ← z_add]; unfold lv; congr 1; omega

set_option maxRecDepth 1000000 in
set_option maxHeartbeats 40000000 in
theorem sub_c (vb vo ab ao bb bo : Nat) (V X Y : F) (w : World) (hV : El w vb vo V) (hX : ElR w ab ao X) (hY : ElR w bb bo Y) (pa : Ap vb vo ab ao) (pb : Ap vb vo bb bo) :
    Calls Tryz.prog 58 #[.pointer (some ⟨vb, vo, none⟩), .pointer (some ⟨ab, ao, none⟩), .pointer (some ⟨bb, bo, none⟩)] w fun e w' => e = .returned (.pointer (some ⟨vb, vo, none⟩)) ∧ Upd w w' (Rg vb vo 5) ∧ El w' vb vo (X - Y) := by
  obtain ⟨v0, v1, v2, v3, v4, hv, _⟩ := hV
  obtain ⟨a0, a1, a2, a3, a4, ha, ⟨la0, ma0⟩, ⟨la1, ma1⟩, ⟨la2, ma2⟩, ⟨la3, ma3⟩, ⟨la4, ma4⟩, hza'⟩ := hX
  obtain ⟨b0, b1, b2, b3, b4, hb, ⟨lb0, mb0⟩, ⟨lb1, mb1⟩, ⟨lb2, mb2⟩, ⟨lb3, mb3⟩, ⟨lb4, mb4⟩, hzb'⟩ := hY
  have Hza := Lib.hid hza'
  have Hzb := Lib.hid hzb'
  clear hza' hzb'
  go_enter Tryz.func58, Tryz.ntmps58
  go_wp2
  have ca0 : w.cell? ⟨ab, ao, none⟩ = some (.int .u64 a0) := ha.c0
  have cb0 : w.cell? ⟨bb, bo, none⟩ = some (.int .u64 b0) := hb.c0
  have cv0 : w.cell? ⟨vb, vo, none⟩ = some (.int .u64 v0) := hv.c0
  have fv0 := hv.f0
  refine still_tail 13 (by kernel_rfl) (by kernel_rfl) ?_
  simp only [List.take_succ_cons, List.take_zero, List.drop_succ_cons, List.drop_zero]
  repeat still_step
  refine wpStill_nil ?_
  go_wp2_with fail
  clear ca0 cb0 cv0 fv0
  have ca1 : (w.setCell ⟨vb, vo, none⟩ (.int .u64 (a0 + 4503599627370458 - b0))).cell? ⟨ab, ao + 1, none⟩ = some (.int .u64 a1) := (World.cell?_setCell_other _ _ _ _ (pa.ne 0 1 (by omega) (by omega) (by omega))).trans (ha.c1)
  have cb1 : (w.setCell ⟨vb, vo, none⟩ (.int .u64 (a0 + 4503599627370458 - b0))).cell? ⟨bb, bo + 1, none⟩ = some (.int .u64 b1) := (World.cell?_setCell_other _ _ _ _ (pb.ne 0 1 (by omega) (by omega) (by omega))).trans (hb.c1)
  have cv1 : (w.setCell ⟨vb, vo, none⟩ (.int .u64 (a0 + 4503599627370458 - b0))).cell? ⟨vb, vo + 1, none⟩ = some (.int .u64 v1) := (World.cell?_setCell_other _ _ _ _ (by simp)).trans (hv.c1)
  have fv1 := hv.f1
  refine still_tail 13 (by kernel_rfl) (by kernel_rfl) ?_
  simp only [List.take_succ_cons, List.take_zero, List.drop_succ_cons, List.drop_zero]
  repeat still_step
  refine wpStill_nil ?_
  go_wp2_with fail
  clear ca1 cb1 cv1 fv1
  have ca2 : ((w.setCell ⟨vb, vo, none⟩ (.int .u64 (a0 + 4503599627370458 - b0))).setCell ⟨vb, vo + 1, none⟩ (.int .u64 (a1 + 4503599627370494 - b1))).cell? ⟨ab, ao + 2, none⟩ = some (.int .u64 a2) := (World.cell?_setCell_other _ _ _ _ (pa.ne 1 2 (by omega) (by omega) (by omega))).trans ((World.cell?_setCell_other _ _ _ _ (pa.ne 0 2 (by omega) (by omega) (by omega))).trans (ha.c2))
  have cb2 : ((w.setCell ⟨vb, vo, none⟩ (.int .u64 (a0 + 4503599627370458 - b0))).setCell ⟨vb, vo + 1, none⟩ (.int .u64 (a1 + 4503599627370494 - b1))).cell? ⟨bb, bo + 2, none⟩ = some (.int .u64 b2) := (World.cell?_setCell_other _ _ _ _ (pb.ne 1 2 (by omega) (by omega) (by omega))).trans ((World.cell?_setCell_other _ _ _ _ (pb.ne 0 2 (by omega) (by omega) (by omega))).trans (hb.c2))
  have cv2 : ((w.setCell ⟨vb, vo, none⟩ (.int .u64 (a0 + 4503599627370458 - b0))).setCell ⟨vb, vo + 1, none⟩ (.int .u64 (a1 + 4503599627370494 - b1))).cell? ⟨vb, vo + 2, none⟩ = some (.int .u64 v2) := (World.cell?_setCell_other _ _ _ _ (by simp)).trans ((World.cell?_setCell_other _ _ _ _ (by simp)).trans (hv.c2))
  have fv2 := hv.f2
  refine still_tail 13 (by kernel_rfl) (by kernel_rfl) ?_
  simp only [List.take_succ_cons, List.take_zero, List.drop_succ_cons, List.drop_zero]
  repeat still_step
  refine wpStill_nil ?_
  go_wp2_with fail
  clear ca2 cb2 cv2 fv2
  have ca3 : (((w.setCell ⟨vb, vo, none⟩ (.int .u64 (a0 + 4503599627370458 - b0))).setCell ⟨vb, vo + 1, none⟩ (.int .u64 (a1 + 4503599627370494 - b1))).setCell ⟨vb, vo + 2, none⟩ (.int .u64 (a2 + 4503599627370494 - b2))).cell? ⟨ab, ao + 3, none⟩ = some (.int .u64 a3) := (World.cell?_setCell_other _ _ _ _ (pa.ne 2 3 (by omega) (by omega) (by omega))).trans ((World.cell?_setCell_other _ _ _ _ (pa.ne 1 3 (by omega) (by omega) (by omega))).trans ((World.cell?_setCell_other _ _ _ _ (pa.ne 0 3 (by omega) (by omega) (by omega))).trans (ha.c3)))
  have cb3 : (((w.setCell ⟨vb, vo, none⟩ (.int .u64 (a0 + 4503599627370458 - b0))).setCell ⟨vb, vo + 1, none⟩ (.int .u64 (a1 + 4503599627370494 - b1))).setCell ⟨vb, vo + 2, none⟩ (.int .u64 (a2 + 4503599627370494 - b2))).cell? ⟨bb, bo + 3, none⟩ = some (.int .u64 b3) := (World.cell?_setCell_other _ _ _ _ (pb.ne 2 3 (by omega) (by omega) (by omega))).trans ((World.cell?_setCell_other _ _ _ _ (pb.ne 1 3 (by omega) (by omega) (by omega))).trans ((World.cell?_setCell_other _ _ _ _ (pb.ne 0 3 (by omega) (by omega) (by omega))).trans (hb.c3)))
  have cv3 : (((w.setCell ⟨vb, vo, none⟩ (.int .u64 (a0 + 4503599627370458 - b0))).setCell ⟨vb, vo + 1, none⟩ (.int .u64 (a1 + 4503599627370494 - b1))).setCell ⟨vb, vo + 2, none⟩ (.int .u64 (a2 + 4503599627370494 - b2))).cell? ⟨vb, vo + 3, none⟩ = some (.int .u64 v3) := (World.cell?_setCell_other _ _ _ _ (by simp)).trans ((World.cell?_setCell_other _ _ _ _ (by simp)).trans ((World.cell?_setCell_other _ _ _ _ (by simp)).trans (hv.c3)))
  have fv3 := hv.f3
  refine still_tail 13 (by kernel_rfl) (by kernel_rfl) ?_
  simp only [List.take_succ_cons, List.take_zero, List.drop_succ_cons, List.drop_zero]
  repeat still_step
  refine wpStill_nil ?_
  go_wp2_with fail
  clear ca3 cb3 cv3 fv3
  have ca4 : ((((w.setCell ⟨vb, vo, none⟩ (.int .u64 (a0 + 4503599627370458 - b0))).setCell ⟨vb, vo + 1, none⟩ (.int .u64 (a1 + 4503599627370494 - b1))).setCell ⟨vb, vo + 2, none⟩ (.int .u64 (a2 + 4503599627370494 - b2))).setCell ⟨vb, vo + 3, none⟩ (.int .u64 (a3 + 4503599627370494 - b3))).cell? ⟨ab, ao + 4, none⟩ = some (.int .u64 a4) := (World.cell?_setCell_other _ _ _ _ (pa.ne 3 4 (by omega) (by omega) (by omega))).trans ((World.cell?_setCell_other _ _ _ _ (pa.ne 2 4 (by omega) (by omega) (by omega))).trans ((World.cell?_setCell_other _ _ _ _ (pa.ne 1 4 (by omega) (by omega) (by omega))).trans ((World.cell?_setCell_other _ _ _ _ (pa.ne 0 4 (by omega) (by omega) (by omega))).trans (ha.c4))))
  have cb4 : ((((w.setCell ⟨vb, vo, none⟩ (.int .u64 (a0 + 4503599627370458 - b0))).setCell ⟨vb, vo + 1, none⟩ (.int .u64 (a1 + 4503599627370494 - b1))).setCell ⟨vb, vo + 2, none⟩ (.int .u64 (a2 + 4503599627370494 - b2))).setCell ⟨vb, vo + 3, none⟩ (.int .u64 (a3 + 4503599627370494 - b3))).cell? ⟨bb, bo + 4, none⟩ = some (.int .u64 b4) := (World.cell?_setCell_other _ _ _ _ (pb.ne 3 4 (by omega) (by omega) (by omega))).trans ((World.cell?_setCell_other _ _ _ _ (pb.ne 2 4 (by omega) (by omega) (by omega))).trans ((World.cell?_setCell_other _ _ _ _ (pb.ne 1 4 (by omega) (by omega) (by omega))).trans ((World.cell?_setCell_other _ _ _ _ (pb.ne 0 4 (by omega) (by omega) (by omega))).trans (hb.c4))))
  have cv4 : ((((w.setCell ⟨vb, vo, none⟩ (.int .u64 (a0 + 4503599627370458 - b0))).setCell ⟨vb, vo + 1, none⟩ (.int .u64 (a1 + 4503599627370494 - b1))).setCell ⟨vb, vo + 2, none⟩ (.int .u64 (a2 + 4503599627370494 - b2))).setCell ⟨vb, vo + 3, none⟩ (.int .u64 (a3 + 4503599627370494 - b3))).cell? ⟨vb, vo + 4, none⟩ = some (.int .u64 v4) := (World.cell?_setCell_other _ _ _ _ (by simp)).trans ((World.cell?_setCell_other _ _ _ _ (by simp)).trans ((World.cell?_setCell_other _ _ _ _ (by simp)).trans ((World.cell?_setCell_other _ _ _ _ (by simp)).trans (hv.c4))))
  have fv4 := hv.f4
  refine still_tail 13 (by kernel_rfl) (by kernel_rfl) ?_
  simp only [List.take_succ_cons, List.take_zero, List.drop_succ_cons, List.drop_zero]
  repeat still_step
  refine wpStill_nil ?_
  go_wp2_with fail
  clear ca4 cb4 cv4 fv4
  have hv' := (((((hv.set0 (a0 + 4503599627370458 - b0)).set1 (a1 + 4503599627370494 - b1)).set2 (a2 + 4503599627370494 - b2)).set3 (a3 + 4503599627370494 - b3)).set4 (a4 + 4503599627370494 - b4)).drew.drew.drew.drew.drew
  refine (carry_c vb vo (a0 + 4503599627370458 - b0) (a1 + 4503599627370494 - b1) (a2 + 4503599627370494 - b2) (a3 + 4503599627370494 - b3) (a4 + 4503599627370494 - b4) _ hv' (by omega) (by omega) (by omega) (by omega) (by omega) (by omega) (by omega) (by omega) (by omega) (by omega)).mono ?_
  rintro e w1 ⟨rfl, hU, hC⟩
  go_wp2
  go_ret
  refine ⟨rfl, ?_, _, _, _, _, _, hC, ?_, ?_, ?_, ?_, ?_, ?_⟩
  · refine Upd.trans ?_ hU (fun _ _ _ h => h)
    have hw := Upd.refl w (Rg vb vo 5)
    exact (((((hw.set (fun _ => ⟨rfl, by omega, by omega⟩) _).set (fun _ => ⟨rfl, by omega, by omega⟩) _).set (fun _ => ⟨rfl, by omega, by omega⟩) _).set (fun _ => ⟨rfl, by omega, by omega⟩) _).set (fun _ => ⟨rfl, by omega, by omega⟩) _).drew.drew.drew.drew.drew
  · unfold Lim; omega
  · unfold Lim; omega
  · unfold Lim; omega
  · unfold Lim; omega
  · unfold Lim; omega
  · rw [z_carry, ← Hza.out, ← Hzb.out, ← z_sub, show lv (a0 + 4503599627370458 - b0) (a1 + 4503599627370494 - b1) (a2 + 4503599627370494 - b2) (a3 + 4503599627370494 - b3) (a4 + 4503599627370494 - b4) = lv a0 a1 a2 a3 a4 - lv b0 b1 b2 b3 b4 + (P : Int) * 2 by rw [P_int]; unfold lv; omega, z_add, z_mul, z_P]; grind

end Go.Proofs.YtkibnongmkhbaaaGreatDoor
end
