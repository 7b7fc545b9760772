/- Part of the proof that laws.FnGroup returns true for all 32 bytes p, q and x: fiatScalarFromMontgomery.
   Conditions: those that each theorem states. -/
import Derived.Test.YtkibnongmkhbaaaGreatDoorSA

section
open Go Go.RowKit
namespace Go.Proofs.YtkibnongmkhbaaaGreatDoor
open Ed

set_option maxRecDepth 100000 in
set_option maxHeartbeats 16000000 in
theorem fromMont_c (ob ab : Nat) (a0 a1 a2 a3 v0 v1 v2 v3 : Int) (a0_0 : 0 ≤ a0) (a0_1 : a0 < 18446744073709551616) (a1_0 : 0 ≤ a1) (a1_1 : a1 < 18446744073709551616) (a2_0 : 0 ≤ a2) (a2_1 : a2 < 18446744073709551616) (a3_0 : 0 ≤ a3) (a3_1 : a3 < 18446744073709551616)
    (w : World) (Ha : W4 w ab a0 a1 a2 a3) (Ho : W4 w ob v0 v1 v2 v3) :
    Calls Tryz.prog 112 #[.pointer (some ⟨ob, 0, none⟩), .pointer (some ⟨ab, 0, none⟩)] w fun e w' => e = .returned (.tuple #[]) ∧ Upd w w' (Rg ob 0 4) ∧
      ∃ r0 r1 r2 r3 : Int, W4 w' ob r0 r1 r2 r3 ∧ Wd r0 ∧ Wd r1 ∧ Wd r2 ∧ Wd r3 ∧ 0 ≤ val4 r0 r1 r2 r3 ∧ val4 r0 r1 r2 r3 < ell ∧ ∃ k, B4 * val4 r0 r1 r2 r3 = val4 a0 a1 a2 a3 + ell * k := by
  have hlt := Ha.lt
  obtain ⟨ca0, ca1, ca2, ca3, -, -, -, -⟩ := id Ha
  go_enter Tryz.func112, Tryz.ntmps112
  go_wp2_with with_reducible (first | refine stop_add ?_ | refine stop_sub ?_)
  refine (mulK a0 15183074304973897243 a0_0 a0_1 (by decide) (by decide) _).mono ?_
  rintro e w ⟨y1, x2, rfl, hw, H1, x2_0, x2_1, y1_0, y1_b⟩
  subst hw
  have y1_1 : y1 < 18446744073709551616 := Int.lt_of_le_of_lt y1_b (by decide)
  clear y1_0 y1_1 y1_b
  go_wp2_with with_reducible (first | refine stop_add ?_ | refine stop_sub ?_)
  refine (mulK x2 1152921504606846976 x2_0 x2_1 (by decide) (by decide) _).mono ?_
  rintro e w ⟨x5, x4, rfl, hw, H2, x4_0, x4_1, x5_0, x5_b⟩
  subst hw
  have x5_1 : x5 < 18446744073709551616 := Int.lt_of_le_of_lt x5_b (by decide)
  go_wp2_with with_reducible (first | refine stop_add ?_ | refine stop_sub ?_)
  refine (mulK x2 1503914060200516822 x2_0 x2_1 (by decide) (by decide) _).mono ?_
  rintro e w ⟨x7, x6, rfl, hw, H3, x6_0, x6_1, x7_0, x7_b⟩
  subst hw
  have x7_1 : x7 < 18446744073709551616 := Int.lt_of_le_of_lt x7_b (by decide)
  go_wp2_with with_reducible (first | refine stop_add ?_ | refine stop_sub ?_)
  refine (mulK x2 6346243789798364141 x2_0 x2_1 (by decide) (by decide) _).mono ?_
  rintro e w ⟨x9, x8, rfl, hw, H4, x8_0, x8_1, x9_0, x9_b⟩
  subst hw
  have x9_1 : x9 < 18446744073709551616 := Int.lt_of_le_of_lt x9_b (by decide)
  have Zx2 := Lib.hid (And.intro x2_0 x2_1)
  clear x2_0 x2_1
  go_wp2_with with_reducible (first | refine stop_add ?_ | refine stop_sub ?_)
  refine upon_addS x9_0 x9_1 x6_0 x6_1 (by decide) (by decide) (fun x10 x11 H5 x10_0 x10_1 x11_0 x11_b => ?_)
  clear x6_0 x6_1
  clear x9_0 x9_1 x9_b
  go_wp2_with with_reducible (first | refine stop_add ?_ | refine stop_sub ?_)
  refine upon_addS a0_0 a0_1 x8_0 x8_1 (by decide) (by decide) (fun y6 x13 H6 y6_0 y6_1 x13_0 x13_b => ?_)
  clear x8_0 x8_1
  have Zy6 := Lib.hid (And.intro y6_0 y6_1)
  clear y6_0 y6_1
  go_wp2_with with_reducible (first | refine stop_add ?_ | refine stop_sub ?_)
  refine upon_addS (by decide) (by decide) x10_0 x10_1 x13_0 x13_b (fun x14 x15 H7 x14_0 x14_1 x15_0 x15_b => ?_)
  clear x10_0 x10_1
  clear x13_0 x13_b
  go_wp2_with with_reducible (first | refine stop_add ?_ | refine stop_sub ?_)
  refine upon_addS x14_0 x14_1 a1_0 a1_1 (by decide) (by decide) (fun x16 x17 H8 x16_0 x16_1 x17_0 x17_b => ?_)
  clear x14_0 x14_1
  go_wp2_with with_reducible (first | refine stop_add ?_ | refine stop_sub ?_)
  refine (mulK x16 15183074304973897243 x16_0 x16_1 (by decide) (by decide) _).mono ?_
  rintro e w ⟨y9, x18, rfl, hw, H9, x18_0, x18_1, y9_0, y9_b⟩
  subst hw
  have y9_1 : y9 < 18446744073709551616 := Int.lt_of_le_of_lt y9_b (by decide)
  clear y9_0 y9_1 y9_b
  go_wp2_with with_reducible (first | refine stop_add ?_ | refine stop_sub ?_)
  refine (mulK x18 1152921504606846976 x18_0 x18_1 (by decide) (by decide) _).mono ?_
  rintro e w ⟨x21, x20, rfl, hw, H10, x20_0, x20_1, x21_0, x21_b⟩
  subst hw
  have x21_1 : x21 < 18446744073709551616 := Int.lt_of_le_of_lt x21_b (by decide)
  go_wp2_with with_reducible (first | refine stop_add ?_ | refine stop_sub ?_)
  refine (mulK x18 1503914060200516822 x18_0 x18_1 (by decide) (by decide) _).mono ?_
  rintro e w ⟨x23, x22, rfl, hw, H11, x22_0, x22_1, x23_0, x23_b⟩
  subst hw
  have x23_1 : x23 < 18446744073709551616 := Int.lt_of_le_of_lt x23_b (by decide)
  go_wp2_with with_reducible (first | refine stop_add ?_ | refine stop_sub ?_)
  refine (mulK x18 6346243789798364141 x18_0 x18_1 (by decide) (by decide) _).mono ?_
  rintro e w ⟨x25, x24, rfl, hw, H12, x24_0, x24_1, x25_0, x25_b⟩
  subst hw
  have x25_1 : x25 < 18446744073709551616 := Int.lt_of_le_of_lt x25_b (by decide)
  have Zx18 := Lib.hid (And.intro x18_0 x18_1)
  clear x18_0 x18_1
  go_wp2_with with_reducible (first | refine stop_add ?_ | refine stop_sub ?_)
  refine upon_addS x25_0 x25_1 x22_0 x22_1 (by decide) (by decide) (fun x26 x27 H13 x26_0 x26_1 x27_0 x27_b => ?_)
  clear x22_0 x22_1
  clear x25_0 x25_1 x25_b
  go_wp2_with with_reducible (first | refine stop_add ?_ | refine stop_sub ?_)
  refine upon_addS x16_0 x16_1 x24_0 x24_1 (by decide) (by decide) (fun y14 x29 H14 y14_0 y14_1 x29_0 x29_b => ?_)
  clear x16_0 x16_1
  clear x24_0 x24_1
  have Zy14 := Lib.hid (And.intro y14_0 y14_1)
  clear y14_0 y14_1
  go_wp2_with with_reducible (first | refine stop_add ?_ | refine stop_sub ?_)
  refine upon_addS (by omega) (by omega) x26_0 x26_1 x29_0 x29_b (fun x30 x31 H15 x30_0 x30_1 x31_0 x31_b => ?_)
  clear x7_0 x7_1 x7_b
  clear x11_0 x11_b
  clear x15_0 x15_b
  clear x17_0 x17_b
  clear x26_0 x26_1
  clear x29_0 x29_b
  go_wp2_with with_reducible (first | refine stop_add ?_ | refine stop_sub ?_)
  refine upon_addS x4_0 x4_1 (by omega) (by omega) x31_0 x31_b (fun x32 x33 H16 x32_0 x32_1 x33_0 x33_b => ?_)
  clear x4_0 x4_1
  clear x23_0 x23_1 x23_b
  clear x27_0 x27_b
  clear x31_0 x31_b
  go_wp2_with with_reducible (first | refine stop_add ?_ | refine stop_sub ?_)
  refine upon_addS x5_0 x5_1 x20_0 x20_1 x33_0 x33_b (fun x34 x35 H17 x34_0 x34_1 x35_0 x35_b => ?_)
  clear x5_0 x5_1 x5_b
  clear x20_0 x20_1
  clear x33_0 x33_b
  go_wp2_with with_reducible (first | refine stop_add ?_ | refine stop_sub ?_)
  refine upon_addS x30_0 x30_1 a2_0 a2_1 (by decide) (by decide) (fun x36 x37 H18 x36_0 x36_1 x37_0 x37_b => ?_)
  clear x30_0 x30_1
  go_wp2_with with_reducible (first | refine stop_add ?_ | refine stop_sub ?_)
  refine upon_addS x32_0 x32_1 (by decide) (by decide) x37_0 x37_b (fun x38 x39 H19 x38_0 x38_1 x39_0 x39_b => ?_)
  clear x32_0 x32_1
  clear x37_0 x37_b
  go_wp2_with with_reducible (first | refine stop_add ?_ | refine stop_sub ?_)
  refine upon_addS x34_0 x34_1 (by decide) (by decide) x39_0 x39_b (fun x40 x41 H20 x40_0 x40_1 x41_0 x41_b => ?_)
  clear x34_0 x34_1
  clear x39_0 x39_b
  go_wp2_with with_reducible (first | refine stop_add ?_ | refine stop_sub ?_)
  refine (mulK x36 15183074304973897243 x36_0 x36_1 (by decide) (by decide) _).mono ?_
  rintro e w ⟨y21, x42, rfl, hw, H21, x42_0, x42_1, y21_0, y21_b⟩
  subst hw
  have y21_1 : y21 < 18446744073709551616 := Int.lt_of_le_of_lt y21_b (by decide)
  clear y21_0 y21_1 y21_b
  go_wp2_with with_reducible (first | refine stop_add ?_ | refine stop_sub ?_)
  refine (mulK x42 1152921504606846976 x42_0 x42_1 (by decide) (by decide) _).mono ?_
  rintro e w ⟨x45, x44, rfl, hw, H22, x44_0, x44_1, x45_0, x45_b⟩
  subst hw
  have x45_1 : x45 < 18446744073709551616 := Int.lt_of_le_of_lt x45_b (by decide)
  go_wp2_with with_reducible (first | refine stop_add ?_ | refine stop_sub ?_)
  refine (mulK x42 1503914060200516822 x42_0 x42_1 (by decide) (by decide) _).mono ?_
  rintro e w ⟨x47, x46, rfl, hw, H23, x46_0, x46_1, x47_0, x47_b⟩
  subst hw
  have x47_1 : x47 < 18446744073709551616 := Int.lt_of_le_of_lt x47_b (by decide)
  go_wp2_with with_reducible (first | refine stop_add ?_ | refine stop_sub ?_)
  refine (mulK x42 6346243789798364141 x42_0 x42_1 (by decide) (by decide) _).mono ?_
  rintro e w ⟨x49, x48, rfl, hw, H24, x48_0, x48_1, x49_0, x49_b⟩
  subst hw
  have x49_1 : x49 < 18446744073709551616 := Int.lt_of_le_of_lt x49_b (by decide)
  have Zx42 := Lib.hid (And.intro x42_0 x42_1)
  clear x42_0 x42_1
  go_wp2_with with_reducible (first | refine stop_add ?_ | refine stop_sub ?_)
  refine upon_addS x49_0 x49_1 x46_0 x46_1 (by decide) (by decide) (fun x50 x51 H25 x50_0 x50_1 x51_0 x51_b => ?_)
  clear x46_0 x46_1
  clear x49_0 x49_1 x49_b
  go_wp2_with with_reducible (first | refine stop_add ?_ | refine stop_sub ?_)
  refine upon_addS x36_0 x36_1 x48_0 x48_1 (by decide) (by decide) (fun y26 x53 H26 y26_0 y26_1 x53_0 x53_b => ?_)
  clear x36_0 x36_1
  clear x48_0 x48_1
  have Zy26 := Lib.hid (And.intro y26_0 y26_1)
  clear y26_0 y26_1
  go_wp2_with with_reducible (first | refine stop_add ?_ | refine stop_sub ?_)
  refine upon_addS x38_0 x38_1 x50_0 x50_1 x53_0 x53_b (fun x54 x55 H27 x54_0 x54_1 x55_0 x55_b => ?_)
  clear x38_0 x38_1
  clear x50_0 x50_1
  clear x53_0 x53_b
  go_wp2_with with_reducible (first | refine stop_add ?_ | refine stop_sub ?_)
  refine upon_addS x40_0 x40_1 (by omega) (by omega) x55_0 x55_b (fun x56 x57 H28 x56_0 x56_1 x57_0 x57_b => ?_)
  clear x40_0 x40_1
  clear x47_0 x47_1 x47_b
  clear x51_0 x51_b
  clear x55_0 x55_b
  go_wp2_with with_reducible (first | refine stop_add ?_ | refine stop_sub ?_)
  refine upon_addS (by omega) (by omega) x44_0 x44_1 x57_0 x57_b (fun x58 x59 H29 x58_0 x58_1 x59_0 x59_b => ?_)
  clear x21_0 x21_1 x21_b
  clear x35_0 x35_b
  clear x41_0 x41_b
  clear x44_0 x44_1
  clear x57_0 x57_b
  go_wp2_with with_reducible (first | refine stop_add ?_ | refine stop_sub ?_)
  refine upon_addS x54_0 x54_1 a3_0 a3_1 (by decide) (by decide) (fun x60 x61 H30 x60_0 x60_1 x61_0 x61_b => ?_)
  clear x54_0 x54_1
  go_wp2_with with_reducible (first | refine stop_add ?_ | refine stop_sub ?_)
  refine upon_addS x56_0 x56_1 (by decide) (by decide) x61_0 x61_b (fun x62 x63 H31 x62_0 x62_1 x63_0 x63_b => ?_)
  clear x56_0 x56_1
  clear x61_0 x61_b
  go_wp2_with with_reducible (first | refine stop_add ?_ | refine stop_sub ?_)
  refine upon_addS x58_0 x58_1 (by decide) (by decide) x63_0 x63_b (fun x64 x65 H32 x64_0 x64_1 x65_0 x65_b => ?_)
  clear x58_0 x58_1
  clear x63_0 x63_b
  go_wp2_with with_reducible (first | refine stop_add ?_ | refine stop_sub ?_)
  refine (mulK x60 15183074304973897243 x60_0 x60_1 (by decide) (by decide) _).mono ?_
  rintro e w ⟨y33, x66, rfl, hw, H33, x66_0, x66_1, y33_0, y33_b⟩
  subst hw
  have y33_1 : y33 < 18446744073709551616 := Int.lt_of_le_of_lt y33_b (by decide)
  clear y33_0 y33_1 y33_b
  go_wp2_with with_reducible (first | refine stop_add ?_ | refine stop_sub ?_)
  refine (mulK x66 1152921504606846976 x66_0 x66_1 (by decide) (by decide) _).mono ?_
  rintro e w ⟨x69, x68, rfl, hw, H34, x68_0, x68_1, x69_0, x69_b⟩
  subst hw
  have x69_1 : x69 < 18446744073709551616 := Int.lt_of_le_of_lt x69_b (by decide)
  go_wp2_with with_reducible (first | refine stop_add ?_ | refine stop_sub ?_)
  refine (mulK x66 1503914060200516822 x66_0 x66_1 (by decide) (by decide) _).mono ?_
  rintro e w ⟨x71, x70, rfl, hw, H35, x70_0, x70_1, x71_0, x71_b⟩
  subst hw
  have x71_1 : x71 < 18446744073709551616 := Int.lt_of_le_of_lt x71_b (by decide)
  go_wp2_with with_reducible (first | refine stop_add ?_ | refine stop_sub ?_)
  refine (mulK x66 6346243789798364141 x66_0 x66_1 (by decide) (by decide) _).mono ?_
  rintro e w ⟨x73, x72, rfl, hw, H36, x72_0, x72_1, x73_0, x73_b⟩
  subst hw
  have x73_1 : x73 < 18446744073709551616 := Int.lt_of_le_of_lt x73_b (by decide)
  have Zx66 := Lib.hid (And.intro x66_0 x66_1)
  clear x66_0 x66_1
  go_wp2_with with_reducible (first | refine stop_add ?_ | refine stop_sub ?_)
  refine upon_addS x73_0 x73_1 x70_0 x70_1 (by decide) (by decide) (fun x74 x75 H37 x74_0 x74_1 x75_0 x75_b => ?_)
  clear x70_0 x70_1
  clear x73_0 x73_1 x73_b
  go_wp2_with with_reducible (first | refine stop_add ?_ | refine stop_sub ?_)
  refine upon_addS x60_0 x60_1 x72_0 x72_1 (by decide) (by decide) (fun y38 x77 H38 y38_0 y38_1 x77_0 x77_b => ?_)
  clear x60_0 x60_1
  clear x72_0 x72_1
  have Zy38 := Lib.hid (And.intro y38_0 y38_1)
  clear y38_0 y38_1
  go_wp2_with with_reducible (first | refine stop_add ?_ | refine stop_sub ?_)
  refine upon_addS x62_0 x62_1 x74_0 x74_1 x77_0 x77_b (fun x78 x79 H39 x78_0 x78_1 x79_0 x79_b => ?_)
  clear x62_0 x62_1
  clear x74_0 x74_1
  clear x77_0 x77_b
  go_wp2_with with_reducible (first | refine stop_add ?_ | refine stop_sub ?_)
  refine upon_addS x64_0 x64_1 (by omega) (by omega) x79_0 x79_b (fun x80 x81 H40 x80_0 x80_1 x81_0 x81_b => ?_)
  clear x64_0 x64_1
  clear x71_0 x71_1 x71_b
  clear x75_0 x75_b
  clear x79_0 x79_b
  go_wp2_with with_reducible (first | refine stop_add ?_ | refine stop_sub ?_)
  refine upon_addS (by omega) (by omega) x68_0 x68_1 x81_0 x81_b (fun x82 x83 H41 x82_0 x82_1 x83_0 x83_b => ?_)
  clear x45_0 x45_1 x45_b
  clear x59_0 x59_b
  clear x65_0 x65_b
  clear x68_0 x68_1
  clear x81_0 x81_b
  -- x84 := x83 + x69
  go_wp2_with with_reducible (first | refine stop_add ?_ | refine stop_sub ?_)
  refine upon_subS x78_0 x78_1 (by decide) (by decide) (by decide) (by decide) (fun x85 x86 H42 x85_0 x85_1 x86_0 x86_b => ?_)
  go_wp2_with with_reducible (first | refine stop_add ?_ | refine stop_sub ?_)
  refine upon_subS x80_0 x80_1 (by decide) (by decide) x86_0 x86_b (fun x87 x88 H43 x87_0 x87_1 x88_0 x88_b => ?_)
  clear x86_0 x86_b
  go_wp2_with with_reducible (first | refine stop_add ?_ | refine stop_sub ?_)
  refine upon_subS x82_0 x82_1 (by decide) (by decide) x88_0 x88_b (fun x89 x90 H44 x89_0 x89_1 x90_0 x90_b => ?_)
  clear x88_0 x88_b
  go_wp2_with with_reducible (first | refine stop_add ?_ | refine stop_sub ?_)
  refine upon_subS (by omega) (by omega) (by decide) (by decide) x90_0 x90_b (fun x91 x92 H45 x91_0 x91_1 x92_0 x92_b => ?_)
  clear x90_0 x90_b
  go_wp2_with with_reducible (first | refine stop_add ?_ | refine stop_sub ?_)
  refine upon_subS (by decide) (by decide) (by decide) (by decide) x92_0 x92_b (fun y46 x94 H46 y46_0 y46_1 x94_0 x94_b => ?_)
  have Zx92 := Lib.hid (And.intro x92_0 x92_b)
  clear x92_0 x92_b
  have Zy46 := Lib.hid (And.intro y46_0 y46_1)
  clear y46_0 y46_1
  go_wp2_with with_reducible (first | refine stop_add ?_ | refine stop_sub ?_)
  refine (cmovA x94 x85 x78 x94_0 x94_b x85_0 x85_1 x78_0 x78_1 _).mono ?_
  rintro e u1 ⟨r0, rfl, U1, C1, q1, R1, r0_0, r0_1⟩
  have T1 := Lib.hid q1
  have V1 := Lib.hid C1
  clear q1 C1
  clear x78_0 x78_1
  have Zx85 := Lib.hid (And.intro x85_0 x85_1)
  clear x85_0 x85_1
  go_wp2_with with_reducible (first | refine stop_add ?_ | refine stop_sub ?_)
  refine (cmovA x94 x87 x80 x94_0 x94_b x87_0 x87_1 x80_0 x80_1 _).mono ?_
  rintro e u2 ⟨r1, rfl, U2, C2, q2, R2, r1_0, r1_1⟩
  have T2 := Lib.hid q2
  have V2 := Lib.hid C2
  clear q2 C2
  clear x80_0 x80_1
  have Zx87 := Lib.hid (And.intro x87_0 x87_1)
  clear x87_0 x87_1
  go_wp2_with with_reducible (first | refine stop_add ?_ | refine stop_sub ?_)
  refine (cmovA x94 x89 x82 x94_0 x94_b x89_0 x89_1 x82_0 x82_1 _).mono ?_
  rintro e u3 ⟨r2, rfl, U3, C3, q3, R3, r2_0, r2_1⟩
  have T3 := Lib.hid q3
  have V3 := Lib.hid C3
  clear q3 C3
  clear x82_0 x82_1
  have Zx89 := Lib.hid (And.intro x89_0 x89_1)
  clear x89_0 x89_1
  go_wp2_with with_reducible (first | refine stop_add ?_ | refine stop_sub ?_)
  refine (cmovA x94 x91 (x83 + x69) x94_0 x94_b x91_0 x91_1 (by omega) (by omega) _).mono ?_
  rintro e u4 ⟨r3, rfl, U4, C4, q4, R4, r3_0, r3_1⟩
  have T4 := Lib.hid q4
  have V4 := Lib.hid C4
  clear q4 C4
  clear x69_0 x69_1 x69_b
  clear x83_0 x83_b
  have Zx91 := Lib.hid (And.intro x91_0 x91_1)
  clear x91_0 x91_1
  have Zx94 := Lib.hid (And.intro x94_0 x94_b)
  clear x94_0 x94_b
  have l1 := Ho.lt
  have s1 := T1.out
  have C1 := V1.out
  have s2 := T2.out
  have C2 := V2.out
  have s3 := T3.out
  have C3 := V3.out
  have s4 := T4.out
  have C4 := V4.out
  clear T1 T2 T3 T4 V1 V2 V3 V4
  have U : Upd w u4 (fun _ _ => False) := ((U1.trans U2 (fun _ _ _ h => h)).trans U3 (fun _ _ _ h => h)).trans U4 (fun _ _ _ h => h)
  have D1 := (U4.cell _ 0 (by omega) (fun h => h)).trans ((U3.cell _ 0 (by omega) (fun h => h)).trans ((U2.cell _ 0 (by omega) (fun h => h)).trans C1))
  have D2 := (U4.cell _ 0 (by omega) (fun h => h)).trans ((U3.cell _ 0 (by omega) (fun h => h)).trans C2)
  have D3 := (U4.cell _ 0 (by omega) (fun h => h)).trans C3
  have D4 := C4
  have n1 : ob ≠ w.heap.size := by omega
  have n2 : ob ≠ u1.heap.size := by omega
  have n3 : ob ≠ u2.heap.size := by omega
  have n4 : ob ≠ u3.heap.size := by omega
  clear s1 s2 s3 s4 C1 C2 C3 C4
  have Ho4 := Ho.keep U (fun i _ h => h)
  have E0 := from_r0 H1.out H2.out H3.out H4.out H5.out H6.out H7.out Zy6.out.1 Zy6.out.2
  have E1 := from_r1 H8.out H9.out H10.out H11.out H12.out H13.out H14.out H15.out H16.out H17.out Zy14.out.1 Zy14.out.2
  have E2 := from_r2 H18.out H19.out H20.out H21.out H22.out H23.out H24.out H25.out H26.out H27.out H28.out H29.out Zy26.out.1 Zy26.out.2
  have E3 := from_r3 H30.out H31.out H32.out H33.out H34.out H35.out H36.out H37.out H38.out H39.out H40.out H41.out rfl Zy38.out.1 Zy38.out.2
  have F : B4 * val4 x78 x80 x82 (x83 + x69) = val4 a0 a1 a2 a3 + ell * val4 x2 x18 x42 x66 := four_law E0 E1 E2 E3
  have Mb := val4_lt Zx2.out.1 Zx2.out.2 Zx18.out.1 Zx18.out.2 Zx42.out.1 Zx42.out.2 Zx66.out.1 Zx66.out.2
  have Ab := val4_lt a0_0 a0_1 a1_0 a1_1 a2_0 a2_1 a3_0 a3_1
  have Sb := from_fin F Ab.1 Ab.2 Mb.1 Mb.2
  have T := sub_law H42.out H43.out H44.out H45.out H46.out Zy46.out.1 Zy46.out.2 Zx92.out.1 Zx92.out.2 Zx94.out.1 Zx94.out.2
  obtain ⟨g1, g2, k, g3⟩ := red_law T Zx94.out.1 Zx94.out.2 Sb.2 Sb.1 Zx85.out.1 Zx85.out.2 Zx87.out.1 Zx87.out.2 Zx89.out.1 Zx89.out.2 Zx91.out.1 Zx91.out.2 R1.out R2.out R3.out R4.out
  have G3 := end_law F g3
  clear E0 E1 E2 E3 F Mb Ab Sb T g3 R1 R2 R3 R4
  clear H1 H2 H3 H4 H5 H6 H7 H8 H9 H10 H11 H12 H13 H14 H15 H16 H17 H18 H19 H20 H21 H22 H23 H24 H25 H26 H27 H28 H29 H30 H31 H32 H33 H34 H35 H36 H37 H38 H39 H40 H41 H42 H43 H44 H45 H46
  obtain ⟨o0, o1, o2, o3, p0, p1, p2, p3⟩ := id Ho4
  go_wp2_with with_reducible (first | refine stop_add ?_ | refine stop_sub ?_)
  refine still_tail 4 (by kernel_rfl) (by kernel_rfl) ?_
  simp only [List.take_succ_cons, List.take_zero, List.drop_succ_cons, List.drop_zero]
  iterate 4 still_step
  refine wpStill_nil ?_
  go_wp2_with with_reducible (first | refine stop_add ?_ | refine stop_sub ?_)
  refine still_tail 4 (by kernel_rfl) (by kernel_rfl) ?_
  simp only [List.take_succ_cons, List.take_zero, List.drop_succ_cons, List.drop_zero]
  iterate 4 still_step
  refine wpStill_nil ?_
  go_wp2_with with_reducible (first | refine stop_add ?_ | refine stop_sub ?_)
  refine still_tail 4 (by kernel_rfl) (by kernel_rfl) ?_
  simp only [List.take_succ_cons, List.take_zero, List.drop_succ_cons, List.drop_zero]
  iterate 4 still_step
  refine wpStill_nil ?_
  go_wp2_with with_reducible (first | refine stop_add ?_ | refine stop_sub ?_)
  refine still_tail 4 (by kernel_rfl) (by kernel_rfl) ?_
  simp only [List.take_succ_cons, List.take_zero, List.drop_succ_cons, List.drop_zero]
  iterate 4 still_step
  refine wpStill_nil ?_
  go_wp2
  go_end0
  refine ⟨rfl, ?_, r0, r1, r2, r3, (((Ho4.drew.set0 r0).drew.set1 r1).drew.set2 r2).drew.set3 r3, ⟨r0_0, r0_1⟩, ⟨r1_0, r1_1⟩, ⟨r2_0, r2_1⟩, ⟨r3_0, r3_1⟩, g1, g2, G3⟩
  exact (((((((((U.wide (fun _ _ _ h => h.elim)).drew).set (fun _ => ⟨rfl, by omega, by omega⟩) _).drew).set (fun _ => ⟨rfl, by omega, by omega⟩) _).drew).set (fun _ => ⟨rfl, by omega, by omega⟩) _).drew).set (fun _ => ⟨rfl, by omega, by omega⟩) _)

end Go.Proofs.YtkibnongmkhbaaaGreatDoor
end
