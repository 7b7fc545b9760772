/- Part of the proof that laws.FnGroup returns true for all 32 bytes p, q and x: fiatScalarToMontgomery.
   Conditions: those that each theorem states. -/
import Derived.Test.YtkibnongmkhbaaaGreatDoorSA

section
open Go Go.RowKit
namespace Go.Proofs.YtkibnongmkhbaaaGreatDoor
open Ed

set_option maxRecDepth 100000 in
set_option maxHeartbeats 16000000 in
theorem toMont_c (ob ab : Nat) (a0 a1 a2 a3 v0 v1 v2 v3 : Int) (a0_0 : 0 ≤ a0) (a0_1 : a0 < 18446744073709551616) (a1_0 : 0 ≤ a1) (a1_1 : a1 < 18446744073709551616) (a2_0 : 0 ≤ a2) (a2_1 : a2 < 18446744073709551616) (a3_0 : 0 ≤ a3) (a3_1 : a3 < 18446744073709551616)
    (w : World) (Ha : W4 w ab a0 a1 a2 a3) (Ho : W4 w ob v0 v1 v2 v3) :
    Calls Tryz.prog 77 #[.pointer (some ⟨ob, 0, none⟩), .pointer (some ⟨ab, 0, none⟩)] w fun e w' => e = .returned (.tuple #[]) ∧ Upd w w' (Rg ob 0 4) ∧
      ∃ r0 r1 r2 r3 : Int, W4 w' ob r0 r1 r2 r3 ∧ Wd r0 ∧ Wd r1 ∧ Wd r2 ∧ Wd r3 ∧ 0 ≤ val4 r0 r1 r2 r3 ∧ val4 r0 r1 r2 r3 < ell ∧ ∃ k, B4 * val4 r0 r1 r2 r3 = rr * val4 a0 a1 a2 a3 + ell * k := by
  have hlt := Ha.lt
  obtain ⟨ca0, ca1, ca2, ca3, -, -, -, -⟩ := id Ha
  go_enter Tryz.func77, Tryz.ntmps77
  go_wp2_with with_reducible (first | refine stop_add ?_ | refine stop_sub ?_)
  refine (mulK a0 259310039853996605 a0_0 a0_1 (by decide) (by decide) _).mono ?_
  rintro e w ⟨x6, x5, rfl, hw, H1, x5_0, x5_1, x6_0, x6_b⟩
  subst hw
  have x6_1 : x6 < 18446744073709551616 := Int.lt_of_le_of_lt x6_b (by decide)
  go_wp2_with with_reducible (first | refine stop_add ?_ | refine stop_sub ?_)
  refine (mulK a0 14910419812499177061 a0_0 a0_1 (by decide) (by decide) _).mono ?_
  rintro e w ⟨x8, x7, rfl, hw, H2, x7_0, x7_1, x8_0, x8_b⟩
  subst hw
  have x8_1 : x8 < 18446744073709551616 := Int.lt_of_le_of_lt x8_b (by decide)
  go_wp2_with with_reducible (first | refine stop_add ?_ | refine stop_sub ?_)
  refine (mulK a0 14991950615390032711 a0_0 a0_1 (by decide) (by decide) _).mono ?_
  rintro e w ⟨x10, x9, rfl, hw, H3, x9_0, x9_1, x10_0, x10_b⟩
  subst hw
  have x10_1 : x10 < 18446744073709551616 := Int.lt_of_le_of_lt x10_b (by decide)
  go_wp2_with with_reducible (first | refine stop_add ?_ | refine stop_sub ?_)
  refine (mulK a0 11819153939886771969 a0_0 a0_1 (by decide) (by decide) _).mono ?_
  rintro e w ⟨x12, x11, rfl, hw, H4, x11_0, x11_1, x12_0, x12_b⟩
  subst hw
  have x12_1 : x12 < 18446744073709551616 := Int.lt_of_le_of_lt x12_b (by decide)
  go_wp2_with with_reducible (first | refine stop_add ?_ | refine stop_sub ?_)
  refine upon_addS x12_0 x12_1 x9_0 x9_1 (by decide) (by decide) (fun x13 x14 H5 x13_0 x13_1 x14_0 x14_b => ?_)
  clear x9_0 x9_1
  clear x12_0 x12_1 x12_b
  go_wp2_with with_reducible (first | refine stop_add ?_ | refine stop_sub ?_)
  refine upon_addS x10_0 x10_1 x7_0 x7_1 x14_0 x14_b (fun x15 x16 H6 x15_0 x15_1 x16_0 x16_b => ?_)
  clear x7_0 x7_1
  clear x10_0 x10_1 x10_b
  clear x14_0 x14_b
  go_wp2_with with_reducible (first | refine stop_add ?_ | refine stop_sub ?_)
  refine upon_addS x8_0 x8_1 x5_0 x5_1 x16_0 x16_b (fun x17 x18 H7 x17_0 x17_1 x18_0 x18_b => ?_)
  clear x5_0 x5_1
  clear x8_0 x8_1 x8_b
  clear x16_0 x16_b
  go_wp2_with with_reducible (first | refine stop_add ?_ | refine stop_sub ?_)
  refine (mulK x11 15183074304973897243 x11_0 x11_1 (by decide) (by decide) _).mono ?_
  rintro e w ⟨y8, x19, rfl, hw, H8, x19_0, x19_1, y8_0, y8_b⟩
  subst hw
  have y8_1 : y8 < 18446744073709551616 := Int.lt_of_le_of_lt y8_b (by decide)
  clear y8_0 y8_1 y8_b
  go_wp2_with with_reducible (first | refine stop_add ?_ | refine stop_sub ?_)
  refine (mulK x19 1152921504606846976 x19_0 x19_1 (by decide) (by decide) _).mono ?_
  rintro e w ⟨x22, x21, rfl, hw, H9, x21_0, x21_1, x22_0, x22_b⟩
  subst hw
  have x22_1 : x22 < 18446744073709551616 := Int.lt_of_le_of_lt x22_b (by decide)
  go_wp2_with with_reducible (first | refine stop_add ?_ | refine stop_sub ?_)
  refine (mulK x19 1503914060200516822 x19_0 x19_1 (by decide) (by decide) _).mono ?_
  rintro e w ⟨x24, x23, rfl, hw, H10, x23_0, x23_1, x24_0, x24_b⟩
  subst hw
  have x24_1 : x24 < 18446744073709551616 := Int.lt_of_le_of_lt x24_b (by decide)
  go_wp2_with with_reducible (first | refine stop_add ?_ | refine stop_sub ?_)
  refine (mulK x19 6346243789798364141 x19_0 x19_1 (by decide) (by decide) _).mono ?_
  rintro e w ⟨x26, x25, rfl, hw, H11, x25_0, x25_1, x26_0, x26_b⟩
  subst hw
  have x26_1 : x26 < 18446744073709551616 := Int.lt_of_le_of_lt x26_b (by decide)
  have Zx19 := Lib.hid (And.intro x19_0 x19_1)
  clear x19_0 x19_1
  go_wp2_with with_reducible (first | refine stop_add ?_ | refine stop_sub ?_)
  refine upon_addS x26_0 x26_1 x23_0 x23_1 (by decide) (by decide) (fun x27 x28 H12 x27_0 x27_1 x28_0 x28_b => ?_)
  clear x23_0 x23_1
  clear x26_0 x26_1 x26_b
  go_wp2_with with_reducible (first | refine stop_add ?_ | refine stop_sub ?_)
  refine upon_addS x11_0 x11_1 x25_0 x25_1 (by decide) (by decide) (fun y13 x30 H13 y13_0 y13_1 x30_0 x30_b => ?_)
  clear x11_0 x11_1
  clear x25_0 x25_1
  have Zy13 := Lib.hid (And.intro y13_0 y13_1)
  clear y13_0 y13_1
  go_wp2_with with_reducible (first | refine stop_add ?_ | refine stop_sub ?_)
  refine upon_addS x13_0 x13_1 x27_0 x27_1 x30_0 x30_b (fun x31 x32 H14 x31_0 x31_1 x32_0 x32_b => ?_)
  clear x13_0 x13_1
  clear x27_0 x27_1
  clear x30_0 x30_b
  go_wp2_with with_reducible (first | refine stop_add ?_ | refine stop_sub ?_)
  refine upon_addS x15_0 x15_1 (by omega) (by omega) x32_0 x32_b (fun x33 x34 H15 x33_0 x33_1 x34_0 x34_b => ?_)
  clear x15_0 x15_1
  clear x24_0 x24_1 x24_b
  clear x28_0 x28_b
  clear x32_0 x32_b
  go_wp2_with with_reducible (first | refine stop_add ?_ | refine stop_sub ?_)
  refine upon_addS x17_0 x17_1 x21_0 x21_1 x34_0 x34_b (fun x35 x36 H16 x35_0 x35_1 x36_0 x36_b => ?_)
  clear x17_0 x17_1
  clear x21_0 x21_1
  clear x34_0 x34_b
  go_wp2_with with_reducible (first | refine stop_add ?_ | refine stop_sub ?_)
  refine (mulK a1 259310039853996605 a1_0 a1_1 (by decide) (by decide) _).mono ?_
  rintro e w ⟨x38, x37, rfl, hw, H17, x37_0, x37_1, x38_0, x38_b⟩
  subst hw
  have x38_1 : x38 < 18446744073709551616 := Int.lt_of_le_of_lt x38_b (by decide)
  go_wp2_with with_reducible (first | refine stop_add ?_ | refine stop_sub ?_)
  refine (mulK a1 14910419812499177061 a1_0 a1_1 (by decide) (by decide) _).mono ?_
  rintro e w ⟨x40, x39, rfl, hw, H18, x39_0, x39_1, x40_0, x40_b⟩
  subst hw
  have x40_1 : x40 < 18446744073709551616 := Int.lt_of_le_of_lt x40_b (by decide)
  go_wp2_with with_reducible (first | refine stop_add ?_ | refine stop_sub ?_)
  refine (mulK a1 14991950615390032711 a1_0 a1_1 (by decide) (by decide) _).mono ?_
  rintro e w ⟨x42, x41, rfl, hw, H19, x41_0, x41_1, x42_0, x42_b⟩
  subst hw
  have x42_1 : x42 < 18446744073709551616 := Int.lt_of_le_of_lt x42_b (by decide)
  go_wp2_with with_reducible (first | refine stop_add ?_ | refine stop_sub ?_)
  refine (mulK a1 11819153939886771969 a1_0 a1_1 (by decide) (by decide) _).mono ?_
  rintro e w ⟨x44, x43, rfl, hw, H20, x43_0, x43_1, x44_0, x44_b⟩
  subst hw
  have x44_1 : x44 < 18446744073709551616 := Int.lt_of_le_of_lt x44_b (by decide)
  go_wp2_with with_reducible (first | refine stop_add ?_ | refine stop_sub ?_)
  refine upon_addS x44_0 x44_1 x41_0 x41_1 (by decide) (by decide) (fun x45 x46 H21 x45_0 x45_1 x46_0 x46_b => ?_)
  clear x41_0 x41_1
  clear x44_0 x44_1 x44_b
  go_wp2_with with_reducible (first | refine stop_add ?_ | refine stop_sub ?_)
  refine upon_addS x42_0 x42_1 x39_0 x39_1 x46_0 x46_b (fun x47 x48 H22 x47_0 x47_1 x48_0 x48_b => ?_)
  clear x39_0 x39_1
  clear x42_0 x42_1 x42_b
  clear x46_0 x46_b
  go_wp2_with with_reducible (first | refine stop_add ?_ | refine stop_sub ?_)
  refine upon_addS x40_0 x40_1 x37_0 x37_1 x48_0 x48_b (fun x49 x50 H23 x49_0 x49_1 x50_0 x50_b => ?_)
  clear x37_0 x37_1
  clear x40_0 x40_1 x40_b
  clear x48_0 x48_b
  go_wp2_with with_reducible (first | refine stop_add ?_ | refine stop_sub ?_)
  refine upon_addS x31_0 x31_1 x43_0 x43_1 (by decide) (by decide) (fun x51 x52 H24 x51_0 x51_1 x52_0 x52_b => ?_)
  clear x31_0 x31_1
  clear x43_0 x43_1
  go_wp2_with with_reducible (first | refine stop_add ?_ | refine stop_sub ?_)
  refine upon_addS x33_0 x33_1 x45_0 x45_1 x52_0 x52_b (fun x53 x54 H25 x53_0 x53_1 x54_0 x54_b => ?_)
  clear x33_0 x33_1
  clear x45_0 x45_1
  clear x52_0 x52_b
  go_wp2_with with_reducible (first | refine stop_add ?_ | refine stop_sub ?_)
  refine upon_addS x35_0 x35_1 x47_0 x47_1 x54_0 x54_b (fun x55 x56 H26 x55_0 x55_1 x56_0 x56_b => ?_)
  clear x35_0 x35_1
  clear x47_0 x47_1
  clear x54_0 x54_b
  go_wp2_with with_reducible (first | refine stop_add ?_ | refine stop_sub ?_)
  refine upon_addS (by omega) (by omega) x49_0 x49_1 x56_0 x56_b (fun x57 x58 H27 x57_0 x57_1 x58_0 x58_b => ?_)
  clear x6_0 x6_1 x6_b
  clear x18_0 x18_b
  clear x22_0 x22_1 x22_b
  clear x36_0 x36_b
  clear x49_0 x49_1
  clear x56_0 x56_b
  go_wp2_with with_reducible (first | refine stop_add ?_ | refine stop_sub ?_)
  refine (mulK x51 15183074304973897243 x51_0 x51_1 (by decide) (by decide) _).mono ?_
  rintro e w ⟨y28, x59, rfl, hw, H28, x59_0, x59_1, y28_0, y28_b⟩
  subst hw
  have y28_1 : y28 < 18446744073709551616 := Int.lt_of_le_of_lt y28_b (by decide)
  clear y28_0 y28_1 y28_b
  go_wp2_with with_reducible (first | refine stop_add ?_ | refine stop_sub ?_)
  refine (mulK x59 1152921504606846976 x59_0 x59_1 (by decide) (by decide) _).mono ?_
  rintro e w ⟨x62, x61, rfl, hw, H29, x61_0, x61_1, x62_0, x62_b⟩
  subst hw
  have x62_1 : x62 < 18446744073709551616 := Int.lt_of_le_of_lt x62_b (by decide)
  go_wp2_with with_reducible (first | refine stop_add ?_ | refine stop_sub ?_)
  refine (mulK x59 1503914060200516822 x59_0 x59_1 (by decide) (by decide) _).mono ?_
  rintro e w ⟨x64, x63, rfl, hw, H30, x63_0, x63_1, x64_0, x64_b⟩
  subst hw
  have x64_1 : x64 < 18446744073709551616 := Int.lt_of_le_of_lt x64_b (by decide)
  go_wp2_with with_reducible (first | refine stop_add ?_ | refine stop_sub ?_)
  refine (mulK x59 6346243789798364141 x59_0 x59_1 (by decide) (by decide) _).mono ?_
  rintro e w ⟨x66, x65, rfl, hw, H31, x65_0, x65_1, x66_0, x66_b⟩
  subst hw
  have x66_1 : x66 < 18446744073709551616 := Int.lt_of_le_of_lt x66_b (by decide)
  have Zx59 := Lib.hid (And.intro x59_0 x59_1)
  clear x59_0 x59_1
  go_wp2_with with_reducible (first | refine stop_add ?_ | refine stop_sub ?_)
  refine upon_addS x66_0 x66_1 x63_0 x63_1 (by decide) (by decide) (fun x67 x68 H32 x67_0 x67_1 x68_0 x68_b => ?_)
  clear x63_0 x63_1
  clear x66_0 x66_1 x66_b
  go_wp2_with with_reducible (first | refine stop_add ?_ | refine stop_sub ?_)
  refine upon_addS x51_0 x51_1 x65_0 x65_1 (by decide) (by decide) (fun y33 x70 H33 y33_0 y33_1 x70_0 x70_b => ?_)
  clear x51_0 x51_1
  clear x65_0 x65_1
  have Zy33 := Lib.hid (And.intro y33_0 y33_1)
  clear y33_0 y33_1
  go_wp2_with with_reducible (first | refine stop_add ?_ | refine stop_sub ?_)
  refine upon_addS x53_0 x53_1 x67_0 x67_1 x70_0 x70_b (fun x71 x72 H34 x71_0 x71_1 x72_0 x72_b => ?_)
  clear x53_0 x53_1
  clear x67_0 x67_1
  clear x70_0 x70_b
  go_wp2_with with_reducible (first | refine stop_add ?_ | refine stop_sub ?_)
  refine upon_addS x55_0 x55_1 (by omega) (by omega) x72_0 x72_b (fun x73 x74 H35 x73_0 x73_1 x74_0 x74_b => ?_)
  clear x55_0 x55_1
  clear x64_0 x64_1 x64_b
  clear x68_0 x68_b
  clear x72_0 x72_b
  go_wp2_with with_reducible (first | refine stop_add ?_ | refine stop_sub ?_)
  refine upon_addS x57_0 x57_1 x61_0 x61_1 x74_0 x74_b (fun x75 x76 H36 x75_0 x75_1 x76_0 x76_b => ?_)
  clear x57_0 x57_1
  clear x61_0 x61_1
  clear x74_0 x74_b
  go_wp2_with with_reducible (first | refine stop_add ?_ | refine stop_sub ?_)
  refine (mulK a2 259310039853996605 a2_0 a2_1 (by decide) (by decide) _).mono ?_
  rintro e w ⟨x78, x77, rfl, hw, H37, x77_0, x77_1, x78_0, x78_b⟩
  subst hw
  have x78_1 : x78 < 18446744073709551616 := Int.lt_of_le_of_lt x78_b (by decide)
  go_wp2_with with_reducible (first | refine stop_add ?_ | refine stop_sub ?_)
  refine (mulK a2 14910419812499177061 a2_0 a2_1 (by decide) (by decide) _).mono ?_
  rintro e w ⟨x80, x79, rfl, hw, H38, x79_0, x79_1, x80_0, x80_b⟩
  subst hw
  have x80_1 : x80 < 18446744073709551616 := Int.lt_of_le_of_lt x80_b (by decide)
  go_wp2_with with_reducible (first | refine stop_add ?_ | refine stop_sub ?_)
  refine (mulK a2 14991950615390032711 a2_0 a2_1 (by decide) (by decide) _).mono ?_
  rintro e w ⟨x82, x81, rfl, hw, H39, x81_0, x81_1, x82_0, x82_b⟩
  subst hw
  have x82_1 : x82 < 18446744073709551616 := Int.lt_of_le_of_lt x82_b (by decide)
  go_wp2_with with_reducible (first | refine stop_add ?_ | refine stop_sub ?_)
  refine (mulK a2 11819153939886771969 a2_0 a2_1 (by decide) (by decide) _).mono ?_
  rintro e w ⟨x84, x83, rfl, hw, H40, x83_0, x83_1, x84_0, x84_b⟩
  subst hw
  have x84_1 : x84 < 18446744073709551616 := Int.lt_of_le_of_lt x84_b (by decide)
  go_wp2_with with_reducible (first | refine stop_add ?_ | refine stop_sub ?_)
  refine upon_addS x84_0 x84_1 x81_0 x81_1 (by decide) (by decide) (fun x85 x86 H41 x85_0 x85_1 x86_0 x86_b => ?_)
  clear x81_0 x81_1
  clear x84_0 x84_1 x84_b
  go_wp2_with with_reducible (first | refine stop_add ?_ | refine stop_sub ?_)
  refine upon_addS x82_0 x82_1 x79_0 x79_1 x86_0 x86_b (fun x87 x88 H42 x87_0 x87_1 x88_0 x88_b => ?_)
  clear x79_0 x79_1
  clear x82_0 x82_1 x82_b
  clear x86_0 x86_b
  go_wp2_with with_reducible (first | refine stop_add ?_ | refine stop_sub ?_)
  refine upon_addS x80_0 x80_1 x77_0 x77_1 x88_0 x88_b (fun x89 x90 H43 x89_0 x89_1 x90_0 x90_b => ?_)
  clear x77_0 x77_1
  clear x80_0 x80_1 x80_b
  clear x88_0 x88_b
  go_wp2_with with_reducible (first | refine stop_add ?_ | refine stop_sub ?_)
  refine upon_addS x71_0 x71_1 x83_0 x83_1 (by decide) (by decide) (fun x91 x92 H44 x91_0 x91_1 x92_0 x92_b => ?_)
  clear x71_0 x71_1
  clear x83_0 x83_1
  go_wp2_with with_reducible (first | refine stop_add ?_ | refine stop_sub ?_)
  refine upon_addS x73_0 x73_1 x85_0 x85_1 x92_0 x92_b (fun x93 x94 H45 x93_0 x93_1 x94_0 x94_b => ?_)
  clear x73_0 x73_1
  clear x85_0 x85_1
  clear x92_0 x92_b
  go_wp2_with with_reducible (first | refine stop_add ?_ | refine stop_sub ?_)
  refine upon_addS x75_0 x75_1 x87_0 x87_1 x94_0 x94_b (fun x95 x96 H46 x95_0 x95_1 x96_0 x96_b => ?_)
  clear x75_0 x75_1
  clear x87_0 x87_1
  clear x94_0 x94_b
  go_wp2_with with_reducible (first | refine stop_add ?_ | refine stop_sub ?_)
  refine upon_addS (by omega) (by omega) x89_0 x89_1 x96_0 x96_b (fun x97 x98 H47 x97_0 x97_1 x98_0 x98_b => ?_)
  clear x38_0 x38_1 x38_b
  clear x50_0 x50_b
  clear x58_0 x58_b
  clear x62_0 x62_1 x62_b
  clear x76_0 x76_b
  clear x89_0 x89_1
  clear x96_0 x96_b
  go_wp2_with with_reducible (first | refine stop_add ?_ | refine stop_sub ?_)
  refine (mulK x91 15183074304973897243 x91_0 x91_1 (by decide) (by decide) _).mono ?_
  rintro e w ⟨y48, x99, rfl, hw, H48, x99_0, x99_1, y48_0, y48_b⟩
  subst hw
  have y48_1 : y48 < 18446744073709551616 := Int.lt_of_le_of_lt y48_b (by decide)
  clear y48_0 y48_1 y48_b
  go_wp2_with with_reducible (first | refine stop_add ?_ | refine stop_sub ?_)
  refine (mulK x99 1152921504606846976 x99_0 x99_1 (by decide) (by decide) _).mono ?_
  rintro e w ⟨x102, x101, rfl, hw, H49, x101_0, x101_1, x102_0, x102_b⟩
  subst hw
  have x102_1 : x102 < 18446744073709551616 := Int.lt_of_le_of_lt x102_b (by decide)
  go_wp2_with with_reducible (first | refine stop_add ?_ | refine stop_sub ?_)
  refine (mulK x99 1503914060200516822 x99_0 x99_1 (by decide) (by decide) _).mono ?_
  rintro e w ⟨x104, x103, rfl, hw, H50, x103_0, x103_1, x104_0, x104_b⟩
  subst hw
  have x104_1 : x104 < 18446744073709551616 := Int.lt_of_le_of_lt x104_b (by decide)
  go_wp2_with with_reducible (first | refine stop_add ?_ | refine stop_sub ?_)
  refine (mulK x99 6346243789798364141 x99_0 x99_1 (by decide) (by decide) _).mono ?_
  rintro e w ⟨x106, x105, rfl, hw, H51, x105_0, x105_1, x106_0, x106_b⟩
  subst hw
  have x106_1 : x106 < 18446744073709551616 := Int.lt_of_le_of_lt x106_b (by decide)
  have Zx99 := Lib.hid (And.intro x99_0 x99_1)
  clear x99_0 x99_1
  go_wp2_with with_reducible (first | refine stop_add ?_ | refine stop_sub ?_)
  refine upon_addS x106_0 x106_1 x103_0 x103_1 (by decide) (by decide) (fun x107 x108 H52 x107_0 x107_1 x108_0 x108_b => ?_)
  clear x103_0 x103_1
  clear x106_0 x106_1 x106_b
  go_wp2_with with_reducible (first | refine stop_add ?_ | refine stop_sub ?_)
  refine upon_addS x91_0 x91_1 x105_0 x105_1 (by decide) (by decide) (fun y53 x110 H53 y53_0 y53_1 x110_0 x110_b => ?_)
  clear x91_0 x91_1
  clear x105_0 x105_1
  have Zy53 := Lib.hid (And.intro y53_0 y53_1)
  clear y53_0 y53_1
  go_wp2_with with_reducible (first | refine stop_add ?_ | refine stop_sub ?_)
  refine upon_addS x93_0 x93_1 x107_0 x107_1 x110_0 x110_b (fun x111 x112 H54 x111_0 x111_1 x112_0 x112_b => ?_)
  clear x93_0 x93_1
  clear x107_0 x107_1
  clear x110_0 x110_b
  go_wp2_with with_reducible (first | refine stop_add ?_ | refine stop_sub ?_)
  refine upon_addS x95_0 x95_1 (by omega) (by omega) x112_0 x112_b (fun x113 x114 H55 x113_0 x113_1 x114_0 x114_b => ?_)
  clear x95_0 x95_1
  clear x104_0 x104_1 x104_b
  clear x108_0 x108_b
  clear x112_0 x112_b
  go_wp2_with with_reducible (first | refine stop_add ?_ | refine stop_sub ?_)
  refine upon_addS x97_0 x97_1 x101_0 x101_1 x114_0 x114_b (fun x115 x116 H56 x115_0 x115_1 x116_0 x116_b => ?_)
  clear x97_0 x97_1
  clear x101_0 x101_1
  clear x114_0 x114_b
  go_wp2_with with_reducible (first | refine stop_add ?_ | refine stop_sub ?_)
  refine (mulK a3 259310039853996605 a3_0 a3_1 (by decide) (by decide) _).mono ?_
  rintro e w ⟨x118, x117, rfl, hw, H57, x117_0, x117_1, x118_0, x118_b⟩
  subst hw
  have x118_1 : x118 < 18446744073709551616 := Int.lt_of_le_of_lt x118_b (by decide)
  go_wp2_with with_reducible (first | refine stop_add ?_ | refine stop_sub ?_)
  refine (mulK a3 14910419812499177061 a3_0 a3_1 (by decide) (by decide) _).mono ?_
  rintro e w ⟨x120, x119, rfl, hw, H58, x119_0, x119_1, x120_0, x120_b⟩
  subst hw
  have x120_1 : x120 < 18446744073709551616 := Int.lt_of_le_of_lt x120_b (by decide)
  go_wp2_with with_reducible (first | refine stop_add ?_ | refine stop_sub ?_)
  refine (mulK a3 14991950615390032711 a3_0 a3_1 (by decide) (by decide) _).mono ?_
  rintro e w ⟨x122, x121, rfl, hw, H59, x121_0, x121_1, x122_0, x122_b⟩
  subst hw
  have x122_1 : x122 < 18446744073709551616 := Int.lt_of_le_of_lt x122_b (by decide)
  go_wp2_with with_reducible (first | refine stop_add ?_ | refine stop_sub ?_)
  refine (mulK a3 11819153939886771969 a3_0 a3_1 (by decide) (by decide) _).mono ?_
  rintro e w ⟨x124, x123, rfl, hw, H60, x123_0, x123_1, x124_0, x124_b⟩
  subst hw
  have x124_1 : x124 < 18446744073709551616 := Int.lt_of_le_of_lt x124_b (by decide)
  go_wp2_with with_reducible (first | refine stop_add ?_ | refine stop_sub ?_)
  refine upon_addS x124_0 x124_1 x121_0 x121_1 (by decide) (by decide) (fun x125 x126 H61 x125_0 x125_1 x126_0 x126_b => ?_)
  clear x121_0 x121_1
  clear x124_0 x124_1 x124_b
  go_wp2_with with_reducible (first | refine stop_add ?_ | refine stop_sub ?_)
  refine upon_addS x122_0 x122_1 x119_0 x119_1 x126_0 x126_b (fun x127 x128 H62 x127_0 x127_1 x128_0 x128_b => ?_)
  clear x119_0 x119_1
  clear x122_0 x122_1 x122_b
  clear x126_0 x126_b
  go_wp2_with with_reducible (first | refine stop_add ?_ | refine stop_sub ?_)
  refine upon_addS x120_0 x120_1 x117_0 x117_1 x128_0 x128_b (fun x129 x130 H63 x129_0 x129_1 x130_0 x130_b => ?_)
  clear x117_0 x117_1
  clear x120_0 x120_1 x120_b
  clear x128_0 x128_b
  go_wp2_with with_reducible (first | refine stop_add ?_ | refine stop_sub ?_)
  refine upon_addS x111_0 x111_1 x123_0 x123_1 (by decide) (by decide) (fun x131 x132 H64 x131_0 x131_1 x132_0 x132_b => ?_)
  clear x111_0 x111_1
  clear x123_0 x123_1
  go_wp2_with with_reducible (first | refine stop_add ?_ | refine stop_sub ?_)
  refine upon_addS x113_0 x113_1 x125_0 x125_1 x132_0 x132_b (fun x133 x134 H65 x133_0 x133_1 x134_0 x134_b => ?_)
  clear x113_0 x113_1
  clear x125_0 x125_1
  clear x132_0 x132_b
  go_wp2_with with_reducible (first | refine stop_add ?_ | refine stop_sub ?_)
  refine upon_addS x115_0 x115_1 x127_0 x127_1 x134_0 x134_b (fun x135 x136 H66 x135_0 x135_1 x136_0 x136_b => ?_)
  clear x115_0 x115_1
  clear x127_0 x127_1
  clear x134_0 x134_b
  go_wp2_with with_reducible (first | refine stop_add ?_ | refine stop_sub ?_)
  refine upon_addS (by omega) (by omega) x129_0 x129_1 x136_0 x136_b (fun x137 x138 H67 x137_0 x137_1 x138_0 x138_b => ?_)
  clear x78_0 x78_1 x78_b
  clear x90_0 x90_b
  clear x98_0 x98_b
  clear x102_0 x102_1 x102_b
  clear x116_0 x116_b
  clear x129_0 x129_1
  clear x136_0 x136_b
  go_wp2_with with_reducible (first | refine stop_add ?_ | refine stop_sub ?_)
  refine (mulK x131 15183074304973897243 x131_0 x131_1 (by decide) (by decide) _).mono ?_
  rintro e w ⟨y68, x139, rfl, hw, H68, x139_0, x139_1, y68_0, y68_b⟩
  subst hw
  have y68_1 : y68 < 18446744073709551616 := Int.lt_of_le_of_lt y68_b (by decide)
  clear y68_0 y68_1 y68_b
  go_wp2_with with_reducible (first | refine stop_add ?_ | refine stop_sub ?_)
  refine (mulK x139 1152921504606846976 x139_0 x139_1 (by decide) (by decide) _).mono ?_
  rintro e w ⟨x142, x141, rfl, hw, H69, x141_0, x141_1, x142_0, x142_b⟩
  subst hw
  have x142_1 : x142 < 18446744073709551616 := Int.lt_of_le_of_lt x142_b (by decide)
  go_wp2_with with_reducible (first | refine stop_add ?_ | refine stop_sub ?_)
  refine (mulK x139 1503914060200516822 x139_0 x139_1 (by decide) (by decide) _).mono ?_
  rintro e w ⟨x144, x143, rfl, hw, H70, x143_0, x143_1, x144_0, x144_b⟩
  subst hw
  have x144_1 : x144 < 18446744073709551616 := Int.lt_of_le_of_lt x144_b (by decide)
  go_wp2_with with_reducible (first | refine stop_add ?_ | refine stop_sub ?_)
  refine (mulK x139 6346243789798364141 x139_0 x139_1 (by decide) (by decide) _).mono ?_
  rintro e w ⟨x146, x145, rfl, hw, H71, x145_0, x145_1, x146_0, x146_b⟩
  subst hw
  have x146_1 : x146 < 18446744073709551616 := Int.lt_of_le_of_lt x146_b (by decide)
  have Zx139 := Lib.hid (And.intro x139_0 x139_1)
  clear x139_0 x139_1
  go_wp2_with with_reducible (first | refine stop_add ?_ | refine stop_sub ?_)
  refine upon_addS x146_0 x146_1 x143_0 x143_1 (by decide) (by decide) (fun x147 x148 H72 x147_0 x147_1 x148_0 x148_b => ?_)
  clear x143_0 x143_1
  clear x146_0 x146_1 x146_b
  go_wp2_with with_reducible (first | refine stop_add ?_ | refine stop_sub ?_)
  refine upon_addS x131_0 x131_1 x145_0 x145_1 (by decide) (by decide) (fun y73 x150 H73 y73_0 y73_1 x150_0 x150_b => ?_)
  clear x131_0 x131_1
  clear x145_0 x145_1
  have Zy73 := Lib.hid (And.intro y73_0 y73_1)
  clear y73_0 y73_1
  go_wp2_with with_reducible (first | refine stop_add ?_ | refine stop_sub ?_)
  refine upon_addS x133_0 x133_1 x147_0 x147_1 x150_0 x150_b (fun x151 x152 H74 x151_0 x151_1 x152_0 x152_b => ?_)
  clear x133_0 x133_1
  clear x147_0 x147_1
  clear x150_0 x150_b
  go_wp2_with with_reducible (first | refine stop_add ?_ | refine stop_sub ?_)
  refine upon_addS x135_0 x135_1 (by omega) (by omega) x152_0 x152_b (fun x153 x154 H75 x153_0 x153_1 x154_0 x154_b => ?_)
  clear x135_0 x135_1
  clear x144_0 x144_1 x144_b
  clear x148_0 x148_b
  clear x152_0 x152_b
  go_wp2_with with_reducible (first | refine stop_add ?_ | refine stop_sub ?_)
  refine upon_addS x137_0 x137_1 x141_0 x141_1 x154_0 x154_b (fun x155 x156 H76 x155_0 x155_1 x156_0 x156_b => ?_)
  clear x137_0 x137_1
  clear x141_0 x141_1
  clear x154_0 x154_b
  -- x157 := ((x156 + (x138 + (x130 + x118))) + x142)
  go_wp2_with with_reducible (first | refine stop_add ?_ | refine stop_sub ?_)
  refine upon_subS x151_0 x151_1 (by decide) (by decide) (by decide) (by decide) (fun x158 x159 H77 x158_0 x158_1 x159_0 x159_b => ?_)
  go_wp2_with with_reducible (first | refine stop_add ?_ | refine stop_sub ?_)
  refine upon_subS x153_0 x153_1 (by decide) (by decide) x159_0 x159_b (fun x160 x161 H78 x160_0 x160_1 x161_0 x161_b => ?_)
  clear x159_0 x159_b
  go_wp2_with with_reducible (first | refine stop_add ?_ | refine stop_sub ?_)
  refine upon_subS x155_0 x155_1 (by decide) (by decide) x161_0 x161_b (fun x162 x163 H79 x162_0 x162_1 x163_0 x163_b => ?_)
  clear x161_0 x161_b
  go_wp2_with with_reducible (first | refine stop_add ?_ | refine stop_sub ?_)
  refine upon_subS (by omega) (by omega) (by decide) (by decide) x163_0 x163_b (fun x164 x165 H80 x164_0 x164_1 x165_0 x165_b => ?_)
  clear x163_0 x163_b
  go_wp2_with with_reducible (first | refine stop_add ?_ | refine stop_sub ?_)
  refine upon_subS (by decide) (by decide) (by decide) (by decide) x165_0 x165_b (fun y81 x167 H81 y81_0 y81_1 x167_0 x167_b => ?_)
  have Zx165 := Lib.hid (And.intro x165_0 x165_b)
  clear x165_0 x165_b
  have Zy81 := Lib.hid (And.intro y81_0 y81_1)
  clear y81_0 y81_1
  go_wp2_with with_reducible (first | refine stop_add ?_ | refine stop_sub ?_)
  refine (cmovA x167 x158 x151 x167_0 x167_b x158_0 x158_1 x151_0 x151_1 _).mono ?_
  rintro e u1 ⟨r0, rfl, U1, C1, q1, R1, r0_0, r0_1⟩
  have T1 := Lib.hid q1
  have V1 := Lib.hid C1
  clear q1 C1
  clear x151_0 x151_1
  have Zx158 := Lib.hid (And.intro x158_0 x158_1)
  clear x158_0 x158_1
  go_wp2_with with_reducible (first | refine stop_add ?_ | refine stop_sub ?_)
  refine (cmovA x167 x160 x153 x167_0 x167_b x160_0 x160_1 x153_0 x153_1 _).mono ?_
  rintro e u2 ⟨r1, rfl, U2, C2, q2, R2, r1_0, r1_1⟩
  have T2 := Lib.hid q2
  have V2 := Lib.hid C2
  clear q2 C2
  clear x153_0 x153_1
  have Zx160 := Lib.hid (And.intro x160_0 x160_1)
  clear x160_0 x160_1
  go_wp2_with with_reducible (first | refine stop_add ?_ | refine stop_sub ?_)
  refine (cmovA x167 x162 x155 x167_0 x167_b x162_0 x162_1 x155_0 x155_1 _).mono ?_
  rintro e u3 ⟨r2, rfl, U3, C3, q3, R3, r2_0, r2_1⟩
  have T3 := Lib.hid q3
  have V3 := Lib.hid C3
  clear q3 C3
  clear x155_0 x155_1
  have Zx162 := Lib.hid (And.intro x162_0 x162_1)
  clear x162_0 x162_1
  go_wp2_with with_reducible (first | refine stop_add ?_ | refine stop_sub ?_)
  refine (cmovA x167 x164 (((x156 + (x138 + (x130 + x118))) + x142)) x167_0 x167_b x164_0 x164_1 (by omega) (by omega) _).mono ?_
  rintro e u4 ⟨r3, rfl, U4, C4, q4, R4, r3_0, r3_1⟩
  have T4 := Lib.hid q4
  have V4 := Lib.hid C4
  clear q4 C4
  clear x118_0 x118_1 x118_b
  clear x130_0 x130_b
  clear x138_0 x138_b
  clear x142_0 x142_1 x142_b
  clear x156_0 x156_b
  have Zx164 := Lib.hid (And.intro x164_0 x164_1)
  clear x164_0 x164_1
  have Zx167 := Lib.hid (And.intro x167_0 x167_b)
  clear x167_0 x167_b
  have l1 := Ho.lt
  have s1 := T1.out
  have C1 := V1.out
  have s2 := T2.out
  have C2 := V2.out
  have s3 := T3.out
  have C3 := V3.out
  have s4 := T4.out
  have C4 := V4.out
  clear T1 T2 T3 T4 V1 V2 V3 V4
  have U : Upd w u4 (fun _ _ => False) := ((U1.trans U2 (fun _ _ _ h => h)).trans U3 (fun _ _ _ h => h)).trans U4 (fun _ _ _ h => h)
  have D1 := (U4.cell _ 0 (by omega) (fun h => h)).trans ((U3.cell _ 0 (by omega) (fun h => h)).trans ((U2.cell _ 0 (by omega) (fun h => h)).trans C1))
  have D2 := (U4.cell _ 0 (by omega) (fun h => h)).trans ((U3.cell _ 0 (by omega) (fun h => h)).trans C2)
  have D3 := (U4.cell _ 0 (by omega) (fun h => h)).trans C3
  have D4 := C4
  have n1 : ob ≠ w.heap.size := by omega
  have n2 : ob ≠ u1.heap.size := by omega
  have n3 : ob ≠ u2.heap.size := by omega
  have n4 : ob ≠ u3.heap.size := by omega
  clear s1 s2 s3 s4 C1 C2 C3 C4
  have Ho4 := Ho.keep U (fun i _ h => h)
  have E0 := to_r0 H1.out H2.out H3.out H4.out H5.out H6.out H7.out H8.out H9.out H10.out H11.out H12.out H13.out H14.out H15.out H16.out Zy13.out.1 Zy13.out.2
  have E1 := to_r1 H17.out H18.out H19.out H20.out H21.out H22.out H23.out H24.out H25.out H26.out H27.out H28.out H29.out H30.out H31.out H32.out H33.out H34.out H35.out H36.out Zy33.out.1 Zy33.out.2
  have E2 := to_r2 H37.out H38.out H39.out H40.out H41.out H42.out H43.out H44.out H45.out H46.out H47.out H48.out H49.out H50.out H51.out H52.out H53.out H54.out H55.out H56.out Zy53.out.1 Zy53.out.2
  have E3 := to_r3 H57.out H58.out H59.out H60.out H61.out H62.out H63.out H64.out H65.out H66.out H67.out H68.out H69.out H70.out H71.out H72.out H73.out H74.out H75.out H76.out rfl Zy73.out.1 Zy73.out.2
  have F : B4 * val4 x151 x153 x155 (((x156 + (x138 + (x130 + x118))) + x142)) = val4 (rr * a0) (rr * a1) (rr * a2) (rr * a3) + ell * val4 x19 x59 x99 x139 := four_law E0 E1 E2 E3
  rw [to_val] at F
  have Mb := val4_lt Zx19.out.1 Zx19.out.2 Zx59.out.1 Zx59.out.2 Zx99.out.1 Zx99.out.2 Zx139.out.1 Zx139.out.2
  have Ab := val4_lt a0_0 a0_1 a1_0 a1_1 a2_0 a2_1 a3_0 a3_1
  have Sb := to_fin F Ab.1 Ab.2 Mb.1 Mb.2
  have T := sub_law H77.out H78.out H79.out H80.out H81.out Zy81.out.1 Zy81.out.2 Zx165.out.1 Zx165.out.2 Zx167.out.1 Zx167.out.2
  obtain ⟨g1, g2, k, g3⟩ := red_law T Zx167.out.1 Zx167.out.2 Sb.2 Sb.1 Zx158.out.1 Zx158.out.2 Zx160.out.1 Zx160.out.2 Zx162.out.1 Zx162.out.2 Zx164.out.1 Zx164.out.2 R1.out R2.out R3.out R4.out
  have G3 := end_law F g3
  clear E0 E1 E2 E3 F Mb Ab Sb T g3 R1 R2 R3 R4
  clear H1 H2 H3 H4 H5 H6 H7 H8 H9 H10 H11 H12 H13 H14 H15 H16 H17 H18 H19 H20 H21 H22 H23 H24 H25 H26 H27 H28 H29 H30 H31 H32 H33 H34 H35 H36 H37 H38 H39 H40 H41 H42 H43 H44 H45 H46 H47 H48 H49 H50 H51 H52 H53 H54 H55 H56 H57 H58 H59 H60 H61 H62 H63 H64 H65 H66 H67 H68 H69 H70 H71 H72 H73 H74 H75 H76 H77 H78 H79 H80 H81
  obtain ⟨o0, o1, o2, o3, p0, p1, p2, p3⟩ := id Ho4
  go_wp2_with with_reducible (first | refine stop_add ?_ | refine stop_sub ?_)
  refine still_tail 4 (by kernel_rfl) (by kernel_rfl) ?_
  simp only [List.take_succ_cons, List.take_zero, List.drop_succ_cons, List.drop_zero]
  iterate 4 still_step
  refine wpStill_nil ?_
  go_wp2_with with_reducible (first | refine stop_add ?_ | refine stop_sub ?_)
  refine still_tail 4 (by kernel_rfl) (by kernel_rfl) ?_
  simp only [List.take_succ_cons, List.take_zero, List.drop_succ_cons, List.drop_zero]
  iterate 4 still_step
  refine wpStill_nil ?_
  go_wp2_with with_reducible (first | refine stop_add ?_ | refine stop_sub ?_)
  refine still_tail 4 (by kernel_rfl) (by kernel_rfl) ?_
  simp only [List.take_succ_cons, List.take_zero, List.drop_succ_cons, List.drop_zero]
  iterate 4 still_step
  refine wpStill_nil ?_
  go_wp2_with with_reducible (first | refine stop_add ?_ | refine stop_sub ?_)
  refine still_tail 4 (by kernel_rfl) (by kernel_rfl) ?_
  simp only [List.take_succ_cons, List.take_zero, List.drop_succ_cons, List.drop_zero]
  iterate 4 still_step
  refine wpStill_nil ?_
  go_wp2
  go_end0
  refine ⟨rfl, ?_, r0, r1, r2, r3, (((Ho4.drew.set0 r0).drew.set1 r1).drew.set2 r2).drew.set3 r3, ⟨r0_0, r0_1⟩, ⟨r1_0, r1_1⟩, ⟨r2_0, r2_1⟩, ⟨r3_0, r3_1⟩, g1, g2, G3⟩
  exact (((((((((U.wide (fun _ _ _ h => h.elim)).drew).set (fun _ => ⟨rfl, by omega, by omega⟩) _).drew).set (fun _ => ⟨rfl, by omega, by omega⟩) _).drew).set (fun _ => ⟨rfl, by omega, by omega⟩) _).drew).set (fun _ => ⟨rfl, by omega, by omega⟩) _)

end Go.Proofs.YtkibnongmkhbaaaGreatDoor
end
