/- Part of the proof that laws.FnGroup returns true for all 32 bytes p, q and x: SetCanonicalBytes.
   Conditions: those that each theorem states. -/
import Derived.Deep.RegionHeld3
import Derived.Laws.Cover3
import Derived.Test.YtkibnongmkhbaaaGreatDoorSE

section
open Go Go.RowKit
namespace Go.Proofs.YtkibnongmkhbaaaGreatDoor
open Ed

theorem sc_of_bytes {bs : Nat → Int} (hb : ∀ i, Byte (bs i)) : 0 ≤ le bs 0 8 ∧ le bs 0 8 < 18446744073709551616 ∧ 0 ≤ le bs 8 8 ∧ le bs 8 8 < 18446744073709551616 ∧ 0 ≤ le bs 16 8 ∧ le bs 16 8 < 18446744073709551616 ∧ 0 ≤ le bs 24 8 ∧ le bs 24 8 < 18446744073709551616 :=
  ⟨(le8_u64 bs hb 0).1, (le8_u64 bs hb 0).2, (le8_u64 bs hb 8).1, (le8_u64 bs hb 8).2, (le8_u64 bs hb 16).1, (le8_u64 bs hb 16).2, (le8_u64 bs hb 24).1, (le8_u64 bs hb 24).2⟩

set_option maxRecDepth 100000 in
set_option maxHeartbeats 8000000 in
theorem scSet_ok (B sb b cap : Nat) (v0 v1 v2 v3 : Int) (bs : Nat → Int) (hb : ∀ i, Byte (bs i)) (w : World) (hG : Glob B w) (hS : W4 w sb v0 v1 v2 v3) (hBy : By w b 0 32 bs) (_hne : sb ≠ b) (hcap : 32 ≤ cap) (hok : le bs 0 32 < ell) :
    Calls Tryz.prog 45 #[.pointer (some ⟨sb, 0, none⟩), .slice (some ⟨b, 0, none⟩) 32 cap] w fun e w' => e = .returned (.tuple #[.pointer (some ⟨sb, 0, none⟩), .nilIface]) ∧ Upd w w' (Rg sb 0 4) ∧ Sc w' sb (le bs 0 32) := by
  have hlen : (32 : Int) ≤ (cap : Int) := by omega
  have hlb := World.block_lt_of_cell? w _ (hBy 0 (by decide))
  have hls := hS.lt
  go_enter Tryz.func45, Tryz.ntmps45
  go_wp2_with fail
  refine (isRed_c B b 0 cap bs hb _ hG hBy hcap).mono ?_
  rintro e w1 ⟨r, rfl, hw1, hr⟩
  subst w1
  have : r = true := hr.2 hok
  subst this
  clear hr
  have hsl : ∀ w : World, (Instr.arrayAt 22 (.slice (some ⟨b, 0, none⟩) 32 cap)).run Tryz.prog w = .ok (.pointer (some ⟨b, 0, none⟩)) w := fun w => run_arrayAt w 22 5 32 _ 32 cap (by kernel_rfl) (by omega)
  go_wp2_with fail
  go_region_held3 (fun _ => True) (trivial) (first
    | ((try go_simp); go_at_call 76; refine (fromBytes76_c sb b bs hb v0 v1 v2 v3 _ (hBy.keep (Upd.refl w (fun _ _ => False)).drew (fun _ _ h => h)) hS.drew).mono ?_; rintro e w2 ⟨rfl, hU2, hC2⟩))
  have Z := sc_of_bytes hb
  have HZ := Lib.hid Z
  clear Z
  have Hok := Lib.hid hok
  clear hok hsl
  go_wp2_with fail
  go_region_held3 (fun _ => True) (trivial) (first
    | ((try go_simp); go_at_call 77; refine (toMont_c sb sb _ _ _ _ _ _ _ _ HZ.out.1 HZ.out.2.1 HZ.out.2.2.1 HZ.out.2.2.2.1 HZ.out.2.2.2.2.1 HZ.out.2.2.2.2.2.1 HZ.out.2.2.2.2.2.2.1 HZ.out.2.2.2.2.2.2.2 _ hC2.drew hC2.drew).mono ?_; rintro e w3 ⟨rfl, hU3, r0, r1, r2, r3, hR, q0, q1, q2, q3, g0, g1, k, hk⟩))
  rw [← le32_val] at hk
  have Hk := Lib.hid hk
  clear hk g0 g1
  go_wp2
  go_ret2
  have l0 := le_lt bs hb 32 0
  exact ⟨rfl, ((((Upd.refl w (Rg sb 0 4)).drew).trans hU2 (fun _ _ _ h => h)).drew).trans hU3 (fun _ _ _ h => h), r0, r1, r2, r3, hR, q0, q1, q2, q3, l0.1, Hok.out, k, Hk.out⟩

set_option maxRecDepth 100000 in
set_option maxHeartbeats 8000000 in
theorem scSet_no (B sb b cap : Nat) (bs : Nat → Int) (hb : ∀ i, Byte (bs i)) (w : World) (hG : Glob B w) (hBy : By w b 0 32 bs) (hcap : 32 ≤ cap) (hno : ¬ le bs 0 32 < ell) :
    Calls Tryz.prog 45 #[.pointer (some ⟨sb, 0, none⟩), .slice (some ⟨b, 0, none⟩) 32 cap] w fun e w' => ∃ (t : TypeId) (v : Value), e = .returned (.tuple #[.pointer none, .iface t v]) ∧ Upd w w' (fun _ _ => False) := by
  have hlen : (32 : Int) ≤ (cap : Int) := by omega
  go_enter Tryz.func45, Tryz.ntmps45
  go_wp2_with fail
  refine (isRed_c B b 0 cap bs hb _ hG hBy hcap).mono ?_
  rintro e w1 ⟨r, rfl, hw1, hr⟩
  subst w1
  have : r = false := by
    cases r
    · rfl
    · exact absurd (hr.1 rfl) (Int.not_lt.2 hno)
  subst this
  clear hr hno
  go_wp2_with fail
  refine (errNew_c _ _).mono ?_
  rintro e w1 ⟨t, v, rfl, hU⟩
  go_wp2
  go_ret2
  exact ⟨_, _, rfl, hU⟩

set_option maxRecDepth 100000 in
set_option maxHeartbeats 4000000 in
theorem scalarOf_ok (B : Nat) (bs : Nat → Int) (hb : ∀ i, Byte (bs i)) (w : World) (hG : Glob B w) (hok : le bs 0 32 < ell) :
    Calls Tryz.prog 20 #[.agg (Arr bs)] w fun e w' => e = .returned (.tuple #[.pointer (some ⟨w.heap.size + 1, 0, none⟩), .bool true]) ∧ Upd w w' (fun _ _ => False) ∧ Sc w' (w.heap.size + 1) (le bs 0 32) := by
  have A0 := ((Upd.refl w (fun _ _ => False)).alloc (.cells (Arr bs) 22)).drew
  have hG1 := hG.keep A0 (fun _ _ _ h => h)
  have hBy := (By.arr bs w 22).keep ((Upd.refl _ (fun _ _ => False)).drew) (fun _ _ h => h)
  go_enter Tryz.func20, Tryz.ntmps20
  go_wp2_with fail
  go_region_held3 (fun _ => True) (trivial) (first
    | ((try go_simp); go_at_call 44; refine (newSc_c _).mono ?_; rintro e w1 ⟨rfl, hU, hE⟩; have sz := hU.size; simp only [World.size_alloc, World.size_drew] at hE sz)
    | ((try go_simp); go_at_call 45; refine (scSet_ok B (w.heap.size + 1) w.heap.size 32 _ _ _ _ bs hb _ (hG1.keep hU (fun _ _ _ h => h)) hE (hBy.keep hU (fun _ _ h => h)) (by omega) (by omega) hok).mono ?_; rintro e w2 ⟨rfl, hU2, hE2⟩))
  go_wp2
  refine still_all (by kernel_rfl) (by kernel_rfl) ?_
  repeat still_step
  refine wpStill_nil ?_
  go_wp2
  go_ret2
  have HA := ((A0.trans hU (fun _ _ _ h => h)).trans hU2 (fun b o hb h => absurd h.1 (by omega)))
  exact ⟨rfl, HA.drew, hE2.keep (Upd.refl _ (fun _ _ => False)).drew (fun _ _ h => h)⟩

set_option maxRecDepth 100000 in
set_option maxHeartbeats 4000000 in
theorem scalarOf_no (B : Nat) (bs : Nat → Int) (hb : ∀ i, Byte (bs i)) (w : World) (hG : Glob B w) (hno : ¬ le bs 0 32 < ell) :
    Calls Tryz.prog 20 #[.agg (Arr bs)] w fun e w' => e = .returned (.tuple #[.pointer none, .bool false]) ∧ Upd w w' (fun _ _ => False) := by
  have A0 := ((Upd.refl w (fun _ _ => False)).alloc (.cells (Arr bs) 22)).drew
  have hG1 := hG.keep A0 (fun _ _ _ h => h)
  have hBy := (By.arr bs w 22).keep ((Upd.refl _ (fun _ _ => False)).drew) (fun _ _ h => h)
  go_enter Tryz.func20, Tryz.ntmps20
  go_wp2_with fail
  go_region_held3 (fun _ => True) (trivial) (first
    | ((try go_simp); go_at_call 44; refine (newSc_c _).mono ?_; rintro e w1 ⟨rfl, hU, hE⟩; have sz := hU.size; simp only [World.size_alloc, World.size_drew] at hE sz)
    | ((try go_simp); go_at_call 45; refine (scSet_no B (w.heap.size + 1) w.heap.size 32 bs hb _ (hG1.keep hU (fun _ _ _ h => h)) (hBy.keep hU (fun _ _ h => h)) (by omega) (Int.not_lt.2 hno)).mono ?_; rintro e w2 ⟨t, v, rfl, hU2⟩))
  go_wp2
  refine still_all (by kernel_rfl) (by kernel_rfl) ?_
  repeat still_step
  refine wpStill_nil ?_
  go_wp2
  go_ret2
  have HA := ((A0.trans hU (fun _ _ _ h => h)).trans hU2 (fun b o hb h => absurd h (by exact fun h => h)))
  exact ⟨rfl, HA.drew⟩

end Go.Proofs.YtkibnongmkhbaaaGreatDoor
end
