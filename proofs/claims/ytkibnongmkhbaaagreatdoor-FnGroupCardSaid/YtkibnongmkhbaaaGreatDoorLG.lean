/- Part of the proof that laws.FnGroup returns true for all 32 bytes p, q and x: laws.FnGroup returns true.
   Conditions: those that each theorem states. -/
import Derived.Test.YtkibnongmkhbaaaGreatDoorLB
import Derived.Test.YtkibnongmkhbaaaGreatDoorLC
import Derived.Test.YtkibnongmkhbaaaGreatDoorLD
import Derived.Test.YtkibnongmkhbaaaGreatDoorLE
import Derived.Test.YtkibnongmkhbaaaGreatDoorLF

section
open Go Go.RowKit
namespace Go.Proofs.YtkibnongmkhbaaaGreatDoor
open Ed

/-- the bytes that tell a point of the curve are told again -/
theorem again_p (B : Nat) (p : F × F) (h : On p) (w : World) (hG : Glob B w) (hB : B ≤ w.heap.size) :
    Calls Tryz.prog 6 #[.agg (Arr (encF p.1 p.2))] w fun e w' => e = .returned (.bool true) ∧ Upd w w' FF :=
  again_c B (encF p.1 p.2) (encF_byte _ _) (ok_encF h) (by rw [ptOf_encF h]) w hG hB

/-- laws.FnGroup returns true -/
theorem fnGroup_c (B : Nat) (bp bq bx : Nat → Int) (hbp : ∀ i, Byte (bp i)) (hbq : ∀ i, Byte (bq i)) (hbx : ∀ i, Byte (bx i)) (w : World) (hG : Glob B w) (hB : B ≤ w.heap.size) :
    Calls Tryz.prog 3 #[.agg (Arr bp), .agg (Arr bq), .agg (Arr bx)] w fun e w' => e = .returned (.bool true) ∧ Upd w w' FF := by
  by_cases hop : okOf (yOf bp)
  · have onp := on_ptOf hop
    have k9 := fun b cap w g h hy hc => implSet_ok B b 0 cap (encF pt0.1 pt0.2) bp (encF_byte _ _) hbp on_pt0' hop w g h hy hc
    have k12 := fun b cap w hy hc => specSet_ok b 0 cap (encF pt0.1 pt0.2) bp (encF_byte _ _) hbp on_pt0' hop w hy hc
    have g3 := fun w g h => again_p B (ptOf bp) onp w g h
    by_cases hoq : okOf (yOf bq)
    · have onq := on_ptOf hoq
      have k4 := fun w g h => implAdd_ok B bp bq hbp hbq hop hoq onp onq w g h
      have k5 := fun w => specAdd_ok bp bq hbp hbq hop hoq w
      have g1 := fun w g h => again_p B (add (ptOf bp) (ptOf bq)) (on_add onp onq) w g h
      have eU : ptOf (encF (ptOf bp).1 (ptOf bp).2) = ptOf bp := ptOf_encF onp
      have k4b := fun w g h => implAdd_ok B (encF (ptOf bp).1 (ptOf bp).2) bq (encF_byte _ _) hbq (ok_encF onp) hoq (by rw [eU]; exact onp) onq w g h
      rw [eU] at k4b
      by_cases hox : le bx 0 32 < ell
      · have k7 := fun w g h => implMul_ok B bx bp hbx hbp hox hop onp w g h
        have k8 := fun w => specMul_ok bx bp hbx hbp hox hop w
        have g2 := fun w g h => again_p B (zmul (le bx 0 32) (ptOf bp)) (on_zmul onp _) w g h
        exact fnGroup_ttt B bp bq bx _ _ _ _ k4 k5 k7 k8 k9 k12 g1 g2 g3 k4b w hG hB
      · have k7 := fun w g h => implMul_no B bx bp hbx hbp (fun h => hox h.1) w g h
        have k8 := fun w => specMul_no bx bp hbx hbp (fun h => hox h.1) w
        exact fnGroup_tft B bp bq bx _ _ _ _ k4 k5 k7 k8 k9 k12 g1 g3 k4b w hG hB
    · have k4 := fun w g h => implAdd_no B bp bq hbp hbq (fun h => hoq h.2) w g h
      have k5 := fun w => specAdd_no bp bq hbp hbq (fun h => hoq h.2) w
      by_cases hox : le bx 0 32 < ell
      · have k7 := fun w g h => implMul_ok B bx bp hbx hbp hox hop onp w g h
        have k8 := fun w => specMul_ok bx bp hbx hbp hox hop w
        have g2 := fun w g h => again_p B (zmul (le bx 0 32) (ptOf bp)) (on_zmul onp _) w g h
        exact fnGroup_ftt B bp bq bx _ _ _ _ k4 k5 k7 k8 k9 k12 g2 g3 w hG hB
      · have k7 := fun w g h => implMul_no B bx bp hbx hbp (fun h => hox h.1) w g h
        have k8 := fun w => specMul_no bx bp hbx hbp (fun h => hox h.1) w
        exact fnGroup_fft B bp bq bx _ _ _ _ k4 k5 k7 k8 k9 k12 g3 w hG hB
  · have k4 := fun w g h => implAdd_no B bp bq hbp hbq (fun h => hop h.1) w g h
    have k5 := fun w => specAdd_no bp bq hbp hbq (fun h => hop h.1) w
    have k7 := fun w g h => implMul_no B bx bp hbx hbp (fun h => hop h.2) w g h
    have k8 := fun w => specMul_no bx bp hbx hbp (fun h => hop h.2) w
    have k9 := fun b cap w g h hy hc => implSet_no B b 0 cap (encF pt0.1 pt0.2) bp (encF_byte _ _) hbp on_pt0' hop w g h hy hc
    have k12 := fun b cap w hy hc => specSet_no b 0 cap (encF pt0.1 pt0.2) bp (encF_byte _ _) hbp on_pt0' hop w hy hc
    exact fnGroup_fff B bp bq bx _ _ _ _ k4 k5 k7 k8 k9 k12 w hG hB

end Go.Proofs.YtkibnongmkhbaaaGreatDoor
end
