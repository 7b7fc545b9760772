/-
  laws.FnGroup returns true for all 32 bytes p, q and x, and leaves its arguments and the listed package-level variables as they were.
  Conditions: none but the row's own: when the call begins the four listed variables (field.feZero, field.feOne, field.sqrtM1, edwards25519.scalarMinusOneBytes) hold what the program's own initialisers lay; the card ties them to the program's text.
-/
import Derived.Test.YtkibnongmkhbaaaGreatDoorCards
import Derived.Test.YtkibnongmkhbaaaGreatDoorTie
import Derived.Test.YtkibnongmkhbaaaGreatDoorCA
import Derived.SevenTiedAt

section
namespace Go.Proofs.YtkibnongmkhbaaaGreatDoor
open Go Go.RowKit Go.ChangeShapes Go.WideShapes Go.ChangeAt Go.WideMaps Go.WideElems

theorem ownT : ownKnob Tryz.prog.godebug = none := by kernel_rfl
theorem rowed22 : Tryz.prog.readableRec 22 = true := by kernel_rfl
theorem varsR : varsRowed Tryz.prog Rows.fnGroupSpec.vars = true := by kernel_rfl
theorem laidOutT : laidOutB Tryz.prog = true := by kernel_rfl

/-- the heap that the program's own initialisers leave meets the condition -/
theorem door_met (os : Os) (args : Array Value) : laidMetH Tryz.prog Rows.fnGroupRow.laid ((World.doorLaid Tryz.prog 32 os).forCall (fun _ _ => 0) ⟨#[], args, []⟩).memory :=
  laidMetH_of_parts3 (fuel := 8) (laidMet_of_run' 8 (by kernel_rfl) (by kernel_rfl)) (by kernel_rfl) (by kernel_rfl)

theorem Upd.belowFF {w w' : World} (h : Upd w w' FF) : Below w.heap.size w w' := ⟨h.os, h.tape, h.output, h.size, fun k hk => h.block k hk (fun _ h => h)⟩

set_option maxRecDepth 100000 in
theorem lifted (os : Os) (started : os.Started) (H : Type) (enc : TypeId × Value → H) :
    ReturnsInHanded {} Tryz.checked os 3 .any (fun w args => (Rows.fnGroupSpec.pre enc Tryz.prog Tryz.f3 [] false w args ∧ laidMetH Tryz.prog Rows.fnGroupRow.laid w) ∧ sizedMet enc Tryz.prog Tryz.f3 (OpenSpec.ofChange Rows.fnGroupSpec) false w args)
      (Rows.fnGroupSpec.post enc Tryz.prog Tryz.f3 false true false false) := by
  refine returnsInHanded_of_change_and (C := Tryz.checked) (X := fun w _ => laidMetH Tryz.prog Rows.fnGroupRow.laid w) (fun _ _ _ hh h => h.of_heap hh) ownT started (by kernel_rfl) Tryz.func3
    (ChangeSpec.witness_shaped (enc := enc) (C := Tryz.checked) (os := os) (X := fun w _ => laidMetH Tryz.prog Rows.fnGroupRow.laid w) false (World.doorLaid Tryz.prog 32 os) #[.agg (Array.replicate 32 (.int .u8 0)), .agg (Array.replicate 32 (.int .u8 0)), .agg (Array.replicate 32 (.int .u8 0))] 8 rfl (World.shaped_of_RefB (by kernel_rfl) (by kernel_rfl)) (by kernel_rfl) (by kernel_rfl) (by kernel_rfl) (door_met os _)) ?_
  intro W base args ds gs before hval0 hW _ _ hL _
  have hval : ∀ (j : Nat) t v, Tryz.f3.params[j]? = some t → args[j]? = some v → Value.okWide Tryz.prog W .any base t v := hval0
  have hW' := hW
  obtain ⟨p, q, hA0, hV, rfl, hfz, hnd⟩ := hW
  have hA : DataW.TrodAll enc Tryz.prog W 0 (fun _ => true) true Tryz.f3.params.toList args.toList ds p := hA0
  rw [Tryz.params3] at hA hval
  obtain ⟨v0, v1, v2, d0, d1, d2, p0, p1, p2, rfl, rfl, rfl, h0, h1, h2⟩ := trodAll_three hA
  obtain ⟨bp, hbp, rfl, rfl⟩ := open_arr22 (hval 0 22 v0 rfl rfl) h0
  obtain ⟨bq, hbq, rfl, rfl⟩ := open_arr22 (hval 1 22 v1 rfl rfl) h1
  obtain ⟨bx, hbx, rfl, rfl⟩ := open_arr22 (hval 2 22 v2 rfl rfl) h2
  obtain ⟨g1, g2, g3, g4, rfl⟩ : ∃ g1 g2 g3 g4, gs = [g1, g2, g3, g4] := by
    have hl := trodVars_length hV
    match gs, hl with
    | [a, b, c, d], _ => exact ⟨a, b, c, d, rfl⟩
  refine (fnGroup_c W.heap.size bp bq bx hbp hbq hbx W (glob_of_laid hL) (Nat.le_refl _)).mono fun e W' ⟨he, hU⟩ => ?_
  subst he
  have hb := hU.belowFF
  refine ⟨_, rfl, [d0, d1, d2], [g1, g2, g3, g4], _, [], [], q, hW', ?_, ?_, ?_, hb.frame _, fun h => by cases h⟩
  · exact trodAll_mk1 (shut_bool Tryz.underlying4 true)
  · have k := fun (v : Value) (d : DataW H) (h : DataW.Trod enc Tryz.prog W 0 (fun _ => true) true 22 v d []) => Below.trod laidOutT rowed22 (of_decide_eq_true (by kernel_rfl)) h hb (fun x hx => by cases hx)
    exact trodAll_mk3 (k _ _ h0) (k _ _ h1) (k _ _ h2)
  · exact Below.trodVars laidOutT hb varsR hV

theorem fnGroup_holds : Rows.FnGroupSaid :=
  OpenClaim.holds_of_wide 3 Tryz.f3 rfl rfl rfl rfl rfl rfl rfl ⟨rfl, rfl, rfl, rfl, rfl⟩ rfl rfl rfl rfl rfl (by kernel_rfl) Tryz.func3 (by kernel_rfl)
    (of_decide_eq_true (by kernel_rfl)) (by unfold Func.isWrapper; first | (rw [if_pos (by decide +kernel)]; kernel_rfl) | (rw [if_neg (by decide +kernel)]; exact ⟨rfl, rfl⟩))
    (fun os started H enc _ => lifted os started H enc)

end Go.Proofs.YtkibnongmkhbaaaGreatDoor
end

section
namespace Go.Proofs.YtkibnongmkhbaaaGreatDoor
open Go

theorem fnGroup_card : Rows.FnGroupCardSaid :=
  Claim7.holds_tied_plain_at .later [] [.widerDeep, .widerDeep, .widerDeep, .widerDeep] true (true, "fb57b7392007afb45b9e79c7c9c455b55a61917c2406f08c6649f5b9dae3ca17") false
    fnGroup_holds (fun _ h => by cases h) (by kernel_rfl) (fun _ h => by cases h) fnGroup_row_tie rfl ⟨rfl, rfl⟩ (by kernel_rfl) rfl
    (fun f fn hf hfn => by
      obtain rfl : f = 3 := Option.some.inj ((show Tryz.prog.funcNamed "loop.example/pub-g03349/laws.FnGroup" = some 3 by kernel_rfl).symm.trans hf) |>.symm
      obtain rfl : fn = Tryz.f3 := (Option.some.inj (Tryz.func3.symm.trans hfn)).symm
      exact ⟨by kernel_rfl, fun j t ht => by
        rw [Tryz.params3] at ht
        have h3 : t = 22 := by
          rcases j with _ | _ | _ | j
          · simpa using ht.symm
          · simpa using ht.symm
          · simpa using ht.symm
          · simp at ht
        subst h3
        exact (show Tryz.prog.wantsStandIn 22 = false by kernel_rfl)⟩)
    (by kernel_rfl)

end Go.Proofs.YtkibnongmkhbaaaGreatDoor
end
