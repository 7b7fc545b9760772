/- Part of the proof that laws.FnGroup returns true for all 32 bytes p, q and x: copying a field element's bytes.
   Conditions: those that each theorem states. -/
import Derived.Deep.RegionHeld3
import Derived.Laws.IdiomCopy
import Derived.Test.YtkibnongmkhbaaaGreatDoorAK

section
open Go Go.RowKit
namespace Go.Proofs.YtkibnongmkhbaaaGreatDoor
open Ed

theorem und29 : Tryz.prog.underlying 29 = some (.slice 5) := by kernel_rfl
theorem size5 : (Tryz.prog.info? 5).map (·.size) = some 1 := by kernel_rfl

theorem run_copy_by (w : World) (ty : TypeId) (db od sb os dCap sCap n : Nat) (bs : Nat → Int) (hB : By w sb os n bs) (hW : Wy w db od n) :
    ∃ w', (Builtin.copy_ #[29, 29] ty #[.slice (some ⟨db, od, none⟩) n dCap, .slice (some ⟨sb, os, none⟩) n sCap]).run Tryz.prog w = .ok (goInt n) w' ∧ Upd w w' (Rg db od n) ∧ By w' db od n bs ∧ Wy w' db od n := by
  have hl : ((List.range n).map fun i => Value.int .u8 (bs i)).length = n := by simp
  have hc : ∀ j, j < n → (w.cell? ⟨db, od + j, none⟩).isSome = true := fun j hj => by obtain ⟨⟨v, hv⟩, _⟩ := hW j hj; rw [hv]; rfl
  have hf : ∀ j, j < n → w.frozen? ⟨db, od + j, none⟩ = false := fun j hj => (hW j hj).2
  have hr := run_copy_cells (P := Tryz.prog) w 29 29 ty 5 db od n dCap ⟨sb, os, none⟩ n sCap ((List.range n).map fun i => Value.int .u8 (bs i)) und29 size5 (by rw [hl]; simp)
    (fun j v hv => by
      have hj : j < n := by simpa using (List.getElem?_eq_some_iff.1 hv).1
      rw [Addr.add_mid]
      rw [List.getElem?_map, List.getElem?_range hj] at hv
      simp only [Option.map_some, Option.some.injEq] at hv
      rw [← hv]; exact hB j hj) (by rw [hl]; exact hc) (by rw [hl]; exact hf) (fun v hv => by
      obtain ⟨i, _, rfl⟩ := List.mem_map.1 hv; rfl)
  rw [hl] at hr
  have hB' : By (w.setCells db od ((List.range n).map fun i => Value.int .u8 (bs i))) db od n bs := by
    intro i hi
    rw [World.cell?_setCells_in db _ od w (by rw [hl]; exact hc) i (by rw [hl]; exact hi)]
    simp
  refine ⟨_, hr, (Upd.refl w _).cells db _ od (fun i hi _ => ⟨rfl, by omega, by rw [hl] at hi; omega⟩), hB', fun i hi => ⟨⟨_, hB' i hi⟩, ?_⟩⟩
  rw [World.frozen?_setCells]
  exact hf i hi

theorem step_copy_by {ops : Array Oper} {o : Oper} {a : Act} {w : World} {K : Act → World → Prop} {Q : Exit → Act → World → Prop} {E : Prop} (hgd : o.guard = none) (d s : Operand)
    (ho : o.op = .call { callee := .builtin .copy, args := #[d, s], argTypes := #[29, 29] }) (db od sb os dCap sCap n : Nat) (hd : a.eval d = .slice (some ⟨db, od, none⟩) n dCap) (hs : a.eval s = .slice (some ⟨sb, os, none⟩) n sCap)
    (bs : Nat → Int) (hB : By w sb os n bs) (hW : Wy w db od n) (h : ∀ w', Upd w w' (Rg db od n) → By w' db od n bs → Wy w' db od n → K (a.put o.dst (goInt n)) w') :
    if Region.wanted o (yielded ops a.tmps) = true then Oper.wp Tryz.prog o a w K Q else E := by
  have hw : Region.wanted o (yielded ops a.tmps) = true := by simp [Region.wanted, hgd]
  rw [if_pos hw]
  obtain ⟨w', hr, hU, hB', hW'⟩ := run_copy_by w o.type db od sb os dCap sCap n bs hB hW
  unfold Oper.wp execOp
  simp only [ho, resolve, invoke, builtin, Sem.run_bind, Sem.run_pure, Result.andThen_ok, List.map_toArray, List.map_cons, List.map_nil, hd, hs, hr]
  exact h _ hU hB' hW'

theorem wpList_copy_by {ops : Array Oper} {rest : List Oper} {o : Oper} {a : Act} {w : World} {Q : Exit → Act → World → Prop} (hgd : o.guard = none) (d s : Operand)
    (ho : o.op = .call { callee := .builtin .copy, args := #[d, s], argTypes := #[29, 29] }) (db od sb os dCap sCap n : Nat) (hd : a.eval d = .slice (some ⟨db, od, none⟩) n dCap) (hs : a.eval s = .slice (some ⟨sb, os, none⟩) n sCap)
    (bs : Nat → Int) (hB : By w sb os n bs) (hW : Wy w db od n) (h : ∀ w', Upd w w' (Rg db od n) → By w' db od n bs → Wy w' db od n → wpList Tryz.prog ops Q rest (a.put o.dst (goInt n)) w') :
    wpList Tryz.prog ops Q (o :: rest) a w := by
  obtain ⟨w', hr, hU, hB', hW'⟩ := run_copy_by w o.type db od sb os dCap sCap n bs hB hW
  refine wpList_plain hgd fun K hK => ?_
  unfold Oper.wp execOp
  simp only [ho, resolve, invoke, builtin, Sem.run_bind, Sem.run_pure, Result.andThen_ok, List.map_toArray, List.map_cons, List.map_nil, hd, hs, hr]
  exact hK _ _ (h _ hU hB' hW')

set_option maxRecDepth 100000 in
set_option maxHeartbeats 4000000 in
theorem copyFe_c (ob oo ab ao : Nat) (X : F) (w : World) (hX : ElR w ab ao X) (hW : Wy w ob oo 32) :
    Calls Tryz.prog 93 #[.pointer (some ⟨ob, oo, none⟩), .pointer (some ⟨ab, ao, none⟩)] w fun e w' => e = .returned (.slice (some ⟨ob, oo, none⟩) 32 32) ∧ Upd w w' (Rg ob oo 32) ∧ By w' ob oo 32 (byteOf X.val) ∧ Wy w' ob oo 32 := by
  have hl := hX.lt
  have hlo := hW.lt (by decide)
  go_enter Tryz.func93, Tryz.ntmps93
  go_wp2_with fail
  go_region_held3 (fun _ => True) (trivial) (first
    | ((try go_simp); go_at_call 110; refine (bytes110_c ab ao X _ (hX.keep (Upd.refl w (fun _ _ => False)).drew (fun _ _ h => h))).mono ?_; rintro e w1 ⟨rfl, hU, hBy, _⟩; simp only [World.size_drew] at hBy)
    | (refine step_copy_by rfl _ _ rfl ob oo w.heap.size 0 32 32 32 (by rfl) (by rfl) _ hBy ((hW.keep (Upd.refl w (fun _ _ => False)).drew (fun _ _ h => h)).keep hU (fun _ _ h => h)) ?_; intro w2 hU2 hB2 hW2))
  go_wp2
  go_ret
  exact ⟨rfl, ((Upd.refl w _).drew.trans hU (fun _ _ _ h => h.elim)).trans hU2 (fun _ _ _ h => h), hB2, hW2⟩

end Go.Proofs.YtkibnongmkhbaaaGreatDoor
end
