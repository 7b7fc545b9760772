/- Part of the proof that laws.FnGroup returns true for all 32 bytes p, q and x: the arguments and the listed variables read as the walk asks.
   Conditions: those that each theorem states. -/
import Derived.Test.YtkibnongmkhbaaaGreatDoorRows
import Derived.Test.YtkibnongmkhbaaaGreatDoorLG
import Derived.ProofKit
import Derived.LaidMore
import Derived.OpenShut
import Derived.Stop.Joined
import Derived.Deep.Fields
import Derived.OpenVars

section
open Go Go.RowKit
namespace Go.Proofs.YtkibnongmkhbaaaGreatDoor
open Go.ChangeShapes Go.WideShapes Go.ChangeAt Go.WideMaps Go.WideElems Go.Deep

theorem cells22 : Tryz.prog.cellsOf 22 = 32 := by kernel_rfl
theorem cells5 : Tryz.prog.cellsOf 5 = 1 := by kernel_rfl
theorem cells40 : Tryz.prog.cellsOf 40 = 5 := by kernel_rfl

section
variable {H : Type} {enc : TypeId × Value → H} {W : World} {base : Nat} {sp : Nat → Bool} {held : Bool}

/-- what an array of 32 bytes reads as: its cells are bytes -/
theorem arr_cells {fuel : Nat} {cs : List Value} {d : DataW H} {p : List MemPlace} (h : DataW.trod enc Tryz.prog W base sp held fuel 22 cs = some (d, p)) :
    ∃ L : List (DataW H), d = .agg L ∧ L.length = 32 ∧ cs.length = 32 ∧ p = [] ∧ ∀ i, i < 32 → ∃ n : Int, cs[i]? = some (.int .u8 n) ∧ L[i]? = some (.lit (.int .u8 n)) ∧ 0 ≤ n ∧ n < 256 := by
  obtain ⟨xs, m, rfl, hx, hlen, hxl, hel⟩ := DataW.trod_array Tryz.underlying22 h
  rw [cells22] at hlen
  rw [cells5] at hel
  have key : ∀ i, i < 32 → ∃ n : Int, cs[i]? = some (.int .u8 n) ∧ xs[i]? = some (.lit (.int .u8 n), []) ∧ 0 ≤ n ∧ n < 256 := fun i hi => by
    have h1 := hel i hi
    rw [Nat.mul_one, List.drop_eq_getElem_cons (by omega), List.take_succ_cons, List.take_zero, List.getElem?_eq_getElem (by omega)] at h1
    obtain ⟨n, e1, e2, hw⟩ := DataW.trod_int Tryz.underlying5 h1
    simp only [List.cons.injEq, and_true] at e1
    have hw2 := bounds_u8 hw
    refine ⟨n, by rw [List.getElem?_eq_getElem (by omega), e1], by rw [List.getElem?_eq_getElem (by omega), e2], hw2.1, by omega⟩
  simp only [Prod.mk.injEq] at hx
  refine ⟨xs.map (·.1), hx.1, by simpa using hxl, hlen, ?_, fun i hi => ?_⟩
  · rw [hx.2, List.flatMap_eq_nil_iff]
    intro x hm
    obtain ⟨i, hi, rfl⟩ := List.getElem_of_mem hm
    obtain ⟨n, _, h2, _⟩ := key i (by omega)
    rw [List.getElem?_eq_getElem hi] at h2
    rw [Option.some.inj h2]
  · obtain ⟨n, h1, h2, h3⟩ := key i hi
    exact ⟨n, h1, by rw [List.getElem?_map, h2]; rfl, h3⟩

set_option maxRecDepth 100000 in
theorem okWide_arrO {P : Program} {r : Reach} {b0 n : Nat} {t e : TypeId} {v : Value} (ht : P.underlying t = some (.array n e)) (hv : Value.okWide P W r b0 t v) : ∃ cs, v = .agg cs ∧ cs.size = P.cellsOf t := by
  unfold Value.okWide at hv
  rw [ht] at hv
  obtain ⟨cs, h1, h2, _⟩ := hv
  exact ⟨cs, h1, h2⟩
set_option maxRecDepth 100000 in
/-- an argument of 32 bytes, opened -/
theorem open_arr22 {r : Reach} {b0 : Nat} {v : Value} {d : DataW H} {p : List MemPlace} (hv : Value.okWide Tryz.prog W r b0 22 v) (h : DataW.Trod enc Tryz.prog W base sp held 22 v d p) :
    ∃ bs : Nat → Int, (∀ i, Byte (bs i)) ∧ v = .agg (Arr bs) ∧ p = [] := by
  have hv2 := okWide_arrO (P := Tryz.prog) (t := 22) (n := 32) (e := 5) Tryz.underlying22 hv
  obtain ⟨cs, rfl, hsz⟩ := hv2
  obtain ⟨fuel, hf⟩ := h
  obtain ⟨L, _, _, hlen, hp, hk⟩ := arr_cells hf
  have hk' : ∀ i, i < 32 → ∃ n : Int, cs[i]? = some (.int .u8 n) ∧ 0 ≤ n ∧ n < 256 := fun i hi => by
    obtain ⟨n, h1, _, h2⟩ := hk i hi
    exact ⟨n, by rw [← Array.getElem?_toList]; exact h1, h2⟩
  clear hk hf
  refine ⟨fun i => match cs[i]? with | some (.int _ n) => if i < 32 then n else 0 | _ => 0, fun i => ?_, ?_, hp⟩
  · by_cases hi : i < 32
    · obtain ⟨n, h1, h2⟩ := hk' i hi
      simp only [h1, if_pos hi]
      exact h2
    · dsimp only
      split
      · rw [if_neg hi]; exact ⟨by decide, by decide⟩
      · exact ⟨by decide, by decide⟩
  · congr 1
    have hs : cs.size = 32 := by rw [hsz]; exact cells22
    refine Array.ext (by rw [hs, Arr_eq, ArrL_size]) fun i h1 h2 => ?_
    obtain ⟨n, e1, _⟩ := hk' i (by omega)
    have e2 : cs[i] = .int .u8 n := by
      rw [Array.getElem?_eq_getElem h1] at e1
      exact Option.some.inj e1
    rw [e2]
    apply Option.some.inj
    rw [← Array.getElem?_eq_getElem h2]
    unfold Arr
    rw [List.getElem?_toArray, List.getElem?_map, List.getElem?_range (by omega)]
    simp only [Option.map_some, e1, if_pos (show i < 32 by omega)]

/-- a pointer to an element of the field, as listed -/
theorem ptr5 {fuel : Nat} {cs : List Value} {l0 l1 l2 l3 l4 : Int} {p : List MemPlace} (h : DataW.trod enc Tryz.prog W base sp held fuel 104 cs = some (.ptr (.agg [.lit (.int .u64 l0), .lit (.int .u64 l1), .lit (.int .u64 l2), .lit (.int .u64 l3), .lit (.int .u64 l4)]), p)) :
    ∃ b o, cs = [.pointer (some ⟨b, o, none⟩)] ∧ R5 W b o l0 l1 l2 l3 l4 := by
  rcases open_ptr_fields Tryz.underlying104 Tryz.underlying40 (hone_of (by kernel_rfl)) (by kernel_rfl) (by decide) h with ⟨_, hx⟩ | ⟨b, o, n, V, Y, hcs, _, hx, hf⟩
  · simp at hx
  · simp only [List.size_toArray, List.length_cons, List.length_nil, Nat.zero_add, Nat.reduceAdd, Prod.mk.injEq, DataW.ptr.injEq, DataW.agg.injEq, List.range_succ, List.range_zero, List.map_cons, List.map_nil, List.nil_append, List.cons_append, List.cons.injEq, and_true] at hx
    obtain ⟨⟨y0, y1, y2, y3, y4⟩, _⟩ := hx
    have get : ∀ (i : Nat) (l : Int), (W.cell? ⟨b, o + i, none⟩ = some (V i) ∧ DataW.trod enc Tryz.prog W base sp held n 38 [V i] = some (Y i)) → (Y i).1 = .lit (.int .u64 l) → W.cell? ⟨b, o + i, none⟩ = some (.int .u64 l) := fun i l ⟨hc, hd⟩ hy => by
      obtain ⟨n, e1, e2, _⟩ := DataW.trod_int Tryz.underlying38 hd
      rw [e2] at hy
      simp only [List.cons.injEq, and_true] at e1
      simp only [DataW.lit.injEq, Lit.int.injEq, true_and] at hy
      rw [hc, e1, hy]
    exact ⟨b, o, hcs, get 0 _ (hf 0 _ rfl) y0.symm, get 1 _ (hf 1 _ rfl) y1.symm, get 2 _ (hf 2 _ rfl) y2.symm, get 3 _ (hf 3 _ rfl) y3.symm, get 4 _ (hf 4 _ rfl) y4.symm⟩

theorem trodVars_length {P : Program} {w : World} : ∀ {ns : List String} {gs : List (DataW H)} {ps : List MemPlace}, DataW.TrodVars enc P w sp ns gs ps → gs.length = ns.length
  | [], [], _, _ => rfl
  | [], _ :: _, _, h => h.elim
  | _ :: _, [], _, h => h.elim
  | _ :: _, _ :: _, _, h => by
    obtain ⟨_, _, _, _, _, _, _, _, _, _, hs, _⟩ := h
    simp [trodVars_length hs]
end

theorem gName0 : Tryz.prog.globalNamed "loop.example/pub-g03349/pub/field.sqrtM1" = some 0 := by kernel_rfl
theorem gName1 : Tryz.prog.globalNamed "loop.example/pub-g03349/pub/field.feZero" = some 1 := by kernel_rfl
theorem gName2 : Tryz.prog.globalNamed "loop.example/pub-g03349/pub/field.feOne" = some 2 := by kernel_rfl
theorem gName3 : Tryz.prog.globalNamed "loop.example/pub-g03349/pub/edwards25519.scalarMinusOneBytes" = some 3 := by kernel_rfl
theorem gType0 : (Tryz.prog.globals[0]?).map (·.type) = some 104 := by kernel_rfl
theorem gType1 : (Tryz.prog.globals[1]?).map (·.type) = some 104 := by kernel_rfl
theorem gType2 : (Tryz.prog.globals[2]?).map (·.type) = some 104 := by kernel_rfl
theorem gType3 : (Tryz.prog.globals[3]?).map (·.type) = some 22 := by kernel_rfl

/-- what is listed is what the walks ask of the package-level variables -/
theorem glob_of_laid {W : World} (h : laidMetH Tryz.prog Rows.fnGroupRow.laid W) : Glob W.heap.size W := by
  rw [MakeChecks.laidMetH_plain _ _ _ (by kernel_rfl)] at h
  obtain ⟨ps, ⟨g0, t0, cs0, f0, p0, q0, hg0, ht0, hv0, hd0, ⟨g1, t1, cs1, f1, p1, q1, hg1, ht1, hv1, hd1, ⟨g2, t2, cs2, f2, p2, q2, hg2, ht2, hv2, hd2, ⟨g3, t3, cs3, f3, p3, q3, hg3, ht3, hv3, hd3, _, _⟩, _⟩, _⟩, _⟩, _, _⟩ := h
  obtain rfl := Option.some.inj (gName1.symm.trans hg0)
  obtain rfl := Option.some.inj (gName2.symm.trans hg1)
  obtain rfl := Option.some.inj (gName0.symm.trans hg2)
  obtain rfl := Option.some.inj (gName3.symm.trans hg3)
  obtain rfl := Option.some.inj (gType1.symm.trans ht0)
  obtain rfl := Option.some.inj (gType2.symm.trans ht1)
  obtain rfl := Option.some.inj (gType0.symm.trans ht2)
  obtain rfl := Option.some.inj (gType3.symm.trans ht3)
  obtain ⟨zb, zo, ez, rz⟩ := ptr5 hd0
  obtain ⟨ob, oo, eo, ro⟩ := ptr5 hd1
  obtain ⟨sb, so, es, rs⟩ := ptr5 hd2
  obtain ⟨L, eL, _, hlen, _, hk⟩ := arr_cells hd3
  have c0 : W.cell? ⟨1, 0, none⟩ = some (.pointer (some ⟨zb, zo, none⟩)) := by
    rw [World.var?_cell hg0 hv0 0, ← Array.getElem?_toList, ez]; rfl
  have c1 : W.cell? ⟨2, 0, none⟩ = some (.pointer (some ⟨ob, oo, none⟩)) := by
    rw [World.var?_cell hg1 hv1 0, ← Array.getElem?_toList, eo]; rfl
  have c2 : W.cell? ⟨0, 0, none⟩ = some (.pointer (some ⟨sb, so, none⟩)) := by
    rw [World.var?_cell hg2 hv2 0, ← Array.getElem?_toList, es]; rfl
  have eL' : L = mbytes.map fun n => DataW.lit (.int .u8 n) := by
    have : DataW.agg L = (DataW.agg (mbytes.map fun n => DataW.lit (.int .u8 n)) : DataW Unit) := eL.symm
    simpa using this
  have c3 : ∀ i, i < 32 → W.cell? ⟨3, i, none⟩ = some (.int .u8 (mbytes.getD i 0)) := fun i hi => by
    obtain ⟨n, h1, h2, _⟩ := hk i hi
    rw [World.var?_cell hg3 hv3 i, ← Array.getElem?_toList, h1]
    rw [eL', List.getElem?_map] at h2
    have hm : i < mbytes.length := hi
    rw [List.getElem?_eq_getElem hm] at h2
    simp only [Option.map_some, Option.some.injEq, DataW.lit.injEq, Lit.int.injEq, true_and] at h2
    rw [List.getD_eq_getElem?_getD, List.getElem?_eq_getElem hm, Option.getD_some, h2]
  exact ⟨zb, zo, ob, oo, sb, so, World.block_lt_of_cell? W _ (c3 0 (by decide)), rz.lt, ro.lt, rs.lt, c0, c1, c2, rz, ro, rs, c3⟩

end Go.Proofs.YtkibnongmkhbaaaGreatDoor
end
