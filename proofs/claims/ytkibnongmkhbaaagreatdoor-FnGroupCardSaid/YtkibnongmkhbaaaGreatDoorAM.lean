/- Part of the proof that laws.FnGroup returns true for all 32 bytes p, q and x: Point.Bytes.
   Conditions: those that each theorem states. -/
import Derived.Deep.RegionHeld3
import Derived.Deep.RegionLaw
import Derived.Test.YtkibnongmkhbaaaGreatDoorAL

section
open Go Go.RowKit
namespace Go.Proofs.YtkibnongmkhbaaaGreatDoor
open Ed

/-- the inverse as the code reckons it -/
def invF (X : F) : F := fpow X 57896044618658097711785492504343953926634992332820282019728792003956564819947
/-- the bytes that tell (x, y) -/
def encF (x y : F) (i : Nat) : Int := if i = 31 then byteOf y.val 31 + 128 * ((x.val : Int) % 2) else byteOf y.val i

theorem or128 (a b : Int) (ha : 0 ≤ a) (ha' : a < 128) (hb : b = 0 ∨ b = 1) : bits .or .u8 a (128 * b) = a + 128 * b := by
  have : ∀ x : Fin 128, bits .or .u8 (x.val : Int) 0 = x.val + 0 ∧ bits .or .u8 (x.val : Int) 128 = x.val + 128 := by decide +kernel
  have h := this ⟨a.toNat, by omega⟩
  have e : ((a.toNat : Nat) : Int) = a := by omega
  rcases hb with rfl | rfl
  · have := h.1; simp only [e] at this; exact this
  · have := h.2; simp only [e] at this; exact this

theorem pt_list1 (w : World) (pb po : Nat) : (w.alloc (.cells #[.pointer (some ⟨pb, po, none⟩)] 32)).cell? ⟨w.heap.size, 0 + 0, none⟩ = some (.pointer (some ⟨pb, po, none⟩)) := by
  rw [Nat.add_zero, World.cell?_alloc_new]; rfl

theorem Live.keep {w w' : World} {S : Nat → Nat → Prop} {b o : Nat} (hu : Upd w w' S) (h : Live w b o) (hn : ∀ i, i < 10 → ¬ S b (o + i)) : Live w' b o := by
  obtain ⟨x0, x1, x2, x3, x4, y0, y1, y2, y3, y4, hx, hy, r⟩ := h
  exact ⟨x0, x1, x2, x3, x4, y0, y1, y2, y3, y4, hx.keep hu (fun i hi => hn i (by omega)), hy.keep hu (fun i hi => by rw [Nat.add_assoc]; exact hn _ (by omega)), r⟩

set_option maxRecDepth 100000 in
set_option maxHeartbeats 8000000 in
theorem bytes69_c (ob oo pb po : Nat) (X Y Z T : F) (w : World) (hP : Pt w pb po X Y Z T) (hn : ¬ (X = 0 ∧ Y = 0)) (hW : Wy w ob oo 32) (_hne : pb ≠ ob) :
    Calls Tryz.prog 69 #[.pointer (some ⟨pb, po, none⟩), .pointer (some ⟨ob, oo, none⟩)] w fun e w' => e = .returned (.slice (some ⟨ob, oo, none⟩) 32 32) ∧ Upd w w' (Rg ob oo 32) ∧ By w' ob oo 32 (encF (X * invF Z) (Y * invF Z)) := by
  have hlo := hW.lt (by decide)
  have hlp := hP.lt
  have A0 := (Upd.refl w (fun _ _ => False)).alloc (.cells #[.pointer (some ⟨pb, po, none⟩)] 32)
  have hL := (hP.live hn).keep A0 (fun _ _ h => h)
  have A1 := ((A0.alloc (.cells #[.int .u64 0, .int .u64 0, .int .u64 0, .int .u64 0, .int .u64 0] 40)).alloc (.cells #[.int .u64 0, .int .u64 0, .int .u64 0, .int .u64 0, .int .u64 0] 40)).alloc (.cells #[.int .u64 0, .int .u64 0, .int .u64 0, .int .u64 0, .int .u64 0] 40)
  have hP1 := hP.keep A1 (fun _ _ h => h)
  have hW1 := hW.keep A1 (fun _ _ h => h)
  have e0 := El.zero (w.alloc (.cells #[.pointer (some ⟨pb, po, none⟩)] 32))
  have e0' := (e0.keep (((Upd.refl _ (fun _ _ => False)).alloc (.cells #[.int .u64 0, .int .u64 0, .int .u64 0, .int .u64 0, .int .u64 0] 40)).alloc (.cells #[.int .u64 0, .int .u64 0, .int .u64 0, .int .u64 0, .int .u64 0] 40)) (fun _ _ h => h))
  have e1 := (El.zero ((w.alloc (.cells #[.pointer (some ⟨pb, po, none⟩)] 32)).alloc (.cells #[.int .u64 0, .int .u64 0, .int .u64 0, .int .u64 0, .int .u64 0] 40))).keep ((Upd.refl _ (fun _ _ => False)).alloc (.cells #[.int .u64 0, .int .u64 0, .int .u64 0, .int .u64 0, .int .u64 0] 40)) (fun _ _ h => h)
  have e2 := El.zero (((w.alloc (.cells #[.pointer (some ⟨pb, po, none⟩)] 32)).alloc (.cells #[.int .u64 0, .int .u64 0, .int .u64 0, .int .u64 0, .int .u64 0] 40)).alloc (.cells #[.int .u64 0, .int .u64 0, .int .u64 0, .int .u64 0, .int .u64 0] 40))
  simp only [World.size_alloc] at e0' e1 e2
  clear e0
  have hc := fun (i : Nat) (hi : i < 1) => (show (w.alloc (.cells #[.pointer (some ⟨pb, po, none⟩)] 32)).cell? ⟨w.heap.size, 0 + i, none⟩ = some (.pointer (some ⟨(fun _ => pb) i, (fun _ => po) i, none⟩)) ∧ Live _ pb po from by
    have hi0 : i = 0 := by omega
    subst hi0
    exact ⟨pt_list1 w pb po, hL⟩)
  go_enter Tryz.func69, Tryz.ntmps69
  go_wp2_with fail
  refine (chk_c 1 w.heap.size 0 1 (fun _ => pb) (fun _ => po) _ (by omega) hc).mono ?_
  rintro e w1 ⟨rfl, hw1⟩
  subst w1
  clear hc hL
  obtain ⟨hx, hy, hz, ht⟩ := hP1
  clear ht hP
  go_wp2_with fail
  refine (inv_c (w.heap.size + 1) 0 pb (po + 10) 0 Z _ e0' hz.r (by omega)).mono ?_
  rintro e w1 ⟨rfl, hU, e0⟩
  have s1 := hU.size
  simp only [World.size_alloc] at s1
  replace A1 := A1.trans hU (fun b o hb h => absurd h.1 (by omega))
  replace hx := hx.keep hU (fun i hi h => by obtain ⟨h1, h2, h3⟩ := h; omega)
  replace hy := hy.keep hU (fun i hi h => by obtain ⟨h1, h2, h3⟩ := h; omega)
  replace e1 := e1.keep hU (fun i hi h => by obtain ⟨h1, h2, h3⟩ := h; omega)
  replace e2 := e2.keep hU (fun i hi h => by obtain ⟨h1, h2, h3⟩ := h; omega)
  replace hW1 := hW1.keep hU (fun i hi h => by obtain ⟨h1, h2, h3⟩ := h; omega)
  replace e0 : El w1 (w.heap.size + 1) 0 (invF Z) := e0
  clear hU hz e0'
  go_wp2_with fail
  refine (mul_el (w.heap.size + 1 + 1) 0 pb po (w.heap.size + 1) 0 0 X (invF Z) _ e1 hx.r e0.r).mono ?_
  rintro e w2 ⟨rfl, hU, e1⟩
  have s2 := hU.size
  replace A1 := A1.trans hU (fun b o hb h => absurd h.1 (by omega))
  replace hy := hy.keep hU (fun i hi h => by obtain ⟨h1, h2, h3⟩ := h; omega)
  replace e0 := e0.keep hU (fun i hi h => by obtain ⟨h1, h2, h3⟩ := h; omega)
  replace e2 := e2.keep hU (fun i hi h => by obtain ⟨h1, h2, h3⟩ := h; omega)
  replace hW1 := hW1.keep hU (fun i hi h => by obtain ⟨h1, h2, h3⟩ := h; omega)
  clear hU hx
  go_wp2_with fail
  refine (mul_el (w.heap.size + 1 + 1 + 1) 0 pb (po + 5) (w.heap.size + 1) 0 0 Y (invF Z) _ e2 hy.r e0.r).mono ?_
  rintro e w3 ⟨rfl, hU, e2⟩
  have s3 := hU.size
  replace A1 := A1.trans hU (fun b o hb h => absurd h.1 (by omega))
  replace e1 := e1.keep hU (fun i hi h => by obtain ⟨h1, h2, h3⟩ := h; omega)
  replace hW1 := hW1.keep hU (fun i hi h => by obtain ⟨h1, h2, h3⟩ := h; omega)
  clear hU hy e0
  obtain ⟨x, ex⟩ : ∃ x, x = X * invF Z := ⟨_, rfl⟩
  obtain ⟨y, ey⟩ : ∃ y, y = Y * invF Z := ⟨_, rfl⟩
  rw [← ex] at e1
  rw [← ey] at e2
  have EX := Lib.hid ex
  have EY := Lib.hid ey
  clear ex ey
  go_wp2_with fail
  refine (copyFe_c ob oo (w.heap.size + 1 + 1 + 1) 0 y _ e2.r hW1).mono ?_
  rintro e w4 ⟨rfl, hU, hB, hW4⟩
  have s4 := hU.size
  replace hA := A1.wide (S := Rg ob oo 32) (fun _ _ _ h => h.elim)
  replace hA := hA.trans hU (fun _ _ _ h => h)
  replace e1 := e1.keep hU (fun i hi h => by obtain ⟨h1, h2, h3⟩ := h; omega)
  clear hU A1 e2
  have hb31 : (0 : Int) ≤ byteOf y.val 31 ∧ byteOf y.val 31 < 128 := by
    obtain ⟨h1, h2⟩ := val_lt y
    have hp : (256 : Int) ^ 31 = 452312848583266388373324160190187140051835877600158453279131187530910662656 := by decide
    unfold byteOf
    rw [hp]
    omega
  have hn2 : (x.val : Int) % 2 = 0 ∨ (x.val : Int) % 2 = 1 := by omega
  have c31 := hB 31 (by decide)
  have f31 := (hW4 31 (by decide)).2
  have or2 : bits .or .u8 (byteOf y.val 31) (IntKind.u8.wrap (IntKind.i64.wrap ((x.val : Int) % 2 * 128))) = byteOf y.val 31 + 128 * ((x.val : Int) % 2) := by
    have e : IntKind.u8.wrap (IntKind.i64.wrap ((x.val : Int) % 2 * 128)) = 128 * ((x.val : Int) % 2) := by
      rcases hn2 with h | h <;> rw [h] <;> rfl
    rw [e]
    exact or128 (byteOf y.val 31) ((x.val : Int) % 2) hb31.1 hb31.2 hn2
  have OR := Lib.hid or2
  clear or2
  have B1 := Lib.hid hb31
  have W2 := Lib.hid hW4
  have HB := Lib.hid hB
  clear hW4 hB
  go_wp2_with fail
  go_region_law (first
    | (go_simp; go_at_call 94; refine (isNeg_c (w.heap.size + 1 + 1) 0 x _ (e1.r.keep (Upd.refl w4 (fun _ _ => False)).drew (fun _ _ h => h))).mono ?_; rintro e w5 ⟨rfl, hU⟩; have c31' := (hU.cell ob (oo + 31) (by simp; omega) id).trans (by simpa using c31); have f31' := (hU.froz ob (oo + 31) (by simp; omega)).trans (by simpa using f31)))
  all_goals
    go_wp2
    go_ret
    rw [OR.out]
    have K5 := (Upd.refl w4 (fun _ _ => False)).drew.trans hU (fun _ _ _ h => h)
    have s5 := K5.size
    have hB5 := HB.out.keep K5 (fun _ _ h => h)
    refine ⟨rfl, (hA.trans K5 (fun _ _ _ h => h.elim)).set (fun _ => ⟨rfl, by omega, by omega⟩) _, ?_⟩
    rw [← EX.out, ← EY.out]
    intro i hi
    unfold encF
    by_cases h31 : i = 31
    · subst h31
      rw [if_pos rfl]
      exact World.cell?_setCell_same _ _ _ (hB5 31 (by decide))
    · rw [if_neg h31, World.cell?_setCell_other _ _ _ _ (by intro h; apply h31; simp only [Addr.mk.injEq] at h; omega)]
      exact hB5 i hi

end Go.Proofs.YtkibnongmkhbaaaGreatDoor
end

section
open Go Go.RowKit
namespace Go.Proofs.YtkibnongmkhbaaaGreatDoor
open Ed

theorem row22 : (Tryz.prog.underlying 22).map TypeDesc.isRow = some true := by kernel_rfl
theorem size22 : (Tryz.prog.info? 22).map (·.size) = some 32 := by kernel_rfl

def ArrL (bs : Nat → Int) : List Value := (List.range 32).map fun i => Value.int .u8 (bs i)
theorem ArrL_len (bs : Nat → Int) : (ArrL bs).length = 32 := by simp [ArrL]
theorem ArrL_size (bs : Nat → Int) : (ArrL bs).toArray.size = 32 := by simp [ArrL]
theorem ArrL_one (bs : Nat → Int) : ∀ v ∈ ArrL bs, v.oneCell' = true := fun v hv => by obtain ⟨i, _, rfl⟩ := List.mem_map.1 hv; rfl
theorem Arr_eq (bs : Nat → Int) : Arr bs = (ArrL bs).toArray := rfl
theorem By.range {w : World} {b o : Nat} {bs : Nat → Int} (h : By w b o 32 bs) : w.rangeAt b o (ArrL bs) := fun j v hv => by
  have hj : j < 32 := by have := (List.getElem?_eq_some_iff.1 hv).1; rw [ArrL_len] at this; exact this
  unfold ArrL at hv
  rw [List.getElem?_map, List.getElem?_range hj] at hv
  simp only [Option.map_some, Option.some.injEq] at hv
  rw [← hv]; exact h j hj
theorem By.of_range {w : World} {b o : Nat} {bs : Nat → Int} (h : w.rangeAt b o (ArrL bs)) : By w b o 32 bs := fun i hi => h i _ (by unfold ArrL; rw [List.getElem?_map, List.getElem?_range hi]; rfl)
theorem Wy.there {w : World} {b o n : Nat} (h : Wy w b o n) : w.there b o n := fun j hj => by
  obtain ⟨⟨v, hv⟩, hf⟩ := h j hj
  exact ⟨by rw [hv]; rfl, hf⟩
theorem load22 {w : World} {b o : Nat} {bs : Nat → Int} (h : By w b o 32 bs) : (loadVar 22 ⟨b, o, none⟩).run Tryz.prog w = .ok (.agg (Arr bs)) w := by
  obtain ⟨d, hu, hd⟩ := isRow_of row22
  exact run_loadVar_mid w b o 22 (ArrL bs) d h.range hu hd (by rw [ArrL_len]; exact size22)
theorem wpList_load22 {ops : Array Oper} {rest : List Oper} {op : Oper} {a : Act} {w : World} {Q : Exit → Act → World → Prop} (hgd : op.guard = none) (x : Operand) (ho : op.op = .load 22 x)
    (b o : Nat) (hx : a.eval x = .pointer (some ⟨b, o, none⟩)) (bs : Nat → Int) (hB : By w b o 32 bs)
    (h : wpList Tryz.prog ops Q rest (a.put op.dst (.agg (Arr bs))) w) : wpList Tryz.prog ops Q (op :: rest) a w := by
  obtain ⟨d, hu, hd⟩ := isRow_of row22
  exact wpList_load_mid hgd 22 x ho b o hx (ArrL bs) d hB.range hu hd (by rw [ArrL_len]; exact size22) h
theorem wpList_store22 {ops : Array Oper} {rest : List Oper} {op : Oper} {a : Act} {w : World} {Q : Exit → Act → World → Prop} (hgd : op.guard = none) (x y : Operand) (ho : op.op = .store 22 x y)
    (b o : Nat) (bs : Nat → Int) (hx : a.eval x = .pointer (some ⟨b, o, none⟩)) (hy : a.eval y = .agg (Arr bs)) (hW : Wy w b o 32)
    (h : ∀ w', Upd w w' (Rg b o 32) → By w' b o 32 bs → Wy w' b o 32 → wpList Tryz.prog ops Q rest (a.put op.dst undef) w') : wpList Tryz.prog ops Q (op :: rest) a w := by
  have ht : w.there b o (ArrL bs).length := by rw [ArrL_len]; exact hW.there
  have hB : By (w.setCells b o (ArrL bs)) b o 32 bs := By.of_range (World.rangeAt_setCells_same w b o _ ht)
  refine wpList_store_mid hgd 22 x y ho b o (Arr bs) hx hy (by rw [Arr_eq, ArrL_size]; exact hW.there) (by rw [Arr_eq, ArrL_size]; exact size22) (all_oneCell_toArray (ArrL_one bs)) ?_
  refine h (w.setCells b o (ArrL bs)) ((Upd.refl w _).cells b (ArrL bs) o (fun i hi _ => ⟨rfl, by omega, by rw [ArrL_len] at hi; omega⟩)) hB (fun i hi => ⟨⟨_, hB i hi⟩, ?_⟩)
  rw [World.frozen?_setCells]
  exact (hW i hi).2

theorem results_cell {P : Program} {fn : Func} {tmps : Array Value} {w : World} {t : Tmp} {ty : TypeId} {ad : Addr} {v : Value} (hres : fn.results = #[.cell t ty]) (ht : tmps.getD t undef = .pointer (some ad))
    (hl : (loadVar ty ad).run P w = .ok v w) : (results fn tmps).run P w = .ok v w := by
  unfold results
  rw [hres]
  rw [Array.getD_eq_getD_getElem?] at ht
  simp [ht, asAddr, hl]

set_option maxRecDepth 100000 in
set_option maxHeartbeats 4000000 in
theorem bytes27_c (pb po : Nat) (X Y Z T : F) (w : World) (hP : Pt w pb po X Y Z T) (hn : ¬ (X = 0 ∧ Y = 0)) :
    Calls Tryz.prog 27 #[.pointer (some ⟨pb, po, none⟩)] w fun e w' => e = .returned (.slice (some ⟨w.heap.size, 0, none⟩) 32 32) ∧ Upd w w' (fun _ _ => False) ∧ By w' w.heap.size 0 32 (encF (X * invF Z) (Y * invF Z)) := by
  have hlp := hP.lt
  have A0 := (Upd.refl w (fun _ _ => False)).alloc zero32
  have hP1 := hP.keep A0 (fun _ _ h => h)
  go_enter Tryz.func27, Tryz.ntmps27
  go_wp2_with fail
  refine (bytes69_c w.heap.size 0 pb po X Y Z T _ hP1 hn (zero32_wy w) (by omega)).mono ?_
  rintro e w1 ⟨rfl, hU, hB⟩
  go_wp2
  go_ret
  exact ⟨rfl, A0.trans hU (fun b o hb h => absurd h.1 (by omega)), hB⟩

set_option maxRecDepth 100000 in
set_option maxHeartbeats 4000000 in
theorem ptBytes_c (pb po : Nat) (X Y Z T : F) (w : World) (hP : Pt w pb po X Y Z T) (hn : ¬ (X = 0 ∧ Y = 0)) :
    Calls Tryz.prog 15 #[.pointer (some ⟨pb, po, none⟩)] w fun e w' => e = .returned (.agg (Arr (encF (X * invF Z) (Y * invF Z)))) ∧ Upd w w' (fun _ _ => False) := by
  have hlp := hP.lt
  have A0 := ((Upd.refl w (fun _ _ => False)).alloc zero32).alloc zero32
  have hP1 := hP.keep A0.drew (fun _ _ h => h)
  have W0 := (zero32_wy w).keep (((Upd.refl _ (fun _ _ => False)).alloc zero32).drew) (fun _ _ h => h)
  have W1 := (zero32_wy (w.alloc zero32)).keep ((Upd.refl _ (fun _ _ => False)).drew) (fun _ _ h => h)
  simp only [World.size_alloc] at W1
  go_enter Tryz.func15, Tryz.ntmps15
  go_wp2_with fail
  go_region_held3 (fun _ => True) (trivial) (first
    | ((try go_simp); go_at_call 27; refine (bytes27_c pb po X Y Z T _ hP1 hn).mono ?_; rintro e w1 ⟨rfl, hU, hBy⟩; simp only [World.size_alloc, World.size_drew] at hBy)
    | (refine step_copy_by rfl _ _ rfl (w.heap.size + 1) 0 (w.heap.size + 1 + 1) 0 32 32 32 (by rfl) (by rfl) _ hBy (W1.keep hU (fun _ _ h => h)) ?_; intro w2 hU2 hB2 hW2))
  have s1 := hU.size
  simp only [World.size_alloc, World.size_drew] at s1
  have W0' := (W0.keep hU (fun _ _ h => h)).keep hU2 (fun i hi h => by obtain ⟨h1, h2, h3⟩ := h; omega)
  go_wp2_with (first
    | (refine wpList_load22 rfl _ rfl (w.heap.size + 1) 0 (by rfl) _ hB2 ?_)
    | (refine wpList_store22 rfl _ _ rfl w.heap.size 0 _ (by rfl) (by rfl) W0' ?_; intro w3 hU3 hB3 hW3))
  refine bodyPost_ret (results_cell rfl (by rfl) (load22 hB3)) rfl ⟨rfl, ?_⟩
  exact ((A0.drew.trans hU (fun _ _ _ h => h)).trans hU2 (fun b o hb h => absurd h.1 (by omega))).trans hU3 (fun b o hb h => absurd h.1 (by omega))

end Go.Proofs.YtkibnongmkhbaaaGreatDoor
end
