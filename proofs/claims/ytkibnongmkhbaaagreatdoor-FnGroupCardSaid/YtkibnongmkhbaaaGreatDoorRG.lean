/- Part of the proof that laws.FnGroup returns true for all 32 bytes p, q and x: the reference's encoded and decoded.
   Conditions: those that each theorem states. -/
import Derived.Test.YtkibnongmkhbaaaGreatDoorRE
import Derived.Test.YtkibnongmkhbaaaGreatDoorRF

section
open Go Go.RowKit
namespace Go.Proofs.YtkibnongmkhbaaaGreatDoor
open Ed

def ZW (b : Nat) (w : World) : Prop := Wy w b 0 32
theorem clsW (w0 : World) (t : Tmp) : Cls (G0 w0) (C1 w0 t ZW) (some t) := cls1 w0 t ZW (fun _ _ _ h k => Wy.keep k h (fun _ _ h => h))
theorem zw_new (w : World) : ZW w.heap.size (w.alloc zero32) := zero32_wy w
set_option maxRecDepth 100000 in
theorem exec_alloc22 (ρ : Operand → Value) (d : Option Tmp) (ty : TypeId) (pos : String) (after : Array Edge) (g) (w : World) :
    (execOp ρ { dst := d, op := .alloc 22, type := ty, pos := pos, after := after, guard := g }).run Tryz.prog w = .ok (.value (.pointer (some ⟨w.heap.size, 0, none⟩))) (w.alloc zero32) := by
  go_simp
  rfl
theorem Nu.cellsAt {w : World} {b o : Nat} {N : Int} (h : Nu w b o N) : w.cell? ⟨b, o, none⟩ = some (.int .u64 (N % 18446744073709551616)) ∧ w.cell? ⟨b, o + 1, none⟩ = some (.int .u64 (N / 18446744073709551616 % 18446744073709551616)) ∧ w.cell? ⟨b, o + 2, none⟩ = some (.int .u64 (N / 340282366920938463463374607431768211456 % 18446744073709551616)) ∧ w.cell? ⟨b, o + 3, none⟩ = some (.int .u64 (N / 6277101735386680763835789423207666416102355444464034512896 % 18446744073709551616)) := by
  have h0 := (h 0 (by decide)).1; have h1 := (h 1 (by decide)).1; have h2 := (h 2 (by decide)).1; have h3 := (h 3 (by decide)).1
  unfold wd at h0 h1 h2 h3
  simp only [Int.reducePow, Int.ediv_one, Nat.add_zero] at h0 h1 h2 h3
  exact ⟨h0, h1, h2, h3⟩

/-- the bytes of the point (ax, ay) -/
def encN (ax ay : Int) (i : Nat) : Int := if i = 31 then byteOf ay 31 + 128 * (ax % 2) else byteOf ay i

set_option maxRecDepth 100000 in
set_option maxHeartbeats 8000000 in
theorem encoded_c (x y z I ax ay : Int) (hx : 0 ≤ x ∧ x < Pn) (hy : 0 ≤ y ∧ y < Pn) (hz : 0 ≤ z ∧ z < Pn) (eI : I = z ^ eInv % Pn) (eax : ax = x * I % Pn) (eay : ay = y * I % Pn) (w : World) :
    Calls Tryz.prog 18 #[.agg (Pv x y z)] w fun e w' => e = .returned (.agg (Arr (encN ax ay))) ∧ Upd w w' FF := by
  have hI : 0 ≤ I ∧ I < Pn := by rw [eI]; exact ⟨Int.emod_nonneg _ (by decide), Int.emod_lt_of_pos _ (by decide)⟩
  have hIb : I < 115792089237316195423570985008687907853269984665640564039457584007913129639936 := Int.lt_trans hI.2 (by decide)
  have kI : ∀ w, Calls Tryz.prog 40 #[.agg (Na z)] w fun e w' => e = .returned (.agg (Na I)) ∧ Upd w w' FF := fun w => by rw [eI]; exact inverse_c z hz.1 hz.2 w
  have kx : ∀ w, Calls Tryz.prog 33 #[.agg (Na x), .agg (Na I), .agg (Na Pn)] w fun e w' => e = .returned (.agg (Na ax)) ∧ Upd w w' FF := fun w => by rw [eax]; exact times_c x I Pn hx.1 hx.2 hI.1 hIb (by decide) w
  have ky : ∀ w, Calls Tryz.prog 33 #[.agg (Na y), .agg (Na I), .agg (Na Pn)] w fun e w' => e = .returned (.agg (Na ay)) ∧ Upd w w' FF := fun w => by rw [eay]; exact times_c y I Pn hy.1 hy.2 hI.1 hIb (by decide) w
  have hay : 0 ≤ ay ∧ ay < Pn := by rw [eay]; exact ⟨Int.emod_nonneg _ (by decide), Int.emod_lt_of_pos _ (by decide)⟩
  clear eI eax eay hx hy hz hI hIb
  have A := ((Upd.refl w FF).alloc (.cells (Pv x y z) 47)).alloc zero32
  have H := (Np.boxed w x y z 47).keep ((Upd.refl _ FF).alloc zero32) (fun _ _ h => h)
  have R := zero32_wy (w.alloc (.cells (Pv x y z) 47))
  simp only [World.size_alloc] at R
  go_enter Tryz.func18, Tryz.ntmps18
  go_wp2_with (first
    | (refine wpList_load45 rfl _ rfl _ _ (by rfl) _ H.z ?_))
  refine (kI _).mono ?_
  rintro e c1 ⟨rfl, hU⟩
  replace H := H.keep hU (fun _ _ h => h)
  replace R := R.keep hU (fun _ _ h => h)
  replace A := A.trans hU (fun _ _ _ h => h)
  have lH := H.lt
  have lR := R.lt (by decide)
  have B := (Upd.refl c1 FF).alloc (Z4 45)
  replace H := H.keep B (fun _ _ h => h)
  replace R := R.keep B (fun _ _ h => h)
  have lA := A.size
  replace A := A.trans B (fun _ _ _ h => h)
  have N0 := Nu.zero c1 45
  clear hU B kI
  go_wp2_with (first
    | (refine wpList_store45 rfl _ _ rfl _ _ I _ (by rfl) (by rfl) N0 ?_; intro d1 hV NI))
  replace H := H.keep hV (fun i hi h => absurd h.1 (by omega))
  replace R := R.keep hV (fun i hi h => absurd h.1 (by omega))
  replace A := A.trans hV (fun b o hb h => absurd h.1 (by omega))
  clear hV N0 lA lH lR
  have lA := A.size
  have lH := H.lt
  have lR := R.lt (by decide)
  have lN := NI.lt
  refine wp_region_loose 6 (clsN _ 4) (by kernel_rfl) (by kernel_rfl) (begin1 _ _ _ _ (by rfl)) ?_
  simp only [List.take_succ_cons, List.take_zero, List.drop_succ_cons, List.drop_zero]
  refine hd_pure rfl (by simp) (.pointer (some ⟨w.heap.size, 0, none⟩)) (by intro w; (try go_simp); (try rfl)) ?_
  simp only [Act.put, List.setIfInBounds_toArray, List.set_cons_zero, List.set_cons_succ]
  refine hd_load45 rfl (by simp) _ rfl _ _ (by rfl) _ H.x.drew ?_
  simp only [Act.put, List.setIfInBounds_toArray, List.set_cons_zero, List.set_cons_succ]
  refine hd_load45 rfl (by simp) _ rfl _ _ (by rfl) _ NI.drew ?_
  simp only [Act.put, List.setIfInBounds_toArray, List.set_cons_zero, List.set_cons_succ]
  refine hd_call rfl (by simp) 34 #[] _ (by intro w; (try go_simp); (try rfl)) (fun w => prime_c w) ?_
  simp only [Act.put, List.setIfInBounds_toArray, List.set_cons_zero, List.set_cons_succ]
  refine hd_call rfl (by simp) 33 #[.agg (Na x), .agg (Na I), .agg (Na Pn)] _ (by intro w; (try go_simp); (try rfl)) kx ?_
  simp only [Act.put, List.setIfInBounds_toArray, List.set_cons_zero, List.set_cons_succ]
  refine hd_alloc rfl rfl (Z4 45) (fun w => exec_alloc45 _ _ _ _ _ _ w) (fun v => eval_put_same _ _ _ (by simp)) zn_new ?_
  intro b2 hb c2 hC
  obtain ⟨hU, hz⟩ := hC
  replace hz : Nu c2 b2 0 0 := hz b2 (eval_put_same _ _ _ (by simp)) hb
  replace H := H.drew.keep hU (fun _ _ h => h)
  replace R := (show Wy d1.drew _ _ _ from R).keep hU (fun _ _ h => h)
  replace NI := NI.drew.keep hU (fun _ _ h => h)
  replace A := A.drew.trans hU (fun _ _ _ h => h)
  simp only [World.size_drew] at hb
  clear hU
  go_wp2_with (first
    | (refine wpList_store45 rfl _ _ rfl _ _ ax _ (by rfl) (by rfl) hz ?_; intro d2 hV NX))
  replace H := H.keep hV (fun i hi h => absurd h.1 (by omega))
  replace R := R.keep hV (fun i hi h => absurd h.1 (by omega))
  replace NI := NI.keep hV (fun i hi h => absurd h.1 (by omega))
  replace A := A.trans hV (fun b o hb h => absurd h.1 (by omega))
  clear hV hz lA lH lR lN hb
  have lA := A.size
  have lH := H.lt
  have lR := R.lt (by decide)
  have lN := NI.lt
  have lX := NX.lt
  refine wp_region_loose 7 (clsW _ 5) (by kernel_rfl) (by kernel_rfl) (begin1 _ _ _ _ (by rfl)) ?_
  simp only [List.take_succ_cons, List.take_zero, List.drop_succ_cons, List.drop_zero]
  refine hd_pure rfl (by simp) (.pointer (some ⟨w.heap.size, 4, none⟩)) (by intro w; (try go_simp); (try rfl)) ?_
  simp only [Act.put, List.setIfInBounds_toArray, List.set_cons_zero, List.set_cons_succ]
  refine hd_load45 rfl (by simp) _ rfl _ _ (by rfl) _ H.y.drew ?_
  simp only [Act.put, List.setIfInBounds_toArray, List.set_cons_zero, List.set_cons_succ]
  refine hd_load45 rfl (by simp) _ rfl _ _ (by rfl) _ NI.drew ?_
  simp only [Act.put, List.setIfInBounds_toArray, List.set_cons_zero, List.set_cons_succ]
  refine hd_call rfl (by simp) 34 #[] _ (by intro w; (try go_simp); (try rfl)) (fun w => prime_c w) ?_
  simp only [Act.put, List.setIfInBounds_toArray, List.set_cons_zero, List.set_cons_succ]
  refine hd_call rfl (by simp) 33 #[.agg (Na y), .agg (Na I), .agg (Na Pn)] _ (by intro w; (try go_simp); (try rfl)) ky ?_
  simp only [Act.put, List.setIfInBounds_toArray, List.set_cons_zero, List.set_cons_succ]
  refine hd_call rfl (by simp) 42 #[.agg (Na ay)] _ (by intro w; (try go_simp); (try rfl)) (fun w => octets_c ay w) ?_
  simp only [Act.put, List.setIfInBounds_toArray, List.set_cons_zero, List.set_cons_succ]
  refine hd_alloc rfl rfl zero32 (fun w => exec_alloc22 _ _ _ _ _ _ w) (fun v => eval_put_same _ _ _ (by simp)) zw_new ?_
  intro b3 hb c3 hC
  obtain ⟨hU, hz⟩ := hC
  replace hz : Wy c3 b3 0 32 := hz b3 (eval_put_same _ _ _ (by simp)) hb
  replace R := (show Wy d2.drew _ _ _ from R).keep hU (fun _ _ h => h)
  replace NX := NX.drew.keep hU (fun _ _ h => h)
  replace A := A.drew.trans hU (fun _ _ _ h => h)
  simp only [World.size_drew] at hb
  clear hU kx ky H NI lH lN
  go_wp2_with (first
    | (refine wpList_store22 rfl _ _ rfl b3 0 (byteOf ay) (by rfl) (by rfl) hz ?_; intro d3 hV HB HW; replace NX := NX.keep hV (fun i hi h => absurd h.1 (by omega)))
    | (refine wpList_load45 rfl _ rfl _ _ (by rfl) _ NX ?_))
  replace R := R.keep hV (fun i hi h => absurd h.1 (by omega))
  replace A := A.trans hV (fun b o hb h => absurd h.1 (by omega))
  have lb3 := HW.lt (by decide)
  refine (negative_c ax _).mono ?_
  rintro e c4 ⟨rfl, hU⟩
  replace R := R.keep hU (fun _ _ h => h)
  replace HB := HB.keep hU (fun _ _ h => h)
  replace HW := HW.keep hU (fun _ _ h => h)
  replace A := A.trans hU (fun _ _ _ h => h)
  have hbt : bt ax 0 = (ax % 2 == 1) := by unfold bt; rw [Int.pow_zero, Int.ediv_one]
  rw [hbt]
  have h31 : 0 ≤ byteOf ay 31 ∧ byteOf ay 31 < 128 := by
    unfold byteOf
    unfold Pn at hay
    simp only [Int.reducePow]
    omega
  have c31 := HB 31 (by decide)
  obtain ⟨-, f31⟩ := HW 31 (by decide)
  rw [Nat.zero_add] at c31 f31
  clear hV hU hbt lX NX HW hz
  by_cases hax : ax % 2 = 1
  · have HB2 : By (c4.setCell ⟨b3, 31, none⟩ (.int .u8 (byteOf ay 31 + 128))) b3 0 32 (encN ax ay) := fun i hi => by
      rw [Nat.zero_add]
      unfold encN
      by_cases e : i = 31
      · subst e
        rw [if_pos rfl, hax]
        exact World.cell?_setCell_same _ _ _ c31
      · rw [if_neg e]
        have := HB i hi
        rw [Nat.zero_add] at this
        exact (World.cell?_setCell_other _ _ _ _ (by intro h; cases h; exact e rfl)).trans this
    have U5 : Upd c4 (c4.setCell ⟨b3, 31, none⟩ (.int .u8 (byteOf ay 31 + 128))) (Rg b3 31 1) := (Upd.refl _ _).set (fun _ => ⟨rfl, by omega, by omega⟩) _
    have R2 := R.keep U5 (fun i hi h => absurd h.1 (by omega))
    have A2 := A.trans U5 (fun b o hb h => absurd h.1 (by omega))
    clear U5 HB R A
    obtain ⟨v, ev⟩ : ∃ v, v = byteOf ay 31 := ⟨_, rfl⟩
    rw [← ev] at c31 h31 HB2 R2 A2
    obtain ⟨v0, v1⟩ := h31
    clear ev
    go_wp2_with (first
      | (refine wpList_load22 rfl _ rfl _ _ (by rfl) _ HB2 ?_)
      | (refine wpList_store22 rfl _ _ rfl _ _ _ (by rfl) (by rfl) R2 ?_; intro w3 hU3 hB3 hW3))
    exact bodyPost_ret (results_cell rfl (by rfl) (load22 hB3)) rfl ⟨rfl, A2.trans hU3 (fun b o hb h => absurd h.1 (by omega))⟩
  · have h0 : ax % 2 = 0 := by omega
    have HB2 : By c4 b3 0 32 (encN ax ay) := fun i hi => by
      have h := HB i hi
      unfold encN
      by_cases e : i = 31
      · subst e
        rw [if_pos rfl, h0, Int.mul_zero, Int.add_zero]
        exact h
      · rw [if_neg e]; exact h
    clear HB hax c31 f31 h31
    go_wp2_with (first
      | (refine wpList_load22 rfl _ rfl _ _ (by rfl) _ HB2 ?_)
      | (refine wpList_store22 rfl _ _ rfl _ _ _ (by rfl) (by rfl) R ?_; intro w3 hU3 hB3 hW3))
    exact bodyPost_ret (results_cell rfl (by rfl) (load22 hB3)) rfl ⟨rfl, A.trans hU3 (fun b o hb h => absurd h.1 (by omega))⟩

end Go.Proofs.YtkibnongmkhbaaaGreatDoor
end

section
open Go Go.RowKit
namespace Go.Proofs.YtkibnongmkhbaaaGreatDoor
open Ed

theorem By.ltB {w : World} {b o : Nat} {bs : Nat → Int} (h : By w b o 32 bs) : b < w.heap.size := World.block_lt_of_cell? w _ (h 0 (by decide))
theorem By.drewB {w : World} {b o n : Nat} {bs : Nat → Int} (h : By w b o n bs) : By w.drew b o n bs := h
/-- what decoded gives -/
def DecPost (ok : Bool) (X y : Int) (s : Int) (e : Value) : Prop := (ok = true → e = .tuple #[.agg (Pv (if 128 ≤ s then -X % Pn else X) y 1), .bool true]) ∧ (ok = false → e = .tuple #[.agg (Pv 0 0 0), .bool false])

set_option maxRecDepth 100000 in
set_option maxHeartbeats 16000000 in
theorem decoded_c (bs : Nat → Int) (hb : ∀ i, Byte (bs i)) (y yy u m v iv q X : Int) (ok : Bool) (ey : y = le (low31 bs) 0 32 % Pn) (eyy : yy = (y * y) % Pn) (eu : u = (yy - 1) % Pn) (em : m = (Dn * yy) % Pn) (ev : v = (m + 1) % Pn) (eiv : iv = v ^ eInv % Pn) (eq : q = (u * iv) % Pn) (eX : X = rootV q) (hX : Rn X) (eok : ok = rootB q) (w : World) :
    Calls Tryz.prog 17 #[.agg (Arr bs)] w fun e w' => (∃ v, e = .returned v ∧ DecPost ok X y (bs 31) v) ∧ Upd w w' FF := by
  have hD : Rn Dn := ⟨by decide, by decide⟩
  have h1 : Rn 1 := ⟨by decide, by decide⟩
  have hy : Rn y := by rw [ey]; exact Rn_mod _
  have ke : ∀ w, Calls Tryz.prog 32 #[.agg (Arr bs)] w fun e w' => e = .returned (.agg (Na y)) ∧ Upd w w' FF := fun w => by rw [ey]; exact element_c bs hb w
  have kyy := timesP hy hy eyy
  have hyy := timesPR hy hy eyy
  have ku := minusP hyy h1 eu
  have hu := minusPR hyy h1 eu
  have km := timesP hD hyy em
  have hm := timesPR hD hyy em
  have kv := plusP hm h1 ev
  have hv := plusPR hm h1 ev
  have hiv : Rn iv := by rw [eiv]; exact Rn_mod _
  have kiv : ∀ w, Calls Tryz.prog 40 #[.agg (Na v)] w fun e w' => e = .returned (.agg (Na iv)) ∧ Upd w w' FF := fun w => by rw [eiv]; exact inverse_c v hv.1 hv.2 w
  have kq := timesP hu hiv eq
  have hq := timesPR hu hiv eq
  have kX : ∀ w, Calls Tryz.prog 39 #[.agg (Na q)] w fun e w' => e = .returned (.tuple #[.agg (Na X), .bool ok]) ∧ Upd w w' FF := fun w => by rw [eX, eok]; exact root_c q hq.1 hq.2 w
  have kx : ∀ w, Calls Tryz.prog 41 #[.agg (Na X)] w fun e w' => e = .returned (.agg (Na (-X % Pn))) ∧ Upd w w' FF := fun w => opposite_c X hX.1 hX.2 w
  have k1 : ∀ w, Calls Tryz.prog 36 #[.int .u64 1] w fun e w' => e = .returned (.agg (Na 1)) ∧ Upd w w' FF := fun w => small_c 1 (by decide) (by decide) w
  have HB := hb 31
  clear hb ey eyy eu em ev eiv eq eX eok hD h1 hyy hu hm hv hiv hq hy
  have A := ((Upd.refl w FF).alloc (.cells (Arr bs) 22)).alloc (Z12 47)
  have H := (By.arr bs w 22).keep ((Upd.refl _ FF).alloc (Z12 47)) (fun _ _ h => h)
  have R := Np.zero (w.alloc (.cells (Arr bs) 22)) 47
  simp only [World.size_alloc] at R
  go_enter Tryz.func17, Tryz.ntmps17
  go_wp2_with (first
    | (refine wpList_load22 rfl _ rfl _ _ (by rfl) bs H ?_))
  refine (ke _).mono ?_
  rintro e c1 ⟨rfl, hU⟩
  replace H := H.keep hU (fun _ _ h => h)
  replace R := R.keep hU (fun _ _ h => h)
  have lH := H.ltB
  have lR := R.lt
  have B := (Upd.refl c1 FF).alloc (Z4 45)
  replace H := H.keep B (fun _ _ h => h)
  replace R := R.keep B (fun _ _ h => h)
  replace A := A.trans hU (fun _ _ _ h => h)
  have lA := A.size
  replace A := A.trans B (fun _ _ _ h => h)
  have N0 := Nu.zero c1 45
  clear hU B ke
  go_wp2_with (first
    | (refine wpList_store45 rfl _ _ rfl _ _ y _ (by rfl) (by rfl) N0 ?_; intro d1 hV Y))
  replace H := H.keep hV (fun i hi h => absurd h.1 (by omega))
  replace R := R.keep hV (fun i hi h => absurd h.1 (by omega))
  replace A := A.trans hV (fun b o hb h => absurd h.1 (by omega))
  clear hV N0 lA lH lR
  have lH := H.ltB
  have lR := R.lt
  have lY := Y.lt
  have lA := A.size
  refine wp_region_loose 5 (clsN _ 5) (by kernel_rfl) (by kernel_rfl) (begin1 _ _ _ _ (by rfl)) ?_
  simp only [List.take_succ_cons, List.take_zero, List.drop_succ_cons, List.drop_zero]
  refine hd_load45 rfl (by simp) _ rfl _ _ (by rfl) _ Y.drew ?_
  simp only [Act.put, List.setIfInBounds_toArray, List.set_cons_zero, List.set_cons_succ]
  refine hd_load45 rfl (by simp) _ rfl _ _ (by rfl) _ Y.drew ?_
  simp only [Act.put, List.setIfInBounds_toArray, List.set_cons_zero, List.set_cons_succ]
  refine hd_call rfl (by simp) 34 #[] _ (by intro w; (try go_simp); (try rfl)) (fun w => prime_c w) ?_
  simp only [Act.put, List.setIfInBounds_toArray, List.set_cons_zero, List.set_cons_succ]
  refine hd_call rfl (by simp) 33 #[.agg (Na y), .agg (Na y), .agg (Na Pn)] _ (by intro w; (try go_simp); (try rfl)) kyy ?_
  simp only [Act.put, List.setIfInBounds_toArray, List.set_cons_zero, List.set_cons_succ]
  refine hd_alloc rfl rfl (Z4 45) (fun w => exec_alloc45 _ _ _ _ _ _ w) (fun v => eval_put_same _ _ _ (by simp)) zn_new ?_
  intro b hb c hC
  obtain ⟨hU, hz⟩ := hC
  replace hz : Nu c b 0 0 := hz b (eval_put_same _ _ _ (by simp)) hb
  replace H := H.drewB.keep hU (fun _ _ h => h)
  replace R := R.drew.keep hU (fun _ _ h => h)
  replace Y := Y.drew.keep hU (fun _ _ h => h)
  replace A := A.drew.trans hU (fun _ _ _ h => h)
  simp only [World.size_drew] at hb
  clear hU
  go_wp2_with (first
    | (refine wpList_store45 rfl _ _ rfl _ _ yy _ (by rfl) (by rfl) hz ?_; intro d hV YY; replace H := H.keep hV (fun i hi h => absurd h.1 (by omega)); replace R := R.keep hV (fun i hi h => absurd h.1 (by omega)); replace Y := Y.keep hV (fun i hi h => absurd h.1 (by omega)); replace A := A.trans hV (fun b o hb h => absurd h.1 (by omega)); clear hV hz lA hb lH lR lY))
  have lH := H.ltB
  have lR := R.lt
  have lY := Y.lt
  have lYY := YY.lt
  have lA := A.size
  refine wp_region_loose 5 (clsN _ 6) (by kernel_rfl) (by kernel_rfl) (begin1 _ _ _ _ (by rfl)) ?_
  simp only [List.take_succ_cons, List.take_zero, List.drop_succ_cons, List.drop_zero]
  refine hd_load45 rfl (by simp) _ rfl _ _ (by rfl) _ YY.drew ?_
  simp only [Act.put, List.setIfInBounds_toArray, List.set_cons_zero, List.set_cons_succ]
  refine hd_call rfl (by simp) 36 #[.int .u64 1] _ (by intro w; (try go_simp); (try rfl)) k1 ?_
  simp only [Act.put, List.setIfInBounds_toArray, List.set_cons_zero, List.set_cons_succ]
  refine hd_call rfl (by simp) 34 #[] _ (by intro w; (try go_simp); (try rfl)) (fun w => prime_c w) ?_
  simp only [Act.put, List.setIfInBounds_toArray, List.set_cons_zero, List.set_cons_succ]
  refine hd_call rfl (by simp) 35 #[.agg (Na yy), .agg (Na 1), .agg (Na Pn)] _ (by intro w; (try go_simp); (try rfl)) ku ?_
  simp only [Act.put, List.setIfInBounds_toArray, List.set_cons_zero, List.set_cons_succ]
  refine hd_alloc rfl rfl (Z4 45) (fun w => exec_alloc45 _ _ _ _ _ _ w) (fun v => eval_put_same _ _ _ (by simp)) zn_new ?_
  intro b hb c hC
  obtain ⟨hU, hz⟩ := hC
  replace hz : Nu c b 0 0 := hz b (eval_put_same _ _ _ (by simp)) hb
  replace H := H.drewB.keep hU (fun _ _ h => h)
  replace R := R.drew.keep hU (fun _ _ h => h)
  replace Y := Y.drew.keep hU (fun _ _ h => h)
  replace YY := YY.drew.keep hU (fun _ _ h => h)
  replace A := A.drew.trans hU (fun _ _ _ h => h)
  simp only [World.size_drew] at hb
  clear hU
  go_wp2_with (first
    | (refine wpList_store45 rfl _ _ rfl _ _ u _ (by rfl) (by rfl) hz ?_; intro d hV U; replace H := H.keep hV (fun i hi h => absurd h.1 (by omega)); replace R := R.keep hV (fun i hi h => absurd h.1 (by omega)); replace Y := Y.keep hV (fun i hi h => absurd h.1 (by omega)); replace YY := YY.keep hV (fun i hi h => absurd h.1 (by omega)); replace A := A.trans hV (fun b o hb h => absurd h.1 (by omega)); clear hV hz lA hb lH lR lY lYY))
  have lH := H.ltB
  have lR := R.lt
  have lY := Y.lt
  have lYY := YY.lt
  have lU := U.lt
  have lA := A.size
  refine wp_region_loose 8 (clsN _ 7) (by kernel_rfl) (by kernel_rfl) (begin1 _ _ _ _ (by rfl)) ?_
  simp only [List.take_succ_cons, List.take_zero, List.drop_succ_cons, List.drop_zero]
  refine hd_call rfl (by simp) 38 #[] _ (by intro w; (try go_simp); (try rfl)) (fun w => curve_c w) ?_
  simp only [Act.put, List.setIfInBounds_toArray, List.set_cons_zero, List.set_cons_succ]
  refine hd_load45 rfl (by simp) _ rfl _ _ (by rfl) _ YY.drew ?_
  simp only [Act.put, List.setIfInBounds_toArray, List.set_cons_zero, List.set_cons_succ]
  refine hd_call rfl (by simp) 34 #[] _ (by intro w; (try go_simp); (try rfl)) (fun w => prime_c w) ?_
  simp only [Act.put, List.setIfInBounds_toArray, List.set_cons_zero, List.set_cons_succ]
  refine hd_call rfl (by simp) 33 #[.agg (Na Dn), .agg (Na yy), .agg (Na Pn)] _ (by intro w; (try go_simp); (try rfl)) km ?_
  simp only [Act.put, List.setIfInBounds_toArray, List.set_cons_zero, List.set_cons_succ]
  refine hd_call rfl (by simp) 36 #[.int .u64 1] _ (by intro w; (try go_simp); (try rfl)) k1 ?_
  simp only [Act.put, List.setIfInBounds_toArray, List.set_cons_zero, List.set_cons_succ]
  refine hd_call rfl (by simp) 34 #[] _ (by intro w; (try go_simp); (try rfl)) (fun w => prime_c w) ?_
  simp only [Act.put, List.setIfInBounds_toArray, List.set_cons_zero, List.set_cons_succ]
  refine hd_call rfl (by simp) 37 #[.agg (Na m), .agg (Na 1), .agg (Na Pn)] _ (by intro w; (try go_simp); (try rfl)) kv ?_
  simp only [Act.put, List.setIfInBounds_toArray, List.set_cons_zero, List.set_cons_succ]
  refine hd_alloc rfl rfl (Z4 45) (fun w => exec_alloc45 _ _ _ _ _ _ w) (fun v => eval_put_same _ _ _ (by simp)) zn_new ?_
  intro b hb c hC
  obtain ⟨hU, hz⟩ := hC
  replace hz : Nu c b 0 0 := hz b (eval_put_same _ _ _ (by simp)) hb
  replace H := H.drewB.keep hU (fun _ _ h => h)
  replace R := R.drew.keep hU (fun _ _ h => h)
  replace Y := Y.drew.keep hU (fun _ _ h => h)
  replace YY := YY.drew.keep hU (fun _ _ h => h)
  replace U := U.drew.keep hU (fun _ _ h => h)
  replace A := A.drew.trans hU (fun _ _ _ h => h)
  simp only [World.size_drew] at hb
  clear hU
  clear YY lYY
  go_wp2_with (first
    | (refine wpList_store45 rfl _ _ rfl _ _ v _ (by rfl) (by rfl) hz ?_; intro d hV V; replace H := H.keep hV (fun i hi h => absurd h.1 (by omega)); replace R := R.keep hV (fun i hi h => absurd h.1 (by omega)); replace Y := Y.keep hV (fun i hi h => absurd h.1 (by omega)); replace U := U.keep hV (fun i hi h => absurd h.1 (by omega)); replace A := A.trans hV (fun b o hb h => absurd h.1 (by omega)); clear hV hz lA hb lH lR lY lU))
  have lR := R.lt
  have lY := Y.lt
  have lA := A.size
  have NFF : ∀ b : Nat, ∀ i, i < 4 → ¬ FF b (0 + i) := fun _ _ _ h => h
  refine wp_region_ord [(0, false), (1, false), (2, false), (3, false), (4, false), (5, false), (6, false), (7, false), (8, false), (9, true), (10, true), (11, false)] (cldZ _ 8 10 X) (by kernel_rfl) (by kernel_rfl) (by rfl) (by kernel_rfl) (begin2 _ _ _ _ _ _ (by rfl)) ?_
  refine wq_load45 rfl rfl (by simp) rfl _ rfl _ _ (by rfl) u U.drew (fun _ _ h => h) ?_
  simp only [Act.put, List.setIfInBounds_toArray, List.set_cons_zero, List.set_cons_succ]
  refine wq_load45 rfl rfl (by simp) rfl _ rfl _ _ (by rfl) v V.drew (fun _ _ h => h) ?_
  simp only [Act.put, List.setIfInBounds_toArray, List.set_cons_zero, List.set_cons_succ]
  refine wq_call rfl rfl (by simp) rfl 40 #[.agg (Na v)] (.agg (Na iv)) (by intro w; (try go_simp); (try rfl)) kiv ?_
  simp only [Act.put, List.setIfInBounds_toArray, List.set_cons_zero, List.set_cons_succ]
  refine wq_call rfl rfl (by simp) rfl 34 #[] (.agg (Na Pn)) (by intro w; (try go_simp); (try rfl)) (fun w => prime_c w) ?_
  simp only [Act.put, List.setIfInBounds_toArray, List.set_cons_zero, List.set_cons_succ]
  refine wq_call rfl rfl (by simp) rfl 33 #[.agg (Na u), .agg (Na iv), .agg (Na Pn)] (.agg (Na q)) (by intro w; (try go_simp); (try rfl)) kq ?_
  simp only [Act.put, List.setIfInBounds_toArray, List.set_cons_zero, List.set_cons_succ]
  refine wq_call rfl rfl (by simp) rfl 39 #[.agg (Na q)] (.tuple #[.agg (Na X), .bool ok]) (by intro w; (try go_simp); (try rfl)) kX ?_
  simp only [Act.put, List.setIfInBounds_toArray, List.set_cons_zero, List.set_cons_succ]
  refine wq_pure rfl rfl (by simp) rfl (.tuple #[.agg (Na X), .bool ok]) (by intro w; (try go_simp); (try rfl)) ?_
  simp only [Act.put, List.setIfInBounds_toArray, List.set_cons_zero, List.set_cons_succ]
  refine wq_pure rfl rfl (by simp) rfl (.agg (Na X)) (by intro w; (try go_simp); (try rfl)) ?_
  simp only [Act.put, List.setIfInBounds_toArray, List.set_cons_zero, List.set_cons_succ]
  refine wq_pure rfl rfl (by simp) rfl (.bool ok) (by intro w; (try go_simp); (try rfl)) ?_
  simp only [Act.put, List.setIfInBounds_toArray, List.set_cons_zero, List.set_cons_succ]
  refine wq_alloc rfl rfl rfl (Z4 45) (fun w => exec_alloc45 _ _ _ _ _ _ w) (fun v => eval_put_same _ _ _ (by simp)) (by rfl) (zz_new _) ?_
  intro b hb
  simp only [Act.put, List.setIfInBounds_toArray, List.set_cons_zero, List.set_cons_succ]
  refine wq_store45 X rfl rfl rfl _ _ rfl b hb (by rfl) (by rfl) (by rfl) (by rfl) (by rfl) ?_
  refine wq_pure rfl rfl (by simp) rfl (.bool ok) (by intro w; (try go_simp); (try rfl)) ?_
  simp only [Act.put, List.setIfInBounds_toArray, List.set_cons_zero, List.set_cons_succ]
  intro c hC
  obtain ⟨hU, hz⟩ := hC
  replace hz : Nu c b 0 X := hz b (by rfl) hb
  replace H := H.drewB.keep hU (fun _ _ h => h)
  replace R := R.drew.keep hU (fun _ _ h => h)
  replace Y := Y.drew.keep hU (fun _ _ h => h)
  replace A := A.drew.trans hU (fun _ _ _ h => h)
  simp only [World.size_drew] at hb
  have lz := hz.lt
  clear hU U V kyy ku km kv kiv kq kX NFF
  have c31 := H 31 (by decide)
  rw [Nat.zero_add] at c31
  have hb31 := HB
  clear HB
  cases ok
  · go_wp2_with (first
      | (refine wpList_store47 rfl _ _ rfl _ 0 0 0 _ _ _ (by rfl) (by rfl) R ?_; intro c21 hV R2))
    exact bodyPost_ret (results_cell2 (x := .bool false) rfl (by rfl) (load47 R2) (by rfl)) rfl ⟨⟨_, rfl, fun h => (by cases h), fun _ => rfl⟩, A.trans hV (fun b o hb h => absurd h.1 (by omega))⟩
  · obtain ⟨s, es⟩ : ∃ s, s = bs 31 := ⟨_, rfl⟩
    rw [← es] at c31 hb31
    obtain ⟨s0, s1⟩ := hb31
    have ES := Lib.hid es
    clear es
    by_cases hs : 128 ≤ s
    · go_wp2_with (first
        | (refine wpList_load45 rfl _ rfl _ _ (by rfl) _ hz ?_))
      refine (kx _).mono ?_
      rintro e c2 ⟨rfl, hU⟩
      replace hz := hz.keep hU (fun _ _ h => h)
      replace R := R.keep hU (fun _ _ h => h)
      replace Y := Y.keep hU (fun _ _ h => h)
      replace A := A.trans hU (fun _ _ _ h => h)
      clear hU kx c31 H
      obtain ⟨X2, eX2⟩ : ∃ X2, X2 = -X % Pn := ⟨_, rfl⟩
      rw [← eX2]
      have EX := Lib.hid eX2
      clear eX2
      go_wp2_with (first
        | (refine wpList_store45 rfl _ _ rfl _ _ X2 _ (by rfl) (by rfl) hz ?_; intro d hV XX; replace R := R.keep hV (fun i hi h => absurd h.1 (by omega)); replace Y := Y.keep hV (fun i hi h => absurd h.1 (by omega)); replace A := A.trans hV (fun b o hb h => absurd h.1 (by omega)); clear hV hz lA lY lR lz))
      refine wp_region_loose 4 (cls0 _) (by kernel_rfl) (by kernel_rfl) (Upd.refl _ _) ?_
      simp only [List.take_succ_cons, List.take_zero, List.drop_succ_cons, List.drop_zero]
      refine hd_load45 rfl (by simp) _ rfl _ _ (by rfl) _ XX.drew ?_
      simp only [Act.put, List.setIfInBounds_toArray, List.set_cons_zero, List.set_cons_succ]
      refine hd_load45 rfl (by simp) _ rfl _ _ (by rfl) _ Y.drew ?_
      simp only [Act.put, List.setIfInBounds_toArray, List.set_cons_zero, List.set_cons_succ]
      refine hd_call rfl (by simp) 36 #[.int .u64 1] _ (by intro w; (try go_simp); (try rfl)) k1 ?_
      simp only [Act.put, List.setIfInBounds_toArray, List.set_cons_zero, List.set_cons_succ]
      refine hd_pure rfl (by simp) (.agg (Pv X2 y 1)) (by intro w; simp only [Na, NaL, Pv, PvL, List.cons_append, List.nil_append]; go_simp) ?_
      intro c20 hU
      replace hU := (show Upd _ _ FF from hU)
      have lR := R.lt
      replace R := R.drew.keep hU (fun _ _ h => h)
      replace A := A.drew.trans hU (fun _ _ _ h => h)
      have lA := A.size
      go_wp2_with (first
        | (refine wpList_store47 rfl _ _ rfl _ X2 y 1 _ _ _ (by rfl) (by rfl) R ?_; intro c21 hV R2))
      exact bodyPost_ret (results_cell2 (x := .bool true) rfl (by rfl) (load47 R2) (by rfl)) rfl ⟨⟨_, rfl, fun _ => by rw [← ES.out, if_pos hs, EX.out], fun h => (by cases h)⟩, A.trans hV (fun b o hb h => absurd h.1 (by omega))⟩
    · go_wp2_with fail
      refine wp_region_loose 4 (cls0 _) (by kernel_rfl) (by kernel_rfl) (Upd.refl _ _) ?_
      simp only [List.take_succ_cons, List.take_zero, List.drop_succ_cons, List.drop_zero]
      refine hd_load45 rfl (by simp) _ rfl _ _ (by rfl) _ hz.drew ?_
      simp only [Act.put, List.setIfInBounds_toArray, List.set_cons_zero, List.set_cons_succ]
      refine hd_load45 rfl (by simp) _ rfl _ _ (by rfl) _ Y.drew ?_
      simp only [Act.put, List.setIfInBounds_toArray, List.set_cons_zero, List.set_cons_succ]
      refine hd_call rfl (by simp) 36 #[.int .u64 1] _ (by intro w; (try go_simp); (try rfl)) k1 ?_
      simp only [Act.put, List.setIfInBounds_toArray, List.set_cons_zero, List.set_cons_succ]
      refine hd_pure rfl (by simp) (.agg (Pv X y 1)) (by intro w; simp only [Na, NaL, Pv, PvL, List.cons_append, List.nil_append]; go_simp) ?_
      intro c20 hU
      replace hU := (show Upd _ _ FF from hU)
      have lR := R.lt
      replace R := R.drew.keep hU (fun _ _ h => h)
      replace A := A.drew.trans hU (fun _ _ _ h => h)
      have lA := A.size
      go_wp2_with (first
        | (refine wpList_store47 rfl _ _ rfl _ X y 1 _ _ _ (by rfl) (by rfl) R ?_; intro c21 hV R2))
      exact bodyPost_ret (results_cell2 (x := .bool true) rfl (by rfl) (load47 R2) (by rfl)) rfl ⟨⟨_, rfl, fun _ => by rw [← ES.out, if_neg (Int.not_le.2 hs)], fun h => (by cases h)⟩, A.trans hV (fun b o hb h => absurd h.1 (by omega))⟩

end Go.Proofs.YtkibnongmkhbaaaGreatDoor
end

section
open Go Go.RowKit
namespace Go.Proofs.YtkibnongmkhbaaaGreatDoor
open Ed

theorem P_Pn : (P : Int) = Pn := P_int
theorem val_mod (n : Int) : ((z n).val : Int) = n % Pn := by rw [val_z, P_Pn]
theorem val_mulN (X Y : F) : ((X * Y : F).val : Int) = X.val * Y.val % Pn := by
  rw [← val_mod, z_mul, z_val, z_val]
theorem val_addN (X Y : F) : ((X + Y : F).val : Int) = (X.val + Y.val) % Pn := by
  rw [← val_mod, z_add, z_val, z_val]
theorem val_subN (X Y : F) : ((X - Y : F).val : Int) = (X.val - Y.val) % Pn := by
  rw [← val_mod, z_sub, z_val, z_val]
theorem val_negN (X : F) : ((-X : F).val : Int) = -X.val % Pn := by
  rw [← val_mod, z_neg, z_val]

theorem val_powN (X : F) (k : Nat) : ((fpow X k : F).val : Int) = (X.val : Int) ^ k % Pn := by
  rw [← val_mod]
  congr 2
  induction k with
  | zero => show (1 : F) = z ((X.val : Int) ^ 0); rw [Int.pow_zero]; exact z_one.symm
  | succ k ih => show fpow X k * X = z ((X.val : Int) ^ (k + 1)); rw [Int.pow_succ, z_mul, ← ih, z_val]

/-- the bytes of the reference are those of the package -/
theorem encN_F (X Y : F) : encF X Y = fun i => if i = 31 then byteOf Y.val 31 + 128 * ((X.val : Int) % 2) else byteOf Y.val i := rfl

end Go.Proofs.YtkibnongmkhbaaaGreatDoor
end
