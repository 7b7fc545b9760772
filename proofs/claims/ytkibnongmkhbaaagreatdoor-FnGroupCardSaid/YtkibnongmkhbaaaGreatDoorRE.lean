/- Part of the proof that laws.FnGroup returns true for all 32 bytes p, q and x: the reference's root and identity.
   Conditions: those that each theorem states. -/
import Derived.ChangeKeysEq
import Derived.Test.YtkibnongmkhbaaaGreatDoorRA
import Derived.Test.YtkibnongmkhbaaaGreatDoorRD

section
open Go Go.RowKit
namespace Go.Proofs.YtkibnongmkhbaaaGreatDoor

theorem eq_items {P : Program} (d : Nat) {e : TypeId} {k : IntKind} (he : P.underlying e = some (.int k)) (xs ys : Array Value) (f g : Nat → Int) (w : World) :
    ∀ is : List Nat, (∀ i ∈ is, xs[i]? = some (.int k (f i)) ∧ ys[i]? = some (.int k (g i))) → (Op.eqItems (d + 1) e 1 xs ys is).run P w = .ok (is.all fun i => f i == g i) w
  | [], _ => by simp [Op.eqItems]
  | i :: is, h => by
    obtain ⟨h1, h2⟩ := h i (by simp)
    have ih := eq_items d he xs ys f g w is (fun j hj => h j (by simp [hj]))
    have px : (part e xs (i * 1)).run P w = .ok (.int k (f i)) w := by
      simp [part, isAgg, run_underlying he, h1]
    have py : (part e ys (i * 1)).run P w = .ok (.int k (g i)) w := by
      simp [part, isAgg, run_underlying he, h2]
    have pe : (Op.equalIn (d + 1) e (.int k (f i)) (.int k (g i))).run P w = .ok (f i == g i) w := run_equalIn_int w d e k k _ _ he
    simp only [Op.eqItems, Sem.run_bind, px, py, pe, Result.andThen_ok, List.all_cons]
    cases hb : (f i == g i)
    · simp
    · simpa using ih

theorem eq45 (a b : Int) (ha : 0 ≤ a) (ha1 : a < 115792089237316195423570985008687907853269984665640564039457584007913129639936) (hb : 0 ≤ b) (hb1 : b < 115792089237316195423570985008687907853269984665640564039457584007913129639936) (w : World) :
    (Op.equalIn 10000 45 (.agg (Na a)) (.agg (Na b))).run Tryz.prog w = .ok (decide (a = b)) w := by
  have hu : Tryz.prog.underlying 45 = some (.array 4 38) := by kernel_rfl
  have he : Tryz.prog.underlying 38 = some (.int .u64) := by kernel_rfl
  obtain ⟨i, hi⟩ : ∃ i, Tryz.prog.info? 38 = some i := by
    have : (Tryz.prog.info? 38).isSome = true := by kernel_rfl
    exact Option.isSome_iff_exists.1 this
  have hc : Tryz.prog.cellsOf 38 = 1 := by kernel_rfl
  have hb : ((List.range 4).all fun i => wd a i == wd b i) = decide (a = b) := by
    rw [Bool.eq_iff_iff]
    simp only [List.all_eq_true, List.mem_range, beq_iff_eq, decide_eq_true_eq]
    constructor
    · intro h
      have h0 := h 0 (by decide); have h1 := h 1 (by decide); have h2 := h 2 (by decide); have h3 := h 3 (by decide)
      unfold wd at h0 h1 h2 h3
      simp only [Int.reducePow] at h0 h1 h2 h3
      omega
    · intro h i _
      rw [h]
  rw [run_equalIn_array w 9999 (Na a) (Na b) hu hi, hc, eq_items 9998 he (Na a) (Na b) (wd a) (wd b) w (List.range 4) (fun i hi => ?_), hb]
  have hi4 := List.mem_range.1 hi
  unfold Na
  exact ⟨by rw [List.getElem?_toArray]; exact NaL_get a i hi4, by rw [List.getElem?_toArray]; exact NaL_get b i hi4⟩

theorem eq22 (f g : Nat → Int) (w : World) : ∃ r : Bool, (Op.equalIn 10000 22 (.agg (Arr f)) (.agg (Arr g))).run Tryz.prog w = .ok r w ∧ (r = true ↔ ∀ i, i < 32 → f i = g i) := by
  have hu : Tryz.prog.underlying 22 = some (.array 32 5) := by kernel_rfl
  have he : Tryz.prog.underlying 5 = some (.int .u8) := by kernel_rfl
  obtain ⟨i, hi⟩ : ∃ i, Tryz.prog.info? 5 = some i := by
    have : (Tryz.prog.info? 5).isSome = true := by kernel_rfl
    exact Option.isSome_iff_exists.1 this
  have hc : Tryz.prog.cellsOf 5 = 1 := by kernel_rfl
  refine ⟨(List.range 32).all fun i => f i == g i, ?_, ?_⟩
  · rw [run_equalIn_array w 9999 (Arr f) (Arr g) hu hi, hc, eq_items 9998 he (Arr f) (Arr g) f g w (List.range 32) (fun i hi => ?_)]
    have hi4 := List.mem_range.1 hi
    unfold Arr
    constructor <;> rw [List.getElem?_toArray, List.getElem?_map, List.getElem?_range hi4] <;> rfl
  · simp only [List.all_eq_true, List.mem_range, beq_iff_eq]

end Go.Proofs.YtkibnongmkhbaaaGreatDoor
end

section
open Go Go.RowKit
namespace Go.Proofs.YtkibnongmkhbaaaGreatDoor
open Ed

theorem Na_eRoot : Na (eRoot : Int) = #[.int .u64 18446744073709551614, .int .u64 18446744073709551615, .int .u64 18446744073709551615, .int .u64 1152921504606846975] := by rw [eRoot_cast]; rfl
theorem Na_eTwo : Na (eTwo : Int) = #[.int .u64 18446744073709551611, .int .u64 18446744073709551615, .int .u64 18446744073709551615, .int .u64 2305843009213693951] := by rw [eTwo_cast]; rfl

/-- the two roots that are tried -/
def rt1 (N : Int) : Int := N ^ eRoot % Pn
def rtI : Int := 2 ^ eTwo % Pn
def rt2 (N : Int) : Int := rt1 N * rtI % Pn
def rootV (N : Int) : Int := if rt1 N * rt1 N % Pn = N then absN (rt1 N) else if rt2 N * rt2 N % Pn = N then absN (rt2 N) else 0
def rootB (N : Int) : Bool := decide (rt1 N * rt1 N % Pn = N) || decide (rt2 N * rt2 N % Pn = N)

set_option maxRecDepth 100000 in
set_option maxHeartbeats 8000000 in
theorem root_c (N : Int) (h0 : 0 ≤ N) (h1 : N < Pn) (w : World) : Calls Tryz.prog 39 #[.agg (Na N)] w fun e w' => e = .returned (.tuple #[.agg (Na (rootV N)), .bool (rootB N)]) ∧ Upd w w' FF := by
  have A1 := (((Upd.refl w FF).alloc (.cells (Na N) 45)).alloc (Z4 45)).alloc (Z4 45)
  have n1 := (Nu.boxed w N 45).keep (((Upd.refl _ FF).alloc (Z4 45)).alloc (Z4 45)) (fun _ _ h => h)
  have n2 := (Nu.zero (w.alloc (.cells (Na N) 45)) 45).keep ((Upd.refl _ FF).alloc (Z4 45)) (fun _ _ h => h)
  have n3 := Nu.zero ((w.alloc (.cells (Na N) 45)).alloc (Z4 45)) 45
  simp only [World.size_alloc] at n2 n3
  have hR0 : 0 ≤ rt1 N := Int.emod_nonneg _ (by decide)
  have hR1 : rt1 N < Pn := Int.emod_lt_of_pos _ (by decide)
  have hp := fun w => power_c N eRoot Pn h0 h1 (by decide) eRoot_lt (by decide) w
  change ∀ w, Calls Tryz.prog 73 _ w fun e w' => e = .returned (.agg (Na (rt1 N))) ∧ Upd w w' FF at hp
  obtain ⟨R, eR⟩ : ∃ R, R = rt1 N := ⟨_, rfl⟩
  rw [← eR] at hp hR0 hR1
  have ER := Lib.hid eR
  clear eR
  go_enter Tryz.func39, Tryz.ntmps39
  go_wp2_with (first
    | (refine wpList_store45 rfl _ _ rfl _ _ (eRoot : Int) _ (by rfl) (by exact congrArg Value.agg Na_eRoot.symm) n3 ?_; intro w1 hU1 n4))
  replace n1 := n1.keep hU1 (fun i hi h => absurd h.1 (by omega))
  replace n2 := n2.keep hU1 (fun i hi h => absurd h.1 (by omega))
  replace A1 := A1.trans hU1 (fun b o hb h => absurd h.1 (by omega))
  have s1 := n4.lt
  clear hU1 n3
  refine wp_region_loose 5 (clsN _ 5) (by kernel_rfl) (by kernel_rfl) (begin1 _ _ _ _ (by rfl)) ?_
  simp only [List.take_succ_cons, List.take_zero, List.drop_succ_cons, List.drop_zero]
  refine hd_load45 rfl (by simp) _ rfl _ _ (by rfl) N n1.drew ?_
  simp only [Act.put, List.setIfInBounds_toArray, List.set_cons_zero, List.set_cons_succ]
  refine hd_load45 rfl (by simp) _ rfl _ _ (by rfl) (eRoot : Int) n4.drew ?_
  simp only [Act.put, List.setIfInBounds_toArray, List.set_cons_zero, List.set_cons_succ]
  refine hd_call rfl (by simp) 34 #[] _ (by intro w; (try go_simp); (try rfl)) (fun w => prime_c w) ?_
  simp only [Act.put, List.setIfInBounds_toArray, List.set_cons_zero, List.set_cons_succ]
  refine hd_call rfl (by simp) 73 #[.agg (Na N), .agg (Na (eRoot : Int)), .agg (Na Pn)] _ (by intro w; (try go_simp); (try rfl)) hp ?_
  simp only [Act.put, List.setIfInBounds_toArray, List.set_cons_zero, List.set_cons_succ]
  refine hd_alloc rfl rfl (Z4 45) (fun w => exec_alloc45 _ _ _ _ _ _ w) (fun v => eval_put_same _ _ _ (by simp)) zn_new ?_
  intro b5 hb5 w2 hC
  obtain ⟨hU2, hz⟩ := hC
  replace hz : Nu w2 b5 0 0 := hz b5 (eval_put_same _ _ _ (by simp)) hb5
  replace n1 := (show Nu w1.drew _ _ _ from n1).keep hU2 (fun _ _ h => h)
  replace n2 := (show Nu w1.drew _ _ _ from n2).keep hU2 (fun _ _ h => h)
  replace A1 := A1.drew.trans hU2 (fun _ _ _ h => h)
  simp only [World.size_drew] at hb5
  clear hU2 n4 hp
  go_wp2_with (first
    | (refine wpList_store45 rfl _ _ rfl _ _ R _ (by rfl) (by rfl) hz ?_; intro w3 hU3 n5))
  replace n1 := n1.keep hU3 (fun i hi h => absurd h.1 (by omega))
  replace n2 := n2.keep hU3 (fun i hi h => absurd h.1 (by omega))
  replace A1 := A1.trans hU3 (fun b o hb h => absurd h.1 (by omega))
  clear hU3 hz
  refine wp_region_loose 5 (cls0 _) (by kernel_rfl) (by kernel_rfl) (Upd.refl _ _) ?_
  simp only [List.take_succ_cons, List.take_zero, List.drop_succ_cons, List.drop_zero]
  refine hd_load45 rfl (by simp) _ rfl _ _ (by rfl) R n5.drew ?_
  simp only [Act.put, List.setIfInBounds_toArray, List.set_cons_zero, List.set_cons_succ]
  refine hd_load45 rfl (by simp) _ rfl _ _ (by rfl) R n5.drew ?_
  simp only [Act.put, List.setIfInBounds_toArray, List.set_cons_zero, List.set_cons_succ]
  refine hd_call rfl (by simp) 34 #[] _ (by intro w; (try go_simp); (try rfl)) (fun w => prime_c w) ?_
  simp only [Act.put, List.setIfInBounds_toArray, List.set_cons_zero, List.set_cons_succ]
  refine hd_call rfl (by simp) 33 #[.agg (Na R), .agg (Na R), .agg (Na Pn)] _ (by intro w; (try go_simp); (try rfl)) (fun w => times_c R R Pn hR0 hR1 hR0 (by unfold Pn at hR1; omega) (by decide) w) ?_
  simp only [Act.put, List.setIfInBounds_toArray, List.set_cons_zero, List.set_cons_succ]
  refine hd_load45 rfl (by simp) _ rfl _ _ (by rfl) N n1.drew ?_
  intro w4 hU4
  replace hU4 := (show Upd _ _ FF from hU4)
  replace n1 := n1.drew.keep hU4 (fun _ _ h => h)
  replace n2 := n2.drew.keep hU4 (fun _ _ h => h)
  replace n5 := n5.drew.keep hU4 (fun _ _ h => h)
  replace A1 := A1.drew.trans hU4 (fun _ _ _ h => h)
  clear hU4
  have hm0 : 0 ≤ R * R % Pn := Int.emod_nonneg _ (by decide)
  have hm1 : R * R % Pn < Pn := Int.emod_lt_of_pos _ (by decide)
  have hPb : Pn < 115792089237316195423570985008687907853269984665640564039457584007913129639936 := by decide
  have hq := eq45 (R * R % Pn) N hm0 (Int.lt_trans hm1 hPb) h0 (Int.lt_trans h1 hPb)
  by_cases hc : R * R % Pn = N
  · have hq1 : ∀ w, (Op.equalIn 10000 45 (.agg (Na (R * R % Pn))) (.agg (Na N))).run Tryz.prog w = .ok true w := fun w => by rw [hq w]; simp [hc]
    have hV : rootV N = absN R ∧ rootB N = true := by unfold rootV rootB; rw [← ER.out, if_pos hc]; simp [hc]
    have HV := Lib.hid hV
    clear hV hq hc hm0 hm1
    go_wp2_with (first
      | (refine wpList_load45 rfl _ rfl _ _ (by rfl) R n5 ?_))
    refine (absolute_c R hR0 hR1 _).mono ?_
    rintro e w5 ⟨rfl, hU5⟩
    replace n2 := n2.keep hU5 (fun _ _ h => h)
    clear n5 hq1
    go_wp2_with (first
      | (refine wpList_store45 rfl _ _ rfl _ _ _ _ (by rfl) (by rfl) n2 ?_; intro w6 hU6 n6))
    exact bodyPost_ret (results_cell2 (x := .bool true) rfl (by rfl) (load45 n6) (by rfl)) rfl ⟨by rw [HV.out.1, HV.out.2], (A1.trans hU5 (fun _ _ _ h => h)).trans hU6 (fun b o hb h => absurd h.1 (by omega))⟩
  · have hq1 : ∀ w, (Op.equalIn 10000 45 (.agg (Na (R * R % Pn))) (.agg (Na N))).run Tryz.prog w = .ok false w := fun w => by rw [hq w]; simp [hc]
    have HC := Lib.hid hc
    have hp := fun w => power_c 2 eTwo Pn (by decide) (by decide) (by decide) eTwo_lt (by decide) w
    change ∀ w, Calls Tryz.prog 73 _ w fun e w' => e = .returned (.agg (Na rtI)) ∧ Upd w w' FF at hp
    have hI0 : 0 ≤ rtI := Int.emod_nonneg _ (by decide)
    have hI1 : rtI < Pn := Int.emod_lt_of_pos _ (by decide)
    have hT : rt2 N = R * rtI % Pn := by unfold rt2; rw [ER.out]
    obtain ⟨J, eJ⟩ : ∃ J, J = rtI := ⟨_, rfl⟩
    rw [← eJ] at hp hI0 hI1 hT
    have EJ := Lib.hid eJ
    have HT := Lib.hid hT
    have hT0 : 0 ≤ R * J % Pn := Int.emod_nonneg _ (by decide)
    have hT1 : R * J % Pn < Pn := Int.emod_lt_of_pos _ (by decide)
    have hJb : J < 115792089237316195423570985008687907853269984665640564039457584007913129639936 := Int.lt_trans hI1 hPb
    obtain ⟨T, eT⟩ : ∃ T, T = R * J % Pn := ⟨_, rfl⟩
    have htm := fun w => times_c R J Pn hR0 hR1 hI0 hJb (by decide) w
    rw [← eT] at hT0 hT1 htm
    have ET := Lib.hid eT
    clear eJ hT eT hq hc hm0 hm1
    go_wp2_with fail
    refine wp_region_loose 7 (cls0 _) (by kernel_rfl) (by kernel_rfl) (Upd.refl _ _) ?_
    simp only [List.take_succ_cons, List.take_zero, List.drop_succ_cons, List.drop_zero]
    refine hd_load45 rfl (by simp) _ rfl _ _ (by rfl) R n5.drew ?_
    simp only [Act.put, List.setIfInBounds_toArray, List.set_cons_zero, List.set_cons_succ]
    refine hd_call rfl (by simp) 36 #[.int .u64 2] _ (by intro w; (try go_simp); (try rfl)) (fun w => small_c 2 (by decide) (by decide) w) ?_
    simp only [Act.put, List.setIfInBounds_toArray, List.set_cons_zero, List.set_cons_succ]
    refine hd_pure rfl (by simp) (.agg (Na (eTwo : Int))) (by intro w; (try go_simp); (first | exact Na_eTwo.symm | exact congrArg (fun v => Result.ok (Next.value (Value.agg v)) w) Na_eTwo.symm | rw [Na_eTwo])) ?_
    simp only [Act.put, List.setIfInBounds_toArray, List.set_cons_zero, List.set_cons_succ]
    refine hd_call rfl (by simp) 34 #[] _ (by intro w; (try go_simp); (try rfl)) (fun w => prime_c w) ?_
    simp only [Act.put, List.setIfInBounds_toArray, List.set_cons_zero, List.set_cons_succ]
    refine hd_call rfl (by simp) 73 #[.agg (Na 2), .agg (Na (eTwo : Int)), .agg (Na Pn)] _ (by intro w; (try go_simp); (try rfl)) hp ?_
    simp only [Act.put, List.setIfInBounds_toArray, List.set_cons_zero, List.set_cons_succ]
    refine hd_call rfl (by simp) 34 #[] _ (by intro w; (try go_simp); (try rfl)) (fun w => prime_c w) ?_
    simp only [Act.put, List.setIfInBounds_toArray, List.set_cons_zero, List.set_cons_succ]
    refine hd_call rfl (by simp) 33 #[.agg (Na R), .agg (Na J), .agg (Na Pn)] _ (by intro w; (try go_simp); (try rfl)) htm ?_
    intro w5 hU5
    replace hU5 := (show Upd _ _ FF from hU5)
    replace n1 := n1.drew.keep hU5 (fun _ _ h => h)
    replace n2 := n2.drew.keep hU5 (fun _ _ h => h)
    replace n5 := n5.drew.keep hU5 (fun _ _ h => h)
    replace A1 := A1.drew.trans hU5 (fun _ _ _ h => h)
    clear hU5 hp htm hq1
    go_wp2_with (first
      | (refine wpList_store45 rfl _ _ rfl _ _ T _ (by rfl) (by rfl) n5 ?_; intro w6 hU6 n6))
    replace n1 := n1.keep hU6 (fun i hi h => absurd h.1 (by omega))
    replace n2 := n2.keep hU6 (fun i hi h => absurd h.1 (by omega))
    replace A1 := A1.trans hU6 (fun b o hb h => absurd h.1 (by omega))
    clear hU6 n5
    refine wp_region_loose 5 (cls0 _) (by kernel_rfl) (by kernel_rfl) (Upd.refl _ _) ?_
    simp only [List.take_succ_cons, List.take_zero, List.drop_succ_cons, List.drop_zero]
    refine hd_load45 rfl (by simp) _ rfl _ _ (by rfl) T n6.drew ?_
    simp only [Act.put, List.setIfInBounds_toArray, List.set_cons_zero, List.set_cons_succ]
    refine hd_load45 rfl (by simp) _ rfl _ _ (by rfl) T n6.drew ?_
    simp only [Act.put, List.setIfInBounds_toArray, List.set_cons_zero, List.set_cons_succ]
    refine hd_call rfl (by simp) 34 #[] _ (by intro w; (try go_simp); (try rfl)) (fun w => prime_c w) ?_
    simp only [Act.put, List.setIfInBounds_toArray, List.set_cons_zero, List.set_cons_succ]
    refine hd_call rfl (by simp) 33 #[.agg (Na T), .agg (Na T), .agg (Na Pn)] _ (by intro w; (try go_simp); (try rfl)) (fun w => times_c T T Pn hT0 hT1 hT0 (Int.lt_trans hT1 hPb) (by decide) w) ?_
    simp only [Act.put, List.setIfInBounds_toArray, List.set_cons_zero, List.set_cons_succ]
    refine hd_load45 rfl (by simp) _ rfl _ _ (by rfl) N n1.drew ?_
    intro w7 hU7
    replace hU7 := (show Upd _ _ FF from hU7)
    replace n2 := n2.drew.keep hU7 (fun _ _ h => h)
    replace n6 := n6.drew.keep hU7 (fun _ _ h => h)
    replace A1 := A1.drew.trans hU7 (fun _ _ _ h => h)
    clear hU7 n1
    have hm0 : 0 ≤ T * T % Pn := Int.emod_nonneg _ (by decide)
    have hm1 : T * T % Pn < Pn := Int.emod_lt_of_pos _ (by decide)
    have hq := eq45 (T * T % Pn) N hm0 (Int.lt_trans hm1 hPb) h0 (Int.lt_trans h1 hPb)
    by_cases hc : T * T % Pn = N
    · have hq1 : ∀ w, (Op.equalIn 10000 45 (.agg (Na (T * T % Pn))) (.agg (Na N))).run Tryz.prog w = .ok true w := fun w => by rw [hq w]; simp [hc]
      have hV : rootV N = absN T ∧ rootB N = true := by
        unfold rootV rootB
        rw [HT.out, ← ET.out, ← ER.out, if_neg HC.out, if_pos hc]
        simp [hc]
      have HV := Lib.hid hV
      clear hV hq hc hm0 hm1
      go_wp2_with (first
        | (refine wpList_load45 rfl _ rfl _ _ (by rfl) T n6 ?_))
      refine (absolute_c T hT0 hT1 _).mono ?_
      rintro e w8 ⟨rfl, hU8⟩
      replace n2 := n2.keep hU8 (fun _ _ h => h)
      clear n6 hq1
      go_wp2_with (first
        | (refine wpList_store45 rfl _ _ rfl _ _ _ _ (by rfl) (by rfl) n2 ?_; intro w9 hU9 n9))
      exact bodyPost_ret (results_cell2 (x := .bool true) rfl (by rfl) (load45 n9) (by rfl)) rfl ⟨by rw [HV.out.1, HV.out.2], (A1.trans hU8 (fun _ _ _ h => h)).trans hU9 (fun b o hb h => absurd h.1 (by omega))⟩
    · have hq1 : ∀ w, (Op.equalIn 10000 45 (.agg (Na (T * T % Pn))) (.agg (Na N))).run Tryz.prog w = .ok false w := fun w => by rw [hq w]; simp [hc]
      have hV : rootV N = 0 ∧ rootB N = false := by
        unfold rootV rootB
        rw [HT.out, ← ET.out, ← ER.out, if_neg HC.out, if_neg hc]
        simp [hc, HC.out]
      have HV := Lib.hid hV
      clear hV hq hc hm0 hm1
      go_wp2_with (first
        | (refine wpList_store45 rfl _ _ rfl _ _ 0 _ (by rfl) (by rfl) n2 ?_; intro w9 hU9 n9))
      exact bodyPost_ret (results_cell2 (x := .bool false) rfl (by rfl) (load45 n9) (by rfl)) rfl ⟨by rw [HV.out.1, HV.out.2], A1.trans hU9 (fun b o hb h => absurd h.1 (by omega))⟩

end Go.Proofs.YtkibnongmkhbaaaGreatDoor
end

section
open Go Go.RowKit
namespace Go.Proofs.YtkibnongmkhbaaaGreatDoor
open Ed

/-- a point of the reference as a value -/
def PvL (x y z : Int) : List Value := NaL x ++ NaL y ++ NaL z
def Pv (x y z : Int) : Array Value := (PvL x y z).toArray
/-- a point of the reference in memory -/
structure Np (w : World) (b : Nat) (x y z : Int) : Prop where
  x : Nu w b 0 x
  y : Nu w b 4 y
  z : Nu w b 8 z
theorem Np.lt {w : World} {b : Nat} {x y z : Int} (h : Np w b x y z) : b < w.heap.size := h.x.lt
theorem Np.keep {w w' : World} {S : Nat → Nat → Prop} {b : Nat} {x y z : Int} (hu : Upd w w' S) (h : Np w b x y z) (hn : ∀ i, i < 12 → ¬ S b i) : Np w' b x y z :=
  ⟨h.x.keep hu (fun i hi => hn _ (by omega)), h.y.keep hu (fun i hi => hn _ (by omega)), h.z.keep hu (fun i hi => hn _ (by omega))⟩
theorem Np.drew {w : World} {b : Nat} {x y z : Int} (h : Np w b x y z) : Np w.drew b x y z := ⟨h.x.drew, h.y.drew, h.z.drew⟩
theorem PvL_len (x y z : Int) : (PvL x y z).length = 12 := rfl
theorem PvL_get (x y z : Int) (i : Nat) (hi : i < 4) : (PvL x y z)[0 + i]? = some (.int .u64 (wd x i)) ∧ (PvL x y z)[4 + i]? = some (.int .u64 (wd y i)) ∧ (PvL x y z)[8 + i]? = some (.int .u64 (wd z i)) := by
  have : i = 0 ∨ i = 1 ∨ i = 2 ∨ i = 3 := by omega
  rcases this with rfl | rfl | rfl | rfl <;> simp [PvL, NaL, wd]
theorem PvL_one (x y z : Int) : ∀ v ∈ PvL x y z, v.oneCell' = true := fun v hv => by
  unfold PvL at hv
  rw [List.mem_append, List.mem_append] at hv
  rcases hv with (h | h) | h
  · exact NaL_one _ v h
  · exact NaL_one _ v h
  · exact NaL_one _ v h
theorem Np.of_cells {w : World} {b : Nat} {x y z : Int} (hr : w.rangeAt b 0 (PvL x y z)) (hf : ∀ i, i < 12 → w.frozen? ⟨b, i, none⟩ = false) : Np w b x y z := by
  refine ⟨fun i hi => ⟨?_, hf _ (by omega)⟩, fun i hi => ⟨?_, hf _ (by omega)⟩, fun i hi => ⟨?_, hf _ (by omega)⟩⟩
  · have := hr _ _ (PvL_get x y z i hi).1; rwa [Nat.zero_add] at this
  · have := hr _ _ (PvL_get x y z i hi).2.1; rwa [Nat.zero_add] at this
  · have := hr _ _ (PvL_get x y z i hi).2.2; rwa [Nat.zero_add] at this
theorem Np.boxed (w : World) (x y z : Int) (t : TypeId) : Np (w.alloc (.cells (Pv x y z) t)) w.heap.size x y z :=
  Np.of_cells (fun j v hv => by
    rw [Nat.zero_add, World.cell?_alloc_new]
    unfold Pv
    rw [List.getElem?_toArray]
    exact hv) (fun i _ => World.frozen?_alloc_new _ _ _ _)
def Z12 (t : TypeId) : Obj := .cells #[.int .u64 0, .int .u64 0, .int .u64 0, .int .u64 0, .int .u64 0, .int .u64 0, .int .u64 0, .int .u64 0, .int .u64 0, .int .u64 0, .int .u64 0, .int .u64 0] t
theorem Np.zero (w : World) (t : TypeId) : Np (w.alloc (Z12 t)) w.heap.size 0 0 0 := Np.boxed w 0 0 0 t
theorem row47 : ∃ d, Tryz.prog.underlying 47 = some d ∧ d.isRow = true := isRow_of (by kernel_rfl)
theorem size47 : (Tryz.prog.info? 47).map (·.size) = some 12 := by kernel_rfl
theorem Np.cell {w : World} {b : Nat} {x y z : Int} (h : Np w b x y z) (j : Nat) (hj : j < 12) : w.cell? ⟨b, j, none⟩ = (PvL x y z)[j]? ∧ w.frozen? ⟨b, j, none⟩ = false := by
  have : j < 4 ∨ (∃ i, i < 4 ∧ j = 4 + i) ∨ (∃ i, i < 4 ∧ j = 8 + i) := by
    by_cases h1 : j < 4
    · exact .inl h1
    · by_cases h2 : j < 8
      · exact .inr (.inl ⟨j - 4, by omega, by omega⟩)
      · exact .inr (.inr ⟨j - 8, by omega, by omega⟩)
  rcases this with h1 | ⟨i, hi, rfl⟩ | ⟨i, hi, rfl⟩
  · have e := (PvL_get x y z j h1).1
    have k := h.x j h1
    rw [Nat.zero_add] at e k
    exact ⟨k.1.trans e.symm, k.2⟩
  · exact ⟨(h.y i hi).1.trans (PvL_get x y z i hi).2.1.symm, (h.y i hi).2⟩
  · exact ⟨(h.z i hi).1.trans (PvL_get x y z i hi).2.2.symm, (h.z i hi).2⟩
theorem Np.range {w : World} {b : Nat} {x y z : Int} (h : Np w b x y z) : w.rangeAt b 0 (PvL x y z) := fun j v hv => by
  have hj : j < 12 := by have := (List.getElem?_eq_some_iff.1 hv).1; rw [PvL_len] at this; exact this
  rw [Nat.zero_add, (h.cell j hj).1]
  exact hv
theorem Np.there {w : World} {b : Nat} {x y z : Int} (h : Np w b x y z) : w.there b 0 12 := fun j hj => by
  rw [Nat.zero_add]
  refine ⟨?_, (h.cell j hj).2⟩
  rw [(h.cell j hj).1, List.getElem?_eq_getElem (by rw [PvL_len]; exact hj)]
  rfl
theorem load47 {w : World} {b : Nat} {x y z : Int} (h : Np w b x y z) : (loadVar 47 ⟨b, 0, none⟩).run Tryz.prog w = .ok (.agg (Pv x y z)) w := by
  obtain ⟨t, hu, hd⟩ := row47
  exact run_loadVar_mid w b 0 47 (PvL x y z) t h.range hu hd (by rw [PvL_len]; exact size47)
theorem wpList_load47 {ops : Array Oper} {rest : List Oper} {op : Oper} {a : Act} {w : World} {Q : Exit → Act → World → Prop} (hgd : op.guard = none) (v : Operand) (ho : op.op = .load 47 v)
    (b : Nat) (hx : a.eval v = .pointer (some ⟨b, 0, none⟩)) (x y z : Int) (hB : Np w b x y z)
    (h : wpList Tryz.prog ops Q rest (a.put op.dst (.agg (Pv x y z))) w) : wpList Tryz.prog ops Q (op :: rest) a w := by
  obtain ⟨t, hu, hd⟩ := row47
  exact wpList_load_mid hgd 47 v ho b 0 hx (PvL x y z) t hB.range hu hd (by rw [PvL_len]; exact size47) h
theorem wpList_store47 {ops : Array Oper} {rest : List Oper} {op : Oper} {a : Act} {w : World} {Q : Exit → Act → World → Prop} (hgd : op.guard = none) (u v : Operand) (ho : op.op = .store 47 u v)
    (b : Nat) (x y z x' y' z' : Int) (hx : a.eval u = .pointer (some ⟨b, 0, none⟩)) (hy : a.eval v = .agg (Pv x y z)) (hW : Np w b x' y' z')
    (h : ∀ w', Upd w w' (Rg b 0 12) → Np w' b x y z → wpList Tryz.prog ops Q rest (a.put op.dst undef) w') : wpList Tryz.prog ops Q (op :: rest) a w := by
  have hr := World.rangeAt_setCells_same w b 0 (PvL x y z) hW.there
  refine wpList_store_mid hgd 47 u v ho b 0 (Pv x y z) hx hy hW.there size47 (all_oneCell_toArray (PvL_one x y z)) ?_
  refine h (w.setCells b 0 (PvL x y z)) ((Upd.refl w _).cells b (PvL x y z) 0 (fun i hi _ => ⟨rfl, by omega, by rw [PvL_len] at hi; omega⟩)) (Np.of_cells hr (fun i hi => ?_))
  rw [World.frozen?_setCells]
  exact (hW.cell i hi).2

set_option maxRecDepth 100000 in
set_option maxHeartbeats 4000000 in
theorem identity_c (w : World) : Calls Tryz.prog 26 #[] w fun e w' => e = .returned (.agg (Pv 0 1 1)) ∧ Upd w w' FF := by
  have A1 := (Upd.refl w FF).alloc (Z12 47)
  have n1 := Np.zero w 47
  go_enter Tryz.func26, Tryz.ntmps26
  go_wp2_with fail
  refine (small_c 1 (by decide) (by decide) _).mono ?_
  rintro e w1 ⟨rfl, hU⟩
  replace n1 := n1.keep hU (fun _ _ h => h)
  replace A1 := A1.trans hU (fun _ _ _ h => h)
  clear hU
  go_wp2_with fail
  refine (small_c 1 (by decide) (by decide) _).mono ?_
  rintro e w2 ⟨rfl, hU⟩
  replace n1 := n1.keep hU (fun _ _ h => h)
  replace A1 := A1.trans hU (fun _ _ _ h => h)
  clear hU
  go_wp2_with (first
    | (refine wpList_store47 rfl _ _ rfl _ 0 1 1 _ _ _ (by rfl) (by rfl) n1 ?_; intro w3 hU3 n3))
  exact bodyPost_ret (results_cell rfl (by rfl) (load47 n3)) rfl ⟨rfl, A1.trans hU3 (fun b o hb h => absurd h.1 (by omega))⟩

end Go.Proofs.YtkibnongmkhbaaaGreatDoor
end
