/- Part of the proof that laws.FnGroup returns true for all 32 bytes p, q and x: the reference's added.
   Conditions: those that each theorem states. -/
import Derived.Test.YtkibnongmkhbaaaGreatDoorRE

section
open Go Go.RowKit
namespace Go.Proofs.YtkibnongmkhbaaaGreatDoor
open Ed

theorem Nu.cellsIn {w : World} {b o : Nat} {N : Int} (h : Nu w b o N) : w.cell? ⟨b, o, none⟩ = some (.int .u64 (N % 18446744073709551616)) ∧ w.cell? ⟨b, o + 1, none⟩ = some (.int .u64 (N / 18446744073709551616 % 18446744073709551616)) ∧ w.cell? ⟨b, o + 2, none⟩ = some (.int .u64 (N / 340282366920938463463374607431768211456 % 18446744073709551616)) ∧ w.cell? ⟨b, o + 3, none⟩ = some (.int .u64 (N / 6277101735386680763835789423207666416102355444464034512896 % 18446744073709551616)) := by
  have h0 := (h 0 (by decide)).1; have h1 := (h 1 (by decide)).1; have h2 := (h 2 (by decide)).1; have h3 := (h 3 (by decide)).1
  unfold wd at h0 h1 h2 h3
  simp only [Int.reducePow, Int.ediv_one, Nat.add_zero] at h0 h1 h2 h3
  exact ⟨h0, h1, h2, h3⟩
/-- below the prime -/
def Rn (a : Int) : Prop := 0 ≤ a ∧ a < Pn
theorem Pn_lt : Pn < 57896044618658097711785492504343953926634992332820282019728792003956564819968 := by decide
theorem Rn.big {a : Int} (h : Rn a) : a < 115792089237316195423570985008687907853269984665640564039457584007913129639936 := Int.lt_trans h.2 (by decide)
theorem Rn_mod (a : Int) : Rn (a % Pn) := ⟨Int.emod_nonneg _ (by decide), Int.emod_lt_of_pos _ (by decide)⟩
theorem timesP {a b c : Int} (ha : Rn a) (hb : Rn b) (e : c = (a * b) % Pn) (w : World) : Calls Tryz.prog 33 #[.agg (Na a), .agg (Na b), .agg (Na Pn)] w fun e w' => e = .returned (.agg (Na c)) ∧ Upd w w' FF := by
  rw [e]; exact times_c a b Pn ha.1 ha.2 hb.1 hb.big Pn_lt w
theorem plusP {a b c : Int} (ha : Rn a) (hb : Rn b) (e : c = (a + b) % Pn) (w : World) : Calls Tryz.prog 37 #[.agg (Na a), .agg (Na b), .agg (Na Pn)] w fun e w' => e = .returned (.agg (Na c)) ∧ Upd w w' FF := by
  rw [e]; exact plus_c a b Pn ha.1 ha.2 hb.1 hb.2 Pn_lt w
theorem minusP {a b c : Int} (ha : Rn a) (hb : Rn b) (e : c = (a - b) % Pn) (w : World) : Calls Tryz.prog 35 #[.agg (Na a), .agg (Na b), .agg (Na Pn)] w fun e w' => e = .returned (.agg (Na c)) ∧ Upd w w' FF := by
  rw [e]; exact minus_c a b Pn ha.1 ha.2 hb.1 hb.2 Pn_lt w
theorem timesPR {a b c : Int} (_ : Rn a) (_ : Rn b) (e : c = (a * b) % Pn) : Rn c := by rw [e]; exact Rn_mod _
theorem plusPR {a b c : Int} (_ : Rn a) (_ : Rn b) (e : c = (a + b) % Pn) : Rn c := by rw [e]; exact Rn_mod _
theorem minusPR {a b c : Int} (_ : Rn a) (_ : Rn b) (e : c = (a - b) % Pn) : Rn c := by rw [e]; exact Rn_mod _

set_option maxRecDepth 100000 in
set_option maxHeartbeats 16000000 in
theorem added_c (px py pz qx qy qz zz xx yy m1 ee sq mo ls a1 a2 ac u1 X s1 u2 Y Z : Int) (hpx : Rn px) (hpy : Rn py) (hpz : Rn pz) (hqx : Rn qx) (hqy : Rn qy) (hqz : Rn qz)
    (ezz : zz = (pz * qz) % Pn) (exx : xx = (px * qx) % Pn) (eyy : yy = (py * qy) % Pn) (em1 : m1 = (xx * yy) % Pn) (eee : ee = (Dn * m1) % Pn) (esq : sq = (zz * zz) % Pn) (emo : mo = (sq + ee) % Pn) (els : ls = (sq - ee) % Pn) (ea1 : a1 = (px * qy) % Pn) (ea2 : a2 = (qx * py) % Pn) (eac : ac = (a1 + a2) % Pn) (eu1 : u1 = (ac * ls) % Pn) (eX : X = (zz * u1) % Pn) (es1 : s1 = (xx + yy) % Pn) (eu2 : u2 = (s1 * mo) % Pn) (eY : Y = (zz * u2) % Pn) (eZ : Z = (mo * ls) % Pn) (w : World) :
    Calls Tryz.prog 19 #[.agg (Pv px py pz), .agg (Pv qx qy qz)] w fun e w' => e = .returned (.agg (Pv X Y Z)) ∧ Upd w w' FF := by
  have hD : Rn Dn := ⟨by decide, by decide⟩
  have kzz := timesP hpz hqz ezz
  have hzz := timesPR hpz hqz ezz
  have kxx := timesP hpx hqx exx
  have hxx := timesPR hpx hqx exx
  have kyy := timesP hpy hqy eyy
  have hyy := timesPR hpy hqy eyy
  have km1 := timesP hxx hyy em1
  have hm1 := timesPR hxx hyy em1
  have kee := timesP hD hm1 eee
  have hee := timesPR hD hm1 eee
  have ksq := timesP hzz hzz esq
  have hsq := timesPR hzz hzz esq
  have kmo := plusP hsq hee emo
  have hmo := plusPR hsq hee emo
  have kls := minusP hsq hee els
  have hls := minusPR hsq hee els
  have ka1 := timesP hpx hqy ea1
  have ha1 := timesPR hpx hqy ea1
  have ka2 := timesP hqx hpy ea2
  have ha2 := timesPR hqx hpy ea2
  have kac := plusP ha1 ha2 eac
  have hac := plusPR ha1 ha2 eac
  have ku1 := timesP hac hls eu1
  have hu1 := timesPR hac hls eu1
  have kX := timesP hzz hu1 eX
  have hX := timesPR hzz hu1 eX
  have ks1 := plusP hxx hyy es1
  have hs1 := plusPR hxx hyy es1
  have ku2 := timesP hs1 hmo eu2
  have hu2 := timesPR hs1 hmo eu2
  have kY := timesP hzz hu2 eY
  have hY := timesPR hzz hu2 eY
  have kZ := timesP hmo hls eZ
  have hZ := timesPR hmo hls eZ
  clear ezz exx eyy em1 eee esq emo els ea1 ea2 eac eu1 eX es1 eu2 eY eZ hD
  have A := (((Upd.refl w FF).alloc (.cells (Pv px py pz) 47)).alloc (.cells (Pv qx qy qz) 47)).alloc (Z12 47)
  have P := (Np.boxed w px py pz 47).keep (((Upd.refl _ FF).alloc (.cells (Pv qx qy qz) 47)).alloc (Z12 47)) (fun _ _ h => h)
  have Q := (Np.boxed (w.alloc (.cells (Pv px py pz) 47)) qx qy qz 47).keep ((Upd.refl _ FF).alloc (Z12 47)) (fun _ _ h => h)
  have R := Np.zero ((w.alloc (.cells (Pv px py pz) 47)).alloc (.cells (Pv qx qy qz) 47)) 47
  simp only [World.size_alloc] at P Q R
  go_enter Tryz.func19, Tryz.ntmps19
  go_wp2_with fail
  refine (prime_c _).mono ?_
  rintro e c1 ⟨rfl, hU⟩
  replace P := P.keep hU (fun _ _ h => h)
  replace Q := Q.keep hU (fun _ _ h => h)
  replace R := R.keep hU (fun _ _ h => h)
  replace A := A.trans hU (fun _ _ _ h => h)
  have lP := P.lt
  have lQ := Q.lt
  have lR := R.lt
  have B := (Upd.refl c1 FF).alloc (Z4 45)
  replace P := P.keep B (fun _ _ h => h)
  replace Q := Q.keep B (fun _ _ h => h)
  replace R := R.keep B (fun _ _ h => h)
  replace A := A.trans B (fun _ _ _ h => h)
  have lA := A.size
  have N0 := Nu.zero c1 45
  clear hU B
  go_wp2_with (first
    | (refine wpList_store45 rfl _ _ rfl _ _ Pn _ (by rfl) (by rfl) N0 ?_; intro d1 hV M; replace P := P.keep hV (fun i hi h => absurd h.1 (by omega)); replace Q := Q.keep hV (fun i hi h => absurd h.1 (by omega)); replace R := R.keep hV (fun i hi h => absurd h.1 (by omega)); replace A := A.trans hV (fun b o hb h => absurd h.1 (by have := lP; omega)); clear hV N0 lA lP lQ lR; obtain ⟨f00, f01, f02, f03⟩ := P.z.cellsIn; (try simp only [Nat.reduceAdd] at f00 f01 f02 f03); obtain ⟨f10, f11, f12, f13⟩ := Q.z.cellsIn; (try simp only [Nat.reduceAdd] at f10 f11 f12 f13))
    | (refine wpList_load45 rfl _ rfl _ _ (by rfl) _ M ?_))
  refine (kzz _).mono ?_
  clear f00 f01 f02 f03 f10 f11 f12 f13
  rintro e c2 ⟨rfl, hU⟩
  replace P := P.keep hU (fun _ _ h => h)
  replace Q := Q.keep hU (fun _ _ h => h)
  replace R := R.keep hU (fun _ _ h => h)
  replace M := M.keep hU (fun _ _ h => h)
  replace A := A.trans hU (fun _ _ _ h => h)
  have lP := P.lt
  have lQ := Q.lt
  have lR := R.lt
  have lM := M.lt
  have B := (Upd.refl c2 FF).alloc (Z4 45)
  replace P := P.keep B (fun _ _ h => h)
  replace Q := Q.keep B (fun _ _ h => h)
  replace R := R.keep B (fun _ _ h => h)
  replace M := M.keep B (fun _ _ h => h)
  replace A := A.trans B (fun _ _ _ h => h)
  have lA := A.size
  have N0 := Nu.zero c2 45
  clear hU B
  go_wp2_with (first
    | (refine wpList_store45 rfl _ _ rfl _ _ zz _ (by rfl) (by rfl) N0 ?_; intro d2 hV ZZ; replace P := P.keep hV (fun i hi h => absurd h.1 (by omega)); replace Q := Q.keep hV (fun i hi h => absurd h.1 (by omega)); replace R := R.keep hV (fun i hi h => absurd h.1 (by omega)); replace M := M.keep hV (fun i hi h => absurd h.1 (by omega)); replace A := A.trans hV (fun b o hb h => absurd h.1 (by have := lP; omega)); clear hV N0 lA lP lQ lR lM; obtain ⟨f00, f01, f02, f03⟩ := P.x.cellsIn; (try simp only [Nat.reduceAdd] at f00 f01 f02 f03); obtain ⟨f10, f11, f12, f13⟩ := Q.x.cellsIn; (try simp only [Nat.reduceAdd] at f10 f11 f12 f13))
    | (refine wpList_load45 rfl _ rfl _ _ (by rfl) _ M ?_))
  refine (kxx _).mono ?_
  clear f00 f01 f02 f03 f10 f11 f12 f13
  rintro e c3 ⟨rfl, hU⟩
  replace P := P.keep hU (fun _ _ h => h)
  replace Q := Q.keep hU (fun _ _ h => h)
  replace R := R.keep hU (fun _ _ h => h)
  replace M := M.keep hU (fun _ _ h => h)
  replace ZZ := ZZ.keep hU (fun _ _ h => h)
  replace A := A.trans hU (fun _ _ _ h => h)
  have lP := P.lt
  have lQ := Q.lt
  have lR := R.lt
  have lM := M.lt
  have lZZ := ZZ.lt
  have B := (Upd.refl c3 FF).alloc (Z4 45)
  replace P := P.keep B (fun _ _ h => h)
  replace Q := Q.keep B (fun _ _ h => h)
  replace R := R.keep B (fun _ _ h => h)
  replace M := M.keep B (fun _ _ h => h)
  replace ZZ := ZZ.keep B (fun _ _ h => h)
  replace A := A.trans B (fun _ _ _ h => h)
  have lA := A.size
  have N0 := Nu.zero c3 45
  clear hU B
  go_wp2_with (first
    | (refine wpList_store45 rfl _ _ rfl _ _ xx _ (by rfl) (by rfl) N0 ?_; intro d3 hV XX; replace P := P.keep hV (fun i hi h => absurd h.1 (by omega)); replace Q := Q.keep hV (fun i hi h => absurd h.1 (by omega)); replace R := R.keep hV (fun i hi h => absurd h.1 (by omega)); replace M := M.keep hV (fun i hi h => absurd h.1 (by omega)); replace ZZ := ZZ.keep hV (fun i hi h => absurd h.1 (by omega)); replace A := A.trans hV (fun b o hb h => absurd h.1 (by have := lP; omega)); clear hV N0 lA lP lQ lR lM lZZ; obtain ⟨f00, f01, f02, f03⟩ := P.y.cellsIn; (try simp only [Nat.reduceAdd] at f00 f01 f02 f03); obtain ⟨f10, f11, f12, f13⟩ := Q.y.cellsIn; (try simp only [Nat.reduceAdd] at f10 f11 f12 f13))
    | (refine wpList_load45 rfl _ rfl _ _ (by rfl) _ M ?_))
  refine (kyy _).mono ?_
  clear f00 f01 f02 f03 f10 f11 f12 f13
  rintro e c4 ⟨rfl, hU⟩
  replace P := P.keep hU (fun _ _ h => h)
  replace Q := Q.keep hU (fun _ _ h => h)
  replace R := R.keep hU (fun _ _ h => h)
  replace M := M.keep hU (fun _ _ h => h)
  replace ZZ := ZZ.keep hU (fun _ _ h => h)
  replace XX := XX.keep hU (fun _ _ h => h)
  replace A := A.trans hU (fun _ _ _ h => h)
  have lP := P.lt
  have lQ := Q.lt
  have lR := R.lt
  have lM := M.lt
  have lZZ := ZZ.lt
  have lXX := XX.lt
  have B := (Upd.refl c4 FF).alloc (Z4 45)
  replace P := P.keep B (fun _ _ h => h)
  replace Q := Q.keep B (fun _ _ h => h)
  replace R := R.keep B (fun _ _ h => h)
  replace M := M.keep B (fun _ _ h => h)
  replace ZZ := ZZ.keep B (fun _ _ h => h)
  replace XX := XX.keep B (fun _ _ h => h)
  replace A := A.trans B (fun _ _ _ h => h)
  have lA := A.size
  have N0 := Nu.zero c4 45
  clear hU B
  go_wp2_with (first
    | (refine wpList_store45 rfl _ _ rfl _ _ yy _ (by rfl) (by rfl) N0 ?_; intro d4 hV YY; replace P := P.keep hV (fun i hi h => absurd h.1 (by omega)); replace Q := Q.keep hV (fun i hi h => absurd h.1 (by omega)); replace R := R.keep hV (fun i hi h => absurd h.1 (by omega)); replace M := M.keep hV (fun i hi h => absurd h.1 (by omega)); replace ZZ := ZZ.keep hV (fun i hi h => absurd h.1 (by omega)); replace XX := XX.keep hV (fun i hi h => absurd h.1 (by omega)); replace A := A.trans hV (fun b o hb h => absurd h.1 (by have := lP; omega)); clear hV N0 lA lP lQ lR lM lZZ lXX))
  have lP := P.lt
  have lQ := Q.lt
  have lR := R.lt
  have lM := M.lt
  have lZZ := ZZ.lt
  have lXX := XX.lt
  have lYY := YY.lt
  have lA := A.size
  refine wp_region_loose 8 (clsN _ 9) (by kernel_rfl) (by kernel_rfl) (begin1 _ _ _ _ (by rfl)) ?_
  simp only [List.take_succ_cons, List.take_zero, List.drop_succ_cons, List.drop_zero]
  refine hd_call rfl (by simp) 38 #[] _ (by intro w; (try go_simp); (try rfl)) (fun w => curve_c w) ?_
  simp only [Act.put, List.setIfInBounds_toArray, List.set_cons_zero, List.set_cons_succ]
  refine hd_load45 rfl (by simp) _ rfl _ _ (by rfl) _ XX.drew ?_
  simp only [Act.put, List.setIfInBounds_toArray, List.set_cons_zero, List.set_cons_succ]
  refine hd_load45 rfl (by simp) _ rfl _ _ (by rfl) _ YY.drew ?_
  simp only [Act.put, List.setIfInBounds_toArray, List.set_cons_zero, List.set_cons_succ]
  refine hd_load45 rfl (by simp) _ rfl _ _ (by rfl) _ M.drew ?_
  simp only [Act.put, List.setIfInBounds_toArray, List.set_cons_zero, List.set_cons_succ]
  refine hd_call rfl (by simp) 33 #[.agg (Na xx), .agg (Na yy), .agg (Na Pn)] _ (by intro w; (try go_simp); (try rfl)) km1 ?_
  simp only [Act.put, List.setIfInBounds_toArray, List.set_cons_zero, List.set_cons_succ]
  refine hd_load45 rfl (by simp) _ rfl _ _ (by rfl) _ M.drew ?_
  simp only [Act.put, List.setIfInBounds_toArray, List.set_cons_zero, List.set_cons_succ]
  refine hd_call rfl (by simp) 33 #[.agg (Na Dn), .agg (Na m1), .agg (Na Pn)] _ (by intro w; (try go_simp); (try rfl)) kee ?_
  simp only [Act.put, List.setIfInBounds_toArray, List.set_cons_zero, List.set_cons_succ]
  refine hd_alloc rfl rfl (Z4 45) (fun w => exec_alloc45 _ _ _ _ _ _ w) (fun v => eval_put_same _ _ _ (by simp)) zn_new ?_
  intro b5 hb c5 hC
  obtain ⟨hU, hz⟩ := hC
  replace hz : Nu c5 b5 0 0 := hz b5 (eval_put_same _ _ _ (by simp)) hb
  replace P := P.drew.keep hU (fun _ _ h => h)
  replace Q := Q.drew.keep hU (fun _ _ h => h)
  replace R := R.drew.keep hU (fun _ _ h => h)
  replace M := M.drew.keep hU (fun _ _ h => h)
  replace ZZ := ZZ.drew.keep hU (fun _ _ h => h)
  replace XX := XX.drew.keep hU (fun _ _ h => h)
  replace YY := YY.drew.keep hU (fun _ _ h => h)
  replace A := A.drew.trans hU (fun _ _ _ h => h)
  simp only [World.size_drew] at hb
  clear hU
  go_wp2_with (first
    | (refine wpList_store45 rfl _ _ rfl _ _ ee _ (by rfl) (by rfl) hz ?_; intro d5 hV EE; replace P := P.keep hV (fun i hi h => absurd h.1 (by omega)); replace Q := Q.keep hV (fun i hi h => absurd h.1 (by omega)); replace R := R.keep hV (fun i hi h => absurd h.1 (by omega)); replace M := M.keep hV (fun i hi h => absurd h.1 (by omega)); replace ZZ := ZZ.keep hV (fun i hi h => absurd h.1 (by omega)); replace XX := XX.keep hV (fun i hi h => absurd h.1 (by omega)); replace YY := YY.keep hV (fun i hi h => absurd h.1 (by omega)); replace A := A.trans hV (fun b o hb h => absurd h.1 (by have := lP; omega)); clear hV hz lA hb lP lQ lR lM lZZ lXX lYY)
    | (refine wpList_load45 rfl _ rfl _ _ (by rfl) _ ZZ ?_)
    | (refine wpList_load45 rfl _ rfl _ _ (by rfl) _ M ?_))
  refine (ksq _).mono ?_
  rintro e c6 ⟨rfl, hU⟩
  replace P := P.keep hU (fun _ _ h => h)
  replace Q := Q.keep hU (fun _ _ h => h)
  replace R := R.keep hU (fun _ _ h => h)
  replace M := M.keep hU (fun _ _ h => h)
  replace ZZ := ZZ.keep hU (fun _ _ h => h)
  replace XX := XX.keep hU (fun _ _ h => h)
  replace YY := YY.keep hU (fun _ _ h => h)
  replace EE := EE.keep hU (fun _ _ h => h)
  replace A := A.trans hU (fun _ _ _ h => h)
  have lP := P.lt
  have lQ := Q.lt
  have lR := R.lt
  have lM := M.lt
  have lZZ := ZZ.lt
  have lXX := XX.lt
  have lYY := YY.lt
  have lEE := EE.lt
  have B := (Upd.refl c6 FF).alloc (Z4 45)
  replace P := P.keep B (fun _ _ h => h)
  replace Q := Q.keep B (fun _ _ h => h)
  replace R := R.keep B (fun _ _ h => h)
  replace M := M.keep B (fun _ _ h => h)
  replace ZZ := ZZ.keep B (fun _ _ h => h)
  replace XX := XX.keep B (fun _ _ h => h)
  replace YY := YY.keep B (fun _ _ h => h)
  replace EE := EE.keep B (fun _ _ h => h)
  replace A := A.trans B (fun _ _ _ h => h)
  have lA := A.size
  have N0 := Nu.zero c6 45
  clear hU B
  go_wp2_with (first
    | (refine wpList_store45 rfl _ _ rfl _ _ sq _ (by rfl) (by rfl) N0 ?_; intro d6 hV SQ; replace P := P.keep hV (fun i hi h => absurd h.1 (by omega)); replace Q := Q.keep hV (fun i hi h => absurd h.1 (by omega)); replace R := R.keep hV (fun i hi h => absurd h.1 (by omega)); replace M := M.keep hV (fun i hi h => absurd h.1 (by omega)); replace ZZ := ZZ.keep hV (fun i hi h => absurd h.1 (by omega)); replace XX := XX.keep hV (fun i hi h => absurd h.1 (by omega)); replace YY := YY.keep hV (fun i hi h => absurd h.1 (by omega)); replace EE := EE.keep hV (fun i hi h => absurd h.1 (by omega)); replace A := A.trans hV (fun b o hb h => absurd h.1 (by have := lP; omega)); clear hV N0 lA lP lQ lR lM lZZ lXX lYY lEE)
    | (refine wpList_load45 rfl _ rfl _ _ (by rfl) _ SQ ?_)
    | (refine wpList_load45 rfl _ rfl _ _ (by rfl) _ EE ?_)
    | (refine wpList_load45 rfl _ rfl _ _ (by rfl) _ M ?_))
  refine (kmo _).mono ?_
  rintro e c7 ⟨rfl, hU⟩
  replace P := P.keep hU (fun _ _ h => h)
  replace Q := Q.keep hU (fun _ _ h => h)
  replace R := R.keep hU (fun _ _ h => h)
  replace M := M.keep hU (fun _ _ h => h)
  replace ZZ := ZZ.keep hU (fun _ _ h => h)
  replace XX := XX.keep hU (fun _ _ h => h)
  replace YY := YY.keep hU (fun _ _ h => h)
  replace EE := EE.keep hU (fun _ _ h => h)
  replace SQ := SQ.keep hU (fun _ _ h => h)
  replace A := A.trans hU (fun _ _ _ h => h)
  have lP := P.lt
  have lQ := Q.lt
  have lR := R.lt
  have lM := M.lt
  have lZZ := ZZ.lt
  have lXX := XX.lt
  have lYY := YY.lt
  have lEE := EE.lt
  have lSQ := SQ.lt
  have B := (Upd.refl c7 FF).alloc (Z4 45)
  replace P := P.keep B (fun _ _ h => h)
  replace Q := Q.keep B (fun _ _ h => h)
  replace R := R.keep B (fun _ _ h => h)
  replace M := M.keep B (fun _ _ h => h)
  replace ZZ := ZZ.keep B (fun _ _ h => h)
  replace XX := XX.keep B (fun _ _ h => h)
  replace YY := YY.keep B (fun _ _ h => h)
  replace EE := EE.keep B (fun _ _ h => h)
  replace SQ := SQ.keep B (fun _ _ h => h)
  replace A := A.trans B (fun _ _ _ h => h)
  have lA := A.size
  have N0 := Nu.zero c7 45
  clear hU B
  go_wp2_with (first
    | (refine wpList_store45 rfl _ _ rfl _ _ mo _ (by rfl) (by rfl) N0 ?_; intro d7 hV MO; replace P := P.keep hV (fun i hi h => absurd h.1 (by omega)); replace Q := Q.keep hV (fun i hi h => absurd h.1 (by omega)); replace R := R.keep hV (fun i hi h => absurd h.1 (by omega)); replace M := M.keep hV (fun i hi h => absurd h.1 (by omega)); replace ZZ := ZZ.keep hV (fun i hi h => absurd h.1 (by omega)); replace XX := XX.keep hV (fun i hi h => absurd h.1 (by omega)); replace YY := YY.keep hV (fun i hi h => absurd h.1 (by omega)); replace EE := EE.keep hV (fun i hi h => absurd h.1 (by omega)); replace SQ := SQ.keep hV (fun i hi h => absurd h.1 (by omega)); replace A := A.trans hV (fun b o hb h => absurd h.1 (by have := lP; omega)); clear hV N0 lA lP lQ lR lM lZZ lXX lYY lEE lSQ)
    | (refine wpList_load45 rfl _ rfl _ _ (by rfl) _ SQ ?_)
    | (refine wpList_load45 rfl _ rfl _ _ (by rfl) _ EE ?_)
    | (refine wpList_load45 rfl _ rfl _ _ (by rfl) _ M ?_))
  refine (kls _).mono ?_
  rintro e c8 ⟨rfl, hU⟩
  replace P := P.keep hU (fun _ _ h => h)
  replace Q := Q.keep hU (fun _ _ h => h)
  replace R := R.keep hU (fun _ _ h => h)
  replace M := M.keep hU (fun _ _ h => h)
  replace ZZ := ZZ.keep hU (fun _ _ h => h)
  replace XX := XX.keep hU (fun _ _ h => h)
  replace YY := YY.keep hU (fun _ _ h => h)
  replace EE := EE.keep hU (fun _ _ h => h)
  replace SQ := SQ.keep hU (fun _ _ h => h)
  replace MO := MO.keep hU (fun _ _ h => h)
  replace A := A.trans hU (fun _ _ _ h => h)
  have lP := P.lt
  have lQ := Q.lt
  have lR := R.lt
  have lM := M.lt
  have lZZ := ZZ.lt
  have lXX := XX.lt
  have lYY := YY.lt
  have lEE := EE.lt
  have lSQ := SQ.lt
  have lMO := MO.lt
  have B := (Upd.refl c8 FF).alloc (Z4 45)
  replace P := P.keep B (fun _ _ h => h)
  replace Q := Q.keep B (fun _ _ h => h)
  replace R := R.keep B (fun _ _ h => h)
  replace M := M.keep B (fun _ _ h => h)
  replace ZZ := ZZ.keep B (fun _ _ h => h)
  replace XX := XX.keep B (fun _ _ h => h)
  replace YY := YY.keep B (fun _ _ h => h)
  replace EE := EE.keep B (fun _ _ h => h)
  replace SQ := SQ.keep B (fun _ _ h => h)
  replace MO := MO.keep B (fun _ _ h => h)
  replace A := A.trans B (fun _ _ _ h => h)
  have lA := A.size
  have N0 := Nu.zero c8 45
  clear hU B
  go_wp2_with (first
    | (refine wpList_store45 rfl _ _ rfl _ _ ls _ (by rfl) (by rfl) N0 ?_; intro d8 hV LS; replace P := P.keep hV (fun i hi h => absurd h.1 (by omega)); replace Q := Q.keep hV (fun i hi h => absurd h.1 (by omega)); replace R := R.keep hV (fun i hi h => absurd h.1 (by omega)); replace M := M.keep hV (fun i hi h => absurd h.1 (by omega)); replace ZZ := ZZ.keep hV (fun i hi h => absurd h.1 (by omega)); replace XX := XX.keep hV (fun i hi h => absurd h.1 (by omega)); replace YY := YY.keep hV (fun i hi h => absurd h.1 (by omega)); replace EE := EE.keep hV (fun i hi h => absurd h.1 (by omega)); replace SQ := SQ.keep hV (fun i hi h => absurd h.1 (by omega)); replace MO := MO.keep hV (fun i hi h => absurd h.1 (by omega)); replace A := A.trans hV (fun b o hb h => absurd h.1 (by have := lP; omega)); clear hV N0 lA lP lQ lR lM lZZ lXX lYY lEE lSQ lMO))
  have lP := P.lt
  have lQ := Q.lt
  have lR := R.lt
  have lM := M.lt
  have lZZ := ZZ.lt
  have lXX := XX.lt
  have lYY := YY.lt
  have lEE := EE.lt
  have lSQ := SQ.lt
  have lMO := MO.lt
  have lLS := LS.lt
  have lA := A.size
  refine wp_region_loose 15 (clsN _ 13) (by kernel_rfl) (by kernel_rfl) (begin1 _ _ _ _ (by rfl)) ?_
  simp only [List.take_succ_cons, List.take_zero, List.drop_succ_cons, List.drop_zero]
  refine hd_pure rfl (by simp) (.pointer (some ⟨w.heap.size, 0, none⟩)) (by intro w; (try go_simp); (try rfl)) ?_
  simp only [Act.put, List.setIfInBounds_toArray, List.set_cons_zero, List.set_cons_succ]
  refine hd_load45 rfl (by simp) _ rfl _ _ (by rfl) _ P.x.drew ?_
  simp only [Act.put, List.setIfInBounds_toArray, List.set_cons_zero, List.set_cons_succ]
  refine hd_pure rfl (by simp) (.pointer (some ⟨(w.heap.size + 1), 4, none⟩)) (by intro w; (try go_simp); (try rfl)) ?_
  simp only [Act.put, List.setIfInBounds_toArray, List.set_cons_zero, List.set_cons_succ]
  refine hd_load45 rfl (by simp) _ rfl _ _ (by rfl) _ Q.y.drew ?_
  simp only [Act.put, List.setIfInBounds_toArray, List.set_cons_zero, List.set_cons_succ]
  refine hd_load45 rfl (by simp) _ rfl _ _ (by rfl) _ M.drew ?_
  simp only [Act.put, List.setIfInBounds_toArray, List.set_cons_zero, List.set_cons_succ]
  refine hd_call rfl (by simp) 33 #[.agg (Na px), .agg (Na qy), .agg (Na Pn)] _ (by intro w; (try go_simp); (try rfl)) ka1 ?_
  simp only [Act.put, List.setIfInBounds_toArray, List.set_cons_zero, List.set_cons_succ]
  refine hd_pure rfl (by simp) (.pointer (some ⟨(w.heap.size + 1), 0, none⟩)) (by intro w; (try go_simp); (try rfl)) ?_
  simp only [Act.put, List.setIfInBounds_toArray, List.set_cons_zero, List.set_cons_succ]
  refine hd_load45 rfl (by simp) _ rfl _ _ (by rfl) _ Q.x.drew ?_
  simp only [Act.put, List.setIfInBounds_toArray, List.set_cons_zero, List.set_cons_succ]
  refine hd_pure rfl (by simp) (.pointer (some ⟨w.heap.size, 4, none⟩)) (by intro w; (try go_simp); (try rfl)) ?_
  simp only [Act.put, List.setIfInBounds_toArray, List.set_cons_zero, List.set_cons_succ]
  refine hd_load45 rfl (by simp) _ rfl _ _ (by rfl) _ P.y.drew ?_
  simp only [Act.put, List.setIfInBounds_toArray, List.set_cons_zero, List.set_cons_succ]
  refine hd_load45 rfl (by simp) _ rfl _ _ (by rfl) _ M.drew ?_
  simp only [Act.put, List.setIfInBounds_toArray, List.set_cons_zero, List.set_cons_succ]
  refine hd_call rfl (by simp) 33 #[.agg (Na qx), .agg (Na py), .agg (Na Pn)] _ (by intro w; (try go_simp); (try rfl)) ka2 ?_
  simp only [Act.put, List.setIfInBounds_toArray, List.set_cons_zero, List.set_cons_succ]
  refine hd_load45 rfl (by simp) _ rfl _ _ (by rfl) _ M.drew ?_
  simp only [Act.put, List.setIfInBounds_toArray, List.set_cons_zero, List.set_cons_succ]
  refine hd_call rfl (by simp) 37 #[.agg (Na a1), .agg (Na a2), .agg (Na Pn)] _ (by intro w; (try go_simp); (try rfl)) kac ?_
  simp only [Act.put, List.setIfInBounds_toArray, List.set_cons_zero, List.set_cons_succ]
  refine hd_alloc rfl rfl (Z4 45) (fun w => exec_alloc45 _ _ _ _ _ _ w) (fun v => eval_put_same _ _ _ (by simp)) zn_new ?_
  intro b9 hb c9 hC
  obtain ⟨hU, hz⟩ := hC
  replace hz : Nu c9 b9 0 0 := hz b9 (eval_put_same _ _ _ (by simp)) hb
  replace P := P.drew.keep hU (fun _ _ h => h)
  replace Q := Q.drew.keep hU (fun _ _ h => h)
  replace R := R.drew.keep hU (fun _ _ h => h)
  replace M := M.drew.keep hU (fun _ _ h => h)
  replace ZZ := ZZ.drew.keep hU (fun _ _ h => h)
  replace XX := XX.drew.keep hU (fun _ _ h => h)
  replace YY := YY.drew.keep hU (fun _ _ h => h)
  replace EE := EE.drew.keep hU (fun _ _ h => h)
  replace SQ := SQ.drew.keep hU (fun _ _ h => h)
  replace MO := MO.drew.keep hU (fun _ _ h => h)
  replace LS := LS.drew.keep hU (fun _ _ h => h)
  replace A := A.drew.trans hU (fun _ _ _ h => h)
  simp only [World.size_drew] at hb
  clear hU
  go_wp2_with (first
    | (refine wpList_store45 rfl _ _ rfl _ _ ac _ (by rfl) (by rfl) hz ?_; intro d9 hV AC; replace P := P.keep hV (fun i hi h => absurd h.1 (by omega)); replace Q := Q.keep hV (fun i hi h => absurd h.1 (by omega)); replace R := R.keep hV (fun i hi h => absurd h.1 (by omega)); replace M := M.keep hV (fun i hi h => absurd h.1 (by omega)); replace ZZ := ZZ.keep hV (fun i hi h => absurd h.1 (by omega)); replace XX := XX.keep hV (fun i hi h => absurd h.1 (by omega)); replace YY := YY.keep hV (fun i hi h => absurd h.1 (by omega)); replace EE := EE.keep hV (fun i hi h => absurd h.1 (by omega)); replace SQ := SQ.keep hV (fun i hi h => absurd h.1 (by omega)); replace MO := MO.keep hV (fun i hi h => absurd h.1 (by omega)); replace LS := LS.keep hV (fun i hi h => absurd h.1 (by omega)); replace A := A.trans hV (fun b o hb h => absurd h.1 (by have := lP; omega)); clear hV hz lA hb lP lQ lR lM lZZ lXX lYY lEE lSQ lMO lLS))
  refine wp_region_loose 22 (cls0 _) (by kernel_rfl) (by kernel_rfl) (Upd.refl _ _) ?_
  simp only [List.take_succ_cons, List.take_zero, List.drop_succ_cons, List.drop_zero]
  refine hd_load45 rfl (by simp) _ rfl _ _ (by rfl) _ ZZ.drew ?_
  simp only [Act.put, List.setIfInBounds_toArray, List.set_cons_zero, List.set_cons_succ]
  refine hd_load45 rfl (by simp) _ rfl _ _ (by rfl) _ AC.drew ?_
  simp only [Act.put, List.setIfInBounds_toArray, List.set_cons_zero, List.set_cons_succ]
  refine hd_load45 rfl (by simp) _ rfl _ _ (by rfl) _ LS.drew ?_
  simp only [Act.put, List.setIfInBounds_toArray, List.set_cons_zero, List.set_cons_succ]
  refine hd_load45 rfl (by simp) _ rfl _ _ (by rfl) _ M.drew ?_
  simp only [Act.put, List.setIfInBounds_toArray, List.set_cons_zero, List.set_cons_succ]
  refine hd_call rfl (by simp) 33 #[.agg (Na ac), .agg (Na ls), .agg (Na Pn)] _ (by intro w; (try go_simp); (try rfl)) ku1 ?_
  simp only [Act.put, List.setIfInBounds_toArray, List.set_cons_zero, List.set_cons_succ]
  refine hd_load45 rfl (by simp) _ rfl _ _ (by rfl) _ M.drew ?_
  simp only [Act.put, List.setIfInBounds_toArray, List.set_cons_zero, List.set_cons_succ]
  refine hd_call rfl (by simp) 33 #[.agg (Na zz), .agg (Na u1), .agg (Na Pn)] _ (by intro w; (try go_simp); (try rfl)) kX ?_
  simp only [Act.put, List.setIfInBounds_toArray, List.set_cons_zero, List.set_cons_succ]
  refine hd_load45 rfl (by simp) _ rfl _ _ (by rfl) _ ZZ.drew ?_
  simp only [Act.put, List.setIfInBounds_toArray, List.set_cons_zero, List.set_cons_succ]
  refine hd_load45 rfl (by simp) _ rfl _ _ (by rfl) _ XX.drew ?_
  simp only [Act.put, List.setIfInBounds_toArray, List.set_cons_zero, List.set_cons_succ]
  refine hd_load45 rfl (by simp) _ rfl _ _ (by rfl) _ YY.drew ?_
  simp only [Act.put, List.setIfInBounds_toArray, List.set_cons_zero, List.set_cons_succ]
  refine hd_load45 rfl (by simp) _ rfl _ _ (by rfl) _ M.drew ?_
  simp only [Act.put, List.setIfInBounds_toArray, List.set_cons_zero, List.set_cons_succ]
  refine hd_call rfl (by simp) 37 #[.agg (Na xx), .agg (Na yy), .agg (Na Pn)] _ (by intro w; (try go_simp); (try rfl)) ks1 ?_
  simp only [Act.put, List.setIfInBounds_toArray, List.set_cons_zero, List.set_cons_succ]
  refine hd_load45 rfl (by simp) _ rfl _ _ (by rfl) _ MO.drew ?_
  simp only [Act.put, List.setIfInBounds_toArray, List.set_cons_zero, List.set_cons_succ]
  refine hd_load45 rfl (by simp) _ rfl _ _ (by rfl) _ M.drew ?_
  simp only [Act.put, List.setIfInBounds_toArray, List.set_cons_zero, List.set_cons_succ]
  refine hd_call rfl (by simp) 33 #[.agg (Na s1), .agg (Na mo), .agg (Na Pn)] _ (by intro w; (try go_simp); (try rfl)) ku2 ?_
  simp only [Act.put, List.setIfInBounds_toArray, List.set_cons_zero, List.set_cons_succ]
  refine hd_load45 rfl (by simp) _ rfl _ _ (by rfl) _ M.drew ?_
  simp only [Act.put, List.setIfInBounds_toArray, List.set_cons_zero, List.set_cons_succ]
  refine hd_call rfl (by simp) 33 #[.agg (Na zz), .agg (Na u2), .agg (Na Pn)] _ (by intro w; (try go_simp); (try rfl)) kY ?_
  simp only [Act.put, List.setIfInBounds_toArray, List.set_cons_zero, List.set_cons_succ]
  refine hd_load45 rfl (by simp) _ rfl _ _ (by rfl) _ MO.drew ?_
  simp only [Act.put, List.setIfInBounds_toArray, List.set_cons_zero, List.set_cons_succ]
  refine hd_load45 rfl (by simp) _ rfl _ _ (by rfl) _ LS.drew ?_
  simp only [Act.put, List.setIfInBounds_toArray, List.set_cons_zero, List.set_cons_succ]
  refine hd_load45 rfl (by simp) _ rfl _ _ (by rfl) _ M.drew ?_
  simp only [Act.put, List.setIfInBounds_toArray, List.set_cons_zero, List.set_cons_succ]
  refine hd_call rfl (by simp) 33 #[.agg (Na mo), .agg (Na ls), .agg (Na Pn)] _ (by intro w; (try go_simp); (try rfl)) kZ ?_
  simp only [Act.put, List.setIfInBounds_toArray, List.set_cons_zero, List.set_cons_succ]
  refine hd_pure rfl (by simp) (.agg (Pv X Y Z)) (by intro w; simp only [Na, NaL, Pv, PvL, List.cons_append, List.nil_append]; go_simp) ?_
  intro c20 hU
  replace hU := (show Upd _ _ FF from hU)
  have lR := R.lt
  replace R := R.drew.keep hU (fun _ _ h => h)
  replace A := A.drew.trans hU (fun _ _ _ h => h)
  go_wp2_with (first
    | (refine wpList_store47 rfl _ _ rfl _ X Y Z _ _ _ (by rfl) (by rfl) R ?_; intro c21 hV R2))
  exact bodyPost_ret (results_cell rfl (by rfl) (load47 R2)) rfl ⟨rfl, A.trans hV (fun b o hb h => absurd h.1 (by omega))⟩

end Go.Proofs.YtkibnongmkhbaaaGreatDoor
end
