/- Part of the proof that laws.FnGroup returns true for all 32 bytes p, q and x: roots and encodings as plain law; spec.PointAdd, spec.PointScalarMult.
   Conditions: those that each theorem states. -/
import Derived.Test.YtkibnongmkhbaaaGreatDoorRG
import Derived.Test.YtkibnongmkhbaaaGreatDoorPA
import Derived.Test.YtkibnongmkhbaaaGreatDoorSH
import Derived.Deep.RegionHeld3
import Derived.IntWalk

section
namespace Go.Proofs.YtkibnongmkhbaaaGreatDoor
open Ed

theorem absF_sq (X : F) : absF X * absF X = X * X := by
  unfold absF; split
  · grind
  · rfl
theorem absF_even (X : F) : (absF X).val % 2 = 0 := by
  unfold absF
  split
  · rename_i h
    have h0 : X ≠ 0 := by rintro rfl; exact absurd h (by decide +kernel)
    have := neg_par h0
    omega
  · omega

theorem vOf_ne (y : F) : vOf y ≠ 0 := vNe y

theorem okOf_iff (y : F) : okOf y ↔ ∃ s, vOf y * (s * s) = uOf y := by
  constructor
  · rintro (h | h)
    · exact ⟨_, h⟩
    · refine ⟨srR (uOf y) (vOf y) * I, ?_⟩
      have := I_sq
      unfold srC at h
      grind
  · rintro ⟨s, h⟩
    exact sroot h (vOf_ne y) _ rfl

theorem pick_root {u v R : F} (_hv : v ≠ 0) (h : v * (R * R) = u ∨ v * (R * R) = -u) (X : F) (hX : X = if v * (R * R) = -u ∨ v * (R * R) = -u * I then R * I else R) : v * (X * X) = u := by
  have hi := I_sq
  split at hX
  · rename_i h3
    rcases h with h | h
    · have h5 : u = 0 := by
        rcases h3 with h3 | h3
        · have h4 : ((1 : F) + 1) * u = 0 := by clear hi hX; grind
          exact (eq_zero_of_mul h4).resolve_left two_ne_zero
        · have h4 : ((1 : F) + I) * u = 0 := by clear hX; grind
          exact (eq_zero_of_mul h4).resolve_left one_I
      clear h3 hi
      subst hX h5
      grind
    · clear h3
      subst hX
      grind
  · rename_i h3
    subst hX
    rcases h with h | h
    · exact h
    · exact absurd (.inl h) h3
theorem xOf_sq {y : F} (h : okOf y) : vOf y * (xOf y * xOf y) = uOf y := by
  unfold xOf
  rw [absF_sq]
  exact pick_root (vOf_ne y) h _ rfl
theorem xOf_even (y : F) : (xOf y).val % 2 = 0 := absF_even _

theorem on_of {x y : F} (h : vOf y * (x * x) = uOf y) : On (x, y) := by
  unfold On vOf uOf at *
  show y * y - x * x - 1 - D * x * x * y * y = 0
  grind
theorem of_on {x y : F} (h : On (x, y)) : vOf y * (x * x) = uOf y := by
  unfold On vOf uOf at *
  replace h : y * y - x * x - 1 - D * x * x * y * y = 0 := h
  grind

theorem xxOf_sq (s : Int) (y : F) : xxOf s y * xxOf s y = xOf y * xOf y := by
  unfold xxOf
  generalize xOf y = X
  split
  · grind
  · rfl
theorem on_ptOf {bs : Nat → Int} (h : okOf (yOf bs)) : On (ptOf bs) := by
  unfold ptOf
  apply on_of
  rw [xxOf_sq]
  exact xOf_sq h

/-! the reference's roots -/
theorem rt1_F (a : F) : rt1 (a.val : Int) = ((fpow a 7237005577332262213973186563042994240829374041602535252466099000494570602494 : F).val : Int) := by
  rw [val_powN, ← eRoot_def]; rfl
theorem rtI_F : rtI = ((I : F).val : Int) := by
  have e : (P - 1) / 4 = eTwo := by rw [P_eq, eTwo_def]
  rw [← I_pow, e, val_powN]
  unfold rtI
  rw [mk_val, show ((2 % P : Nat) : Int) = 2 from by rw [P_eq]; decide]
theorem rt2_F (a : F) : rt2 (a.val : Int) = ((fpow a 7237005577332262213973186563042994240829374041602535252466099000494570602494 * I : F).val : Int) := by
  unfold rt2; rw [rt1_F, rtI_F, val_mulN]
theorem sq_iff (r a : F) : (r.val : Int) * r.val % Pn = a.val ↔ r * r = a := by
  rw [← val_mulN]
  constructor
  · intro h; exact Fin.ext (by omega)
  · rintro rfl; rfl
theorem absN_F (a : F) : absN (a.val : Int) = ((absF a).val : Int) := by
  unfold absN absF
  split
  · rw [val_negN]
  · rfl

theorem rootB_iff (a : F) : rootB (a.val : Int) = true ↔ ∃ s, s * s = a := by
  unfold rootB
  rw [rt1_F, rt2_F, Bool.or_eq_true, decide_eq_true_iff, decide_eq_true_iff, sq_iff, sq_iff]
  constructor
  · rintro (h | h)
    · exact ⟨_, h⟩
    · exact ⟨_, h⟩
  · rintro ⟨s, h⟩
    rcases root1 h with h1 | h1
    · exact .inl h1
    · right
      have := I_sq
      grind

theorem rootV_F {a x : F} (h : x * x = a) (hx : x.val % 2 = 0) : rootV (a.val : Int) = (x.val : Int) := by
  unfold rootV
  rw [rt1_F, rt2_F]
  simp only [sq_iff, absN_F]
  split
  · rename_i h1
    rw [root_unique (by rw [absF_sq, h1, h]) (absF_even _) hx]
  · rename_i h1
    have h2 := (root1 h).resolve_left h1
    have h3 : (fpow a 7237005577332262213973186563042994240829374041602535252466099000494570602494 * I) * (fpow a 7237005577332262213973186563042994240829374041602535252466099000494570602494 * I) = a := by
      have := I_sq
      grind
    rw [if_pos h3, root_unique (by rw [absF_sq, h3, h]) (absF_even _) hx]

/-- u / v, as the reference reckons it -/
def qOf (y : F) : F := uOf y * invF (vOf y)
theorem invF_finv (x : F) : invF x = finv x := by unfold invF finv; congr 1; rw [P_eq]
theorem qOf_iff {y x : F} : x * x = qOf y ↔ vOf y * (x * x) = uOf y := by
  unfold qOf
  rw [invF_finv]
  have := mul_finv (vOf_ne y)
  constructor
  · intro h; rw [h]; grind
  · intro h; rw [← h]; grind
theorem ok_root (y : F) : rootB ((qOf y).val : Int) = true ↔ okOf y := by
  rw [rootB_iff, okOf_iff]
  constructor
  · rintro ⟨s, h⟩; exact ⟨s, qOf_iff.1 h⟩
  · rintro ⟨s, h⟩; exact ⟨s, qOf_iff.2 h⟩
theorem x_root {y : F} (h : okOf y) : rootV ((qOf y).val : Int) = ((xOf y).val : Int) :=
  rootV_F (qOf_iff.2 (xOf_sq h)) (xOf_even y)

/-! the bytes of a point, and back -/
theorem valF_lt (y : F) : (0 : Int) ≤ y.val ∧ (y.val : Int) < 57896044618658097711785492504343953926634992332820282019728792003956564819949 := by
  have h := y.isLt
  have e := P_int
  omega
theorem byteOf31 (y : F) : byteOf y.val 31 < 128 := by
  have h := valF_lt y
  unfold byteOf
  rw [show (256 : Int) ^ 31 = 452312848583266388373324160190187140051835877600158453279131187530910662656 from by decide]
  omega
theorem encF_byte (x y : F) (i : Nat) : Byte (encF x y i) := by
  unfold encF
  split
  · have h1 := byteOf31 y
    have h2 := (byteOf_byte y.val 31).1
    unfold Byte
    omega
  · exact byteOf_byte _ _

theorem le_encF (x y : F) : le (encF x y) 0 32 = y.val + 57896044618658097711785492504343953926634992332820282019728792003956564819968 * ((x.val : Int) % 2) := by
  have h1 := le_append (encF x y) 31 1 0
  have h2 := le_append (byteOf y.val) 31 1 0
  rw [Nat.zero_add] at h1 h2
  rw [show 32 = 31 + 1 from rfl, h1, le_congr (cs := byteOf y.val) 31 0 (fun i _ h => by unfold encF; rw [if_neg (by omega)])]
  have h3 : le (encF x y) 31 1 = le (byteOf y.val) 31 1 + 128 * ((x.val : Int) % 2) := by
    show encF x y 31 + 256 * 0 = byteOf y.val 31 + 256 * 0 + _
    unfold encF
    rw [if_pos rfl]; omega
  have h4 := le_byteOf y.val 32 0
  have h5 := valF_lt y
  rw [h3, Int.mul_add, ← Int.add_assoc, ← h2, show (31 + 1 : Nat) = 32 from rfl, h4]
  rw [show (256 : Int) ^ 0 = 1 from rfl, Int.ediv_one, Int.emod_eq_of_lt h5.1 (Int.lt_trans h5.2 (by decide)), ← Int.mul_assoc]
  rfl

theorem yOf_encF (x y : F) : yOf (encF x y) = y := by
  unfold yOf
  rw [le_encF]
  have h := valF_lt y
  rw [Int.add_mul_emod_self_left, Int.emod_eq_of_lt h.1 (Int.lt_trans h.2 (by decide)), z_val]
theorem sgn_encF (x y : F) : encF x y 31 / 128 = (x.val : Int) % 2 := by
  unfold encF
  rw [if_pos rfl]
  have h1 := byteOf31 y
  have h2 := (byteOf_byte y.val 31).1
  omega

theorem ok_encF {x y : F} (h : On (x, y)) : okOf (yOf (encF x y)) := by
  rw [yOf_encF, okOf_iff]
  exact ⟨x, of_on h⟩

/-- the bytes of a point tell it -/
theorem ptOf_encF {x y : F} (h : On (x, y)) : ptOf (encF x y) = (x, y) := by
  have hok : okOf y := (okOf_iff y).2 ⟨x, of_on h⟩
  have hs : xOf y * xOf y = x * x := mul_cancel (vOf_ne y) (by rw [xOf_sq hok, of_on h])
  unfold ptOf
  rw [yOf_encF, sgn_encF]
  refine Prod.ext ?_ rfl
  show xxOf _ y = x
  unfold xxOf
  split
  · rename_i h1
    have h0 : x ≠ 0 := by rintro rfl; exact absurd h1 (by decide +kernel)
    have h2 := neg_par h0
    have : xOf y = -x := root_unique (by rw [hs]; grind) (xOf_even y) (by omega)
    rw [this]; grind
  · exact root_unique hs (xOf_even y) (by omega)

/-! points as three numbers -/
/-- three numbers tell a point of the curve -/
def Rep (x y z : Int) (p : F × F) : Prop := ∃ Z : F, Z ≠ 0 ∧ x = ((p.1 * Z : F).val : Int) ∧ y = ((p.2 * Z : F).val : Int) ∧ z = (Z.val : Int)

theorem Rep.one (p : F × F) : Rep p.1.val p.2.val 1 p := ⟨1, one_ne_zero, by congr 2; grind, by congr 2; grind, by rw [one_val]; rfl⟩
theorem Rep.id : Rep 0 1 1 pt0 := ⟨1, one_ne_zero, by unfold pt0; decide +kernel, by unfold pt0; rw [show (1 : F) * 1 = 1 from by grind, one_val]; rfl, by rw [one_val]; rfl⟩

theorem Rep.enc {x y z I ax ay : Int} {p : F × F} (h : Rep x y z p) (eI : I = z ^ eInv % Pn) (eax : ax = x * I % Pn) (eay : ay = y * I % Pn) : encN ax ay = encF p.1 p.2 := by
  obtain ⟨Z, hZ, rfl, rfl, rfl⟩ := h
  have h1 : I = ((finv Z : F).val : Int) := by rw [eI, ← invF_finv, invF, val_powN, ← eInv_def]
  have h2 := mul_finv hZ
  rw [h1, ← val_mulN] at eax eay
  rw [show p.1 * Z * finv Z = p.1 from by grind] at eax
  rw [show p.2 * Z * finv Z = p.2 from by grind] at eay
  rw [eax, eay]
  rfl

theorem smul_add {p : F × F} (hp : On p) (m : Nat) : ∀ n, smul (m + n) p = add (smul n p) (smul m p) := by
  intro n
  induction n with
  | zero => show smul m p = add pt0 _; rw [pt0_add]
  | succ n ih => 
    show add p (smul (m + n) p) = add (add p (smul n p)) _
    rw [ih, add_assoc hp (on_smul hp _) (on_smul hp _)]
theorem smul_dbl {p : F × F} (hp : On p) (m : Nat) : add (smul m p) (smul m p) = smul (2 * m) p := by
  rw [← smul_add hp]; congr 1; omega
theorem smul_succ (m : Nat) (p : F × F) : add (smul m p) p = smul (m + 1) p := by
  rw [add_comm]; rfl

end Go.Proofs.YtkibnongmkhbaaaGreatDoor
end

section
open Go Go.RowKit
namespace Go.Proofs.YtkibnongmkhbaaaGreatDoor
open Ed

theorem val_rn (X : F) : Rn (X.val : Int) := valF_lt X
theorem Rep.rn {x y z : Int} {p : F × F} (h : Rep x y z p) : Rn x ∧ Rn y ∧ Rn z := by
  obtain ⟨Z, _, rfl, rfl, rfl⟩ := h
  exact ⟨val_rn _, val_rn _, val_rn _⟩
theorem D_val : (D.val : Int) = Dn := by
  unfold D; rw [mk_val, P_eq]; decide

theorem add_rep_aux (x1 y1 x2 y2 Z1 Z2 k i1 i2 : F) (hk : k = D * x1 * x2 * y1 * y2) (h1 : (1 + k) * i1 = 1) (h2 : (1 - k) * i2 = 1) :
    Z1 * Z2 * ((x1 * Z1 * (y2 * Z2) + x2 * Z2 * (y1 * Z1)) * (Z1 * Z2 * (Z1 * Z2) - D * (x1 * Z1 * (x2 * Z2) * (y1 * Z1 * (y2 * Z2))))) = (x1 * y2 + x2 * y1) * i1 * ((Z1 * Z2 * (Z1 * Z2) + D * (x1 * Z1 * (x2 * Z2) * (y1 * Z1 * (y2 * Z2)))) * (Z1 * Z2 * (Z1 * Z2) - D * (x1 * Z1 * (x2 * Z2) * (y1 * Z1 * (y2 * Z2))))) ∧
    Z1 * Z2 * ((x1 * Z1 * (x2 * Z2) + y1 * Z1 * (y2 * Z2)) * (Z1 * Z2 * (Z1 * Z2) + D * (x1 * Z1 * (x2 * Z2) * (y1 * Z1 * (y2 * Z2))))) = (y1 * y2 + x1 * x2) * i2 * ((Z1 * Z2 * (Z1 * Z2) + D * (x1 * Z1 * (x2 * Z2) * (y1 * Z1 * (y2 * Z2)))) * (Z1 * Z2 * (Z1 * Z2) - D * (x1 * Z1 * (x2 * Z2) * (y1 * Z1 * (y2 * Z2))))) := by
  have e1 : Z1 * Z2 * (Z1 * Z2) + D * (x1 * Z1 * (x2 * Z2) * (y1 * Z1 * (y2 * Z2))) = Z1 * Z2 * (Z1 * Z2) * (1 + k) := by rw [hk]; grind
  have e2 : Z1 * Z2 * (Z1 * Z2) - D * (x1 * Z1 * (x2 * Z2) * (y1 * Z1 * (y2 * Z2))) = Z1 * Z2 * (Z1 * Z2) * (1 - k) := by rw [hk]; grind
  rw [e1, e2]
  clear e1 e2 hk
  generalize 1 + k = a at *
  generalize 1 - k = b at *
  constructor
  · have : ∀ t : F, t * (a * i1) = t := fun t => by rw [h1]; grind
    have e := this (Z1 * Z2 * (Z1 * Z2) * (x1 * y2 + x2 * y1) * (Z1 * Z2 * (Z1 * Z2) * b))
    clear this h1 h2
    grind
  · have : ∀ t : F, t * (b * i2) = t := fun t => by rw [h2]; grind
    have e := this (Z1 * Z2 * (Z1 * Z2) * (y1 * y2 + x1 * x2) * (Z1 * Z2 * (Z1 * Z2) * a))
    clear this h1 h2
    grind

/-- the sum of the reference tells the sum -/
theorem added_rep {px py pz qx qy qz zz xx yy m1 ee sq mo ls a1 a2 ac u1 X s1 u2 Y Z : Int} {p q : F × F} (hp : Rep px py pz p) (hq : Rep qx qy qz q) (h1 : On p) (h2 : On q)
    (ezz : zz = (pz * qz) % Pn) (exx : xx = (px * qx) % Pn) (eyy : yy = (py * qy) % Pn) (em1 : m1 = (xx * yy) % Pn) (eee : ee = (Dn * m1) % Pn) (esq : sq = (zz * zz) % Pn) (emo : mo = (sq + ee) % Pn) (els : ls = (sq - ee) % Pn) (ea1 : a1 = (px * qy) % Pn) (ea2 : a2 = (qx * py) % Pn) (eac : ac = (a1 + a2) % Pn) (eu1 : u1 = (ac * ls) % Pn) (eX : X = (zz * u1) % Pn) (es1 : s1 = (xx + yy) % Pn) (eu2 : u2 = (s1 * mo) % Pn) (eY : Y = (zz * u2) % Pn) (eZ : Z = (mo * ls) % Pn) : Rep X Y Z (add p q) := by
  obtain ⟨Z1, hZ1, rfl, rfl, rfl⟩ := hp
  obtain ⟨Z2, hZ2, rfl, rfl, rfl⟩ := hq
  rw [← val_mulN] at ezz exx eyy ea1 ea2
  rw [exx, eyy, ← val_mulN] at em1
  rw [em1, ← D_val, ← val_mulN] at eee
  rw [ezz, ← val_mulN] at esq
  rw [esq, eee, ← val_addN] at emo
  rw [esq, eee, ← val_subN] at els
  rw [ea1, ea2, ← val_addN] at eac
  rw [eac, els, ← val_mulN] at eu1
  rw [ezz, eu1, ← val_mulN] at eX
  rw [exx, eyy, ← val_addN] at es1
  rw [es1, emo, ← val_mulN] at eu2
  rw [ezz, eu2, ← val_mulN] at eY
  rw [emo, els, ← val_mulN] at eZ
  clear ezz exx eyy em1 eee esq emo els ea1 ea2 eac eu1 es1 eu2
  have c1 := compl1 h1 h2
  have c2 := compl2 h1 h2
  have i1 := mul_finv c1
  have i2 := mul_finv c2
  obtain ⟨g1, g2⟩ := add_rep_aux p.1 p.2 q.1 q.2 Z1 Z2 (kk p q) _ _ rfl i1 i2
  refine ⟨_, ?_, ?_, ?_, eZ⟩
  · have e1 : Z1 * Z2 * (Z1 * Z2) + D * (p.1 * Z1 * (q.1 * Z2) * (p.2 * Z1 * (q.2 * Z2))) = Z1 * Z2 * (Z1 * Z2) * (1 + kk p q) := by unfold kk; grind
    have e2 : Z1 * Z2 * (Z1 * Z2) - D * (p.1 * Z1 * (q.1 * Z2) * (p.2 * Z1 * (q.2 * Z2))) = Z1 * Z2 * (Z1 * Z2) * (1 - kk p q) := by unfold kk; grind
    have hz := mul_ne_zero (mul_ne_zero hZ1 hZ2) (mul_ne_zero hZ1 hZ2)
    rw [e1, e2]
    exact mul_ne_zero (mul_ne_zero hz c1) (mul_ne_zero hz c2)
  · rw [eX, g1, add_fst]
  · rw [eY, g2, add_snd]

theorem added_a {px py pz qx qy qz : Int} {p q : F × F} (hp : Rep px py pz p) (hq : Rep qx qy qz q) (h1 : On p) (h2 : On q) (w : World) :
    Calls Tryz.prog 19 #[.agg (Pv px py pz), .agg (Pv qx qy qz)] w fun e w' => ∃ X Y Z, e = .returned (.agg (Pv X Y Z)) ∧ Upd w w' FF ∧ Rep X Y Z (add p q) := by
  obtain ⟨r1, r2, r3⟩ := hp.rn
  obtain ⟨r4, r5, r6⟩ := hq.rn
  have hr := added_rep hp hq h1 h2 rfl rfl rfl rfl rfl rfl rfl rfl rfl rfl rfl rfl rfl rfl rfl rfl rfl
  exact (added_c px py pz qx qy qz _ _ _ _ _ _ _ _ _ _ _ _ _ _ _ _ _ r1 r2 r3 r4 r5 r6 rfl rfl rfl rfl rfl rfl rfl rfl rfl rfl rfl rfl rfl rfl rfl rfl rfl w).mono fun e w' ⟨he, hU⟩ => ⟨_, _, _, he, hU, hr⟩

theorem encoded_a {x y z : Int} {p : F × F} (h : Rep x y z p) (w : World) :
    Calls Tryz.prog 18 #[.agg (Pv x y z)] w fun e w' => e = .returned (.agg (Arr (encF p.1 p.2))) ∧ Upd w w' FF := by
  obtain ⟨r1, r2, r3⟩ := h.rn
  rw [← h.enc rfl rfl rfl]
  exact encoded_c x y z _ _ _ r1 r2 r3 rfl rfl rfl w

theorem y_val (bs : Nat → Int) (hb : ∀ i, Byte (bs i)) : le (low31 bs) 0 32 % Pn = ((yOf bs).val : Int) := by
  rw [le_low31 bs hb]; unfold yOf; rw [val_mod]
theorem xx_val {s : Int} (h0 : 0 ≤ s) (h1 : s < 256) (y : F) : (if 128 ≤ s then -((xOf y).val : Int) % Pn else (xOf y).val) = ((xxOf (s / 128) y).val : Int) := by
  unfold xxOf
  by_cases h : 128 ≤ s
  · rw [if_pos h, if_pos (by omega), val_negN]
  · rw [if_neg h, if_neg (by omega)]
theorem dec_ret {ok : Bool} {X y s : Int} {v : Value} (h : DecPost ok X y s v) : (ok = true → v = .tuple #[.agg (Pv (if 128 ≤ s then -X % Pn else X) y 1), .bool true]) ∧ (ok = false → v = .tuple #[.agg (Pv 0 0 0), .bool false]) := h

theorem q_val (y : F) : ((uOf y).val : Int) * (((vOf y).val : Int) ^ eInv % Pn) % Pn = ((qOf y).val : Int) := by
  unfold qOf invF
  rw [val_mulN, val_powN, ← eInv_def]
theorem u_val (y : F) : ((y.val : Int) * y.val % Pn - 1) % Pn = ((uOf y).val : Int) := by
  unfold uOf; rw [val_subN, val_mulN, one_val]; rfl
theorem v_val (y : F) : (Dn * ((y.val : Int) * y.val % Pn) % Pn + 1) % Pn = ((vOf y).val : Int) := by
  unfold vOf; rw [val_addN, val_mulN, val_mulN, one_val, D_val, Int.mul_comm Dn]; rfl

theorem rootV_rn (a : F) : Rn (rootV (a.val : Int)) := by
  by_cases h : rootB (a.val : Int) = true
  · obtain ⟨s, hs⟩ := (rootB_iff a).1 h
    rw [rootV_F (x := absF s) (by rw [absF_sq, hs]) (absF_even s)]
    exact val_rn _
  · unfold rootV
    have h' : ¬ (rt1 (a.val : Int) * rt1 (a.val : Int) % Pn = a.val) ∧ ¬ (rt2 (a.val : Int) * rt2 (a.val : Int) % Pn = a.val) := by
      unfold rootB at h
      simpa using h
    rw [if_neg h'.1, if_neg h'.2]
    exact ⟨by decide, by decide⟩

theorem decoded_all (bs : Nat → Int) (hb : ∀ i, Byte (bs i)) (w : World) :
    Calls Tryz.prog 17 #[.agg (Arr bs)] w fun e w' => (∃ v, e = .returned v ∧ DecPost (rootB ((qOf (yOf bs)).val : Int)) (rootV ((qOf (yOf bs)).val : Int)) ((yOf bs).val : Int) (bs 31) v) ∧ Upd w w' FF :=
  decoded_c bs hb _ _ _ _ _ _ _ _ _ (y_val bs hb).symm rfl (u_val _).symm rfl (v_val _).symm rfl (q_val _).symm rfl (rootV_rn _) rfl w

theorem decoded_ok (bs : Nat → Int) (hb : ∀ i, Byte (bs i)) (h : okOf (yOf bs)) : ∃ x y z, Rep x y z (ptOf bs) ∧ ∀ w : World,
    Calls Tryz.prog 17 #[.agg (Arr bs)] w fun e w' => e = .returned (.tuple #[.agg (Pv x y z), .bool true]) ∧ Upd w w' FF := by
  refine ⟨_, _, _, Rep.one _, fun w => (decoded_all bs hb w).mono fun e w' ⟨⟨v, he, hd⟩, hU⟩ => ⟨?_, hU⟩⟩
  rw [he, hd.1 ((ok_root _).2 h), x_root h, xx_val (hb 31).1 (hb 31).2]
  rfl
theorem decoded_no (bs : Nat → Int) (hb : ∀ i, Byte (bs i)) (h : ¬ okOf (yOf bs)) (w : World) :
    Calls Tryz.prog 17 #[.agg (Arr bs)] w fun e w' => e = .returned (.tuple #[.agg (Pv 0 0 0), .bool false]) ∧ Upd w w' FF := by
  refine (decoded_all bs hb w).mono fun e w' ⟨⟨v, he, hd⟩, hU⟩ => ⟨?_, hU⟩
  rw [he, hd.2 (by
    cases hr : rootB ((qOf (yOf bs)).val : Int)
    · rfl
    · exact absurd ((ok_root _).1 hr) h)]

end Go.Proofs.YtkibnongmkhbaaaGreatDoor
end

section
open Go Go.RowKit
namespace Go.Proofs.YtkibnongmkhbaaaGreatDoor
open Ed

def MupRel (w : World) (ob : Nat) (p : F × F) (b : Nat) (i : Value) (wr : World) : Prop :=
  ∃ (k : Nat) (x y z : Int), k ≤ 256 ∧ i = .int .i64 ((k : Int) - 1) ∧ Upd w wr (fun x _ => x = ob) ∧ Np wr ob x y z ∧ Rep x y z (smul (b / 2 ^ k) p)

set_option maxRecDepth 100000 in
set_option maxHeartbeats 8000000 in
theorem multiple_a {px py pz : Int} {p : F × F} (hp : Rep px py pz p) (hon : On p) (b : Nat) (hb1 : b < 115792089237316195423570985008687907853269984665640564039457584007913129639936) (w : World) :
    Calls Tryz.prog 23 #[.agg (Na (b : Int)), .agg (Pv px py pz)] w fun e w' => ∃ x y z, e = .returned (.agg (Pv x y z)) ∧ Upd w w' FF ∧ Rep x y z (smul b p) := by
  have A1 := ((((Upd.refl w FF).alloc (.cells (Na (b : Int)) 45)).alloc (.cells (Pv px py pz) 47)).alloc (Z12 47))
  have n1 := ((Nu.boxed w (b : Int) 45).keep (((Upd.refl _ FF).alloc (.cells (Pv px py pz) 47)).alloc (Z12 47)) (fun _ _ h => h))
  have n2 := ((Np.boxed (w.alloc (.cells (Na (b : Int)) 45)) px py pz 47).keep ((Upd.refl _ FF).alloc (Z12 47)) (fun _ _ h => h))
  have n4 := Np.zero ((w.alloc (.cells (Na (b : Int)) 45)).alloc (.cells (Pv px py pz) 47)) 47
  simp only [World.size_alloc] at n1 n2 n4
  go_enter Tryz.func23, Tryz.ntmps23
  go_wp2_with fail
  refine (identity_c _).mono ?_
  rintro e w0 ⟨rfl, hU0⟩
  have s0 := hU0.size
  simp only [World.size_alloc] at s0
  have B0 := hU0.alloc (Z12 47)
  replace n1 := n1.keep B0 (fun _ _ h => h)
  replace n2 := n2.keep B0 (fun _ _ h => h)
  replace n4 := n4.keep B0 (fun _ _ h => h)
  replace A1 := A1.trans B0 (fun _ _ _ h => h)
  have n5 := Np.zero w0 47
  clear hU0 B0
  go_wp2_with (first
    | (refine wpList_store47 rfl _ _ rfl _ 0 1 1 _ _ _ (by rfl) (by rfl) n5 ?_; intro w1 hU1 p5))
  replace n1 := n1.keep hU1 (fun i hi h => absurd h.1 (by omega))
  replace n2 := n2.keep hU1 (fun i hi h => absurd h.1 (by omega))
  replace n4 := n4.keep hU1 (fun i hi h => absurd h.1 (by omega))
  replace A1 := A1.trans hU1 (fun b o hb h => absurd h.1 (by omega))
  have s1 := p5.lt
  clear hU1 n5
  go_loopw [6] (fun i wr => MupRel w1 w0.heap.size p b i wr) (fun i _ => (intOf i + 1).toNat)
  case atStart =>
    refine ⟨256, 0, 1, 1, by omega, rfl, Upd.refl _ _, p5, ?_⟩
    have e : b / 2 ^ 256 = 0 := Nat.div_eq_of_lt hb1
    rw [e]
    exact Rep.id
  case round =>
    clear p5
    obtain ⟨k, x, y, z, hk, rfl, hU, p5, hrep⟩ := hrel
    replace n1 := n1.keep hU (fun i hi h => by omega)
    replace n2 := n2.keep hU (fun i hi h => by omega)
    replace n4 := n4.keep hU (fun i hi h => by omega)
    have s2 := hU.size
    by_cases hlt : k = 0
    · subst hlt
      rw [Nat.pow_zero, Nat.div_one] at hrep
      go_wp2_with (first
        | (refine wpList_load47 rfl _ rfl _ (by rfl) _ _ _ p5 ?_)
        | (refine wpList_store47 rfl _ _ rfl _ x y z _ _ _ (by rfl) (by rfl) n4 ?_; intro w2 hU2 n6))
      exact bodyPost_ret (results_cell rfl (by rfl) (load47 n6)) rfl ⟨x, y, z, rfl, (A1.trans hU (fun b o hb h => by omega)).trans hU2 (fun b o hb h => absurd h.1 (by omega)), hrep⟩
    · obtain ⟨j, rfl⟩ : ∃ j, k = j + 1 := ⟨k - 1, by omega⟩
      rw [show ((j + 1 : Nat) : Int) - 1 = (j : Int) by omega]
      obtain ⟨q, eq⟩ : ∃ q, q = b / 2 ^ (j + 1) := ⟨_, rfl⟩
      have hst := div2_nat b j
      rw [← eq] at hrep hst
      clear eq
      have HS := Lib.hid hst
      clear hst
      have hj0 : (0 : Int) ≤ (j : Int) := by omega
      go_wp2_with (first
        | (refine wpList_load47 rfl _ rfl _ (by rfl) _ _ _ p5 ?_))
      refine (added_a hrep hrep (on_smul hon q) (on_smul hon q) _).mono ?_
      rintro e w3 ⟨x3, y3, z3, rfl, hU3, hrep3⟩
      rw [smul_dbl hon] at hrep3
      have s3 := hU3.size
      replace n1 := n1.keep hU3 (fun _ _ h => h)
      replace n2 := n2.keep hU3 (fun _ _ h => h)
      replace p5 := p5.keep hU3 (fun _ _ h => h)
      replace hU := hU.trans hU3 (fun _ _ _ h => h.elim)
      clear hU3 n4 hrep
      go_wp2_with (first
        | (refine wpList_store47 rfl _ _ rfl _ x3 y3 z3 _ _ _ (by rfl) (by rfl) p5 ?_; intro w4 hU4 p6; have k1 := n1.keep hU4 (fun i hi h => absurd h.1 (by omega)))
        | (refine wpList_load45 rfl _ rfl _ _ (by rfl) _ k1 ?_))
      have s4 := hU4.size
      refine (bit_c (b : Int) j (by omega) _).mono ?_
      rintro e w5 ⟨rfl, hU5⟩
      have s5 := hU5.size
      replace n2 := (n2.keep hU4 (fun i hi h => absurd h.1 (by omega))).keep hU5 (fun _ _ h => h)
      replace p6 := p6.keep hU5 (fun _ _ h => h)
      replace hU := (hU.trans hU4 (fun _ _ _ h => h.1)).trans hU5 (fun _ _ _ h => h.elim)
      clear hU4 hU5 n1 k1 p5
      cases hbt : bt (b : Int) j
      · have hb0 := bt_false hbt
        rw [← nat_bit] at hb0
        have hq : b / 2 ^ j = 2 * q := by have := HS.out; omega
        have HQ := Lib.hid hq
        clear hb0 hq hbt
        go_wp2
        exact ⟨⟨j, x3, y3, z3, by omega, by go_num, hU, p6, by rw [HQ.out]; exact hrep3⟩, by simp [intOf]⟩
      · have hb0 := bt_true hbt
        rw [← nat_bit] at hb0
        have hq : b / 2 ^ j = 2 * q + 1 := by have := HS.out; omega
        have HQ := Lib.hid hq
        clear hb0 hq hbt
        go_wp2_with (first
          | (refine wpList_load47 rfl _ rfl _ (by rfl) _ _ _ p6 ?_)
          | (refine wpList_load47 rfl _ rfl _ (by rfl) _ _ _ n2 ?_))
        refine (added_a hrep3 hp (on_smul hon (2 * q)) hon _).mono ?_
        rintro e w6 ⟨x6, y6, z6, rfl, hU6, hrep6⟩
        rw [smul_succ] at hrep6
        replace p6 := p6.keep hU6 (fun _ _ h => h)
        replace hU := hU.trans hU6 (fun _ _ _ h => h.elim)
        clear hU6 n2
        go_wp2_with (first
          | (refine wpList_store47 rfl _ _ rfl _ x6 y6 z6 _ _ _ (by rfl) (by rfl) p6 ?_; intro w7 hU7 p7))
        exact ⟨⟨j, x6, y6, z6, by omega, by go_num, hU.trans hU7 (fun _ _ _ h => h.1), p7, by rw [HQ.out]; exact hrep6⟩, by simp [intOf]⟩

end Go.Proofs.YtkibnongmkhbaaaGreatDoor
end

section
open Go Go.RowKit
namespace Go.Proofs.YtkibnongmkhbaaaGreatDoor
open Ed

/-- the bytes and true, or zeros and false -/
def BothPost (b : Bool) (R : Nat → Int) (e : Ending) : Prop := e = .returned (.tuple #[.agg (Arr (if b then R else fun _ => 0)), .bool b])

set_option maxRecDepth 100000 in
set_option maxHeartbeats 8000000 in
theorem specAdd_all (bp bq R' : Nat → Int) (px py pz qx qy qz : Int) (b1 b2 : Bool)
    (k1 : ∀ w, Calls Tryz.prog 17 #[.agg (Arr bp)] w fun e w' => e = .returned (.tuple #[.agg (Pv px py pz), .bool b1]) ∧ Upd w w' FF)
    (k2 : ∀ w, Calls Tryz.prog 17 #[.agg (Arr bq)] w fun e w' => e = .returned (.tuple #[.agg (Pv qx qy qz), .bool b2]) ∧ Upd w w' FF)
    (k3 : b1 = true → b2 = true → ∀ w, Calls Tryz.prog 19 #[.agg (Pv px py pz), .agg (Pv qx qy qz)] w fun e w' => ∃ X Y Z, e = .returned (.agg (Pv X Y Z)) ∧ Upd w w' FF ∧ ∀ w, Calls Tryz.prog 18 #[.agg (Pv X Y Z)] w fun e w' => e = .returned (.agg (Arr R')) ∧ Upd w w' FF) (w : World) :
    Calls Tryz.prog 5 #[.agg (Arr bp), .agg (Arr bq)] w fun e w' => BothPost (b1 && b2) R' e ∧ Upd w w' FF := by
  have A := (((Upd.refl w FF).alloc (.cells (Arr bp) 22)).alloc (.cells (Arr bq) 22)).alloc zero32
  have P := (By.arr bp w 22).keep (((Upd.refl _ FF).alloc (.cells (Arr bq) 22)).alloc zero32) (fun _ _ h => h)
  have Q := (By.arr bq (w.alloc (.cells (Arr bp) 22)) 22).keep ((Upd.refl _ FF).alloc zero32) (fun _ _ h => h)
  have R := zero32_wy ((w.alloc (.cells (Arr bp) 22)).alloc (.cells (Arr bq) 22))
  simp only [World.size_alloc] at P Q R
  go_enter Tryz.func5, Tryz.ntmps5
  go_wp2_with (first
    | (refine wpList_load22 rfl _ rfl _ _ (by rfl) _ P ?_))
  refine (k1 _).mono ?_
  rintro e w1 ⟨rfl, hU⟩
  replace Q := Q.keep hU (fun _ _ h => h)
  replace R := R.keep hU (fun _ _ h => h)
  replace A := A.trans hU (fun _ _ _ h => h)
  clear hU P k1
  have B1 := (Upd.refl w1 FF).alloc (Z12 47)
  have N1 := Np.zero w1 47
  have lA := A.size
  have lQ := Q.ltB
  have lR := R.lt (by decide)
  replace Q := Q.keep B1 (fun _ _ h => h)
  replace R := R.keep B1 (fun _ _ h => h)
  replace A := A.trans B1 (fun _ _ _ h => h)
  clear B1
  go_wp2_with (first
    | (refine wpList_store47 rfl _ _ rfl _ px py pz _ _ _ (by rfl) (by rfl) N1 ?_; intro d1 hV1 M1; replace Q := Q.keep hV1 (fun i hi h => absurd h.1 (by omega)); replace R := R.keep hV1 (fun i hi h => absurd h.1 (by omega)); replace A := A.trans hV1 (fun b o hb h => absurd h.1 (by omega)); clear hV1 N1 lA lQ lR)
    | (refine wpList_load22 rfl _ rfl _ _ (by rfl) _ Q ?_))
  refine (k2 _).mono ?_
  rintro e w2 ⟨rfl, hU⟩
  replace R := R.keep hU (fun _ _ h => h)
  replace A := A.trans hU (fun _ _ _ h => h)
  replace M1 := M1.keep hU (fun _ _ h => h)
  clear hU Q k2
  have B1 := (Upd.refl w2 FF).alloc (Z12 47)
  have N2 := Np.zero w2 47
  have lA := A.size
  have lM := M1.lt
  have lR := R.lt (by decide)
  replace M1 := M1.keep B1 (fun _ _ h => h)
  replace R := R.keep B1 (fun _ _ h => h)
  replace A := A.trans B1 (fun _ _ _ h => h)
  clear B1
  cases b1 <;> cases b2
  · go_wp2_with (first
      | (refine wpList_store47 rfl _ _ rfl _ qx qy qz _ _ _ (by rfl) (by rfl) N2 ?_; intro d2 hV2 M2; replace R := R.keep hV2 (fun i hi h => absurd h.1 (by omega)); replace A := A.trans hV2 (fun b o hb h => absurd h.1 (by omega)); clear hV2 N2 lA lM lR; have lA := A.size)
      | (refine wpList_store22 rfl _ _ rfl _ _ (fun _ => 0) (by rfl) (by rfl) R ?_; intro w5 hU5 hB5 hW5))
    exact bodyPost_ret (results_cell2 (x := .bool false) rfl (by rfl) (load22 hB5) (by rfl)) rfl ⟨rfl, A.trans hU5 (fun b o hb h => absurd h.1 (by omega))⟩
  · go_wp2_with (first
      | (refine wpList_store47 rfl _ _ rfl _ qx qy qz _ _ _ (by rfl) (by rfl) N2 ?_; intro d2 hV2 M2; replace R := R.keep hV2 (fun i hi h => absurd h.1 (by omega)); replace A := A.trans hV2 (fun b o hb h => absurd h.1 (by omega)); clear hV2 N2 lA lM lR; have lA := A.size)
      | (refine wpList_store22 rfl _ _ rfl _ _ (fun _ => 0) (by rfl) (by rfl) R ?_; intro w5 hU5 hB5 hW5))
    exact bodyPost_ret (results_cell2 (x := .bool false) rfl (by rfl) (load22 hB5) (by rfl)) rfl ⟨rfl, A.trans hU5 (fun b o hb h => absurd h.1 (by omega))⟩
  · go_wp2_with (first
      | (refine wpList_store47 rfl _ _ rfl _ qx qy qz _ _ _ (by rfl) (by rfl) N2 ?_; intro d2 hV2 M2; replace R := R.keep hV2 (fun i hi h => absurd h.1 (by omega)); replace A := A.trans hV2 (fun b o hb h => absurd h.1 (by omega)); clear hV2 N2 lA lM lR; have lA := A.size)
      | (refine wpList_store22 rfl _ _ rfl _ _ (fun _ => 0) (by rfl) (by rfl) R ?_; intro w5 hU5 hB5 hW5))
    exact bodyPost_ret (results_cell2 (x := .bool false) rfl (by rfl) (load22 hB5) (by rfl)) rfl ⟨rfl, A.trans hU5 (fun b o hb h => absurd h.1 (by omega))⟩
  · replace k3 := k3 rfl rfl
    go_wp2_with (first
      | (refine wpList_store47 rfl _ _ rfl _ qx qy qz _ _ _ (by rfl) (by rfl) N2 ?_; intro d2 hV2 M2; replace M1 := M1.keep hV2 (fun i hi h => absurd h.1 (by omega)); replace R := R.keep hV2 (fun i hi h => absurd h.1 (by omega)); replace A := A.trans hV2 (fun b o hb h => absurd h.1 (by omega)); clear hV2 N2 lA lM lR)
      | (refine wpList_load47 rfl _ rfl _ (by rfl) _ _ _ M1 ?_)
      | (refine wpList_load47 rfl _ rfl _ (by rfl) _ _ _ M2 ?_))
    refine (k3 _).mono ?_
    rintro e w3 ⟨X, Y, Z, rfl, hU, k4⟩
    replace R := R.keep hU (fun _ _ h => h)
    replace A := A.trans hU (fun _ _ _ h => h)
    clear hU k3 M1 M2
    go_wp2_with fail
    refine (k4 _).mono ?_
    rintro e w4 ⟨rfl, hU⟩
    replace R := R.keep hU (fun _ _ h => h)
    replace A := A.trans hU (fun _ _ _ h => h)
    clear hU k4
    have lA := A.size
    go_wp2_with (first
      | (refine wpList_store22 rfl _ _ rfl _ _ R' (by rfl) (by rfl) R ?_; intro w5 hU5 hB5 hW5))
    exact bodyPost_ret (results_cell2 (x := .bool true) rfl (by rfl) (load22 hB5) (by rfl)) rfl ⟨rfl, A.trans hU5 (fun b o hb h => absurd h.1 (by omega))⟩

set_option maxRecDepth 100000 in
set_option maxHeartbeats 8000000 in
theorem specMul_all (bp bq R' : Nat → Int) (n qx qy qz : Int) (b1 b2 : Bool)
    (k1 : ∀ w, Calls Tryz.prog 22 #[.agg (Arr bp)] w fun e w' => e = .returned (.tuple #[.agg (Na n), .bool b1]) ∧ Upd w w' FF)
    (k2 : ∀ w, Calls Tryz.prog 17 #[.agg (Arr bq)] w fun e w' => e = .returned (.tuple #[.agg (Pv qx qy qz), .bool b2]) ∧ Upd w w' FF)
    (k3 : b1 = true → b2 = true → ∀ w, Calls Tryz.prog 23 #[.agg (Na n), .agg (Pv qx qy qz)] w fun e w' => ∃ X Y Z, e = .returned (.agg (Pv X Y Z)) ∧ Upd w w' FF ∧ ∀ w, Calls Tryz.prog 18 #[.agg (Pv X Y Z)] w fun e w' => e = .returned (.agg (Arr R')) ∧ Upd w w' FF) (w : World) :
    Calls Tryz.prog 8 #[.agg (Arr bp), .agg (Arr bq)] w fun e w' => BothPost (b1 && b2) R' e ∧ Upd w w' FF := by
  have A := (((Upd.refl w FF).alloc (.cells (Arr bp) 22)).alloc (.cells (Arr bq) 22)).alloc zero32
  have P := (By.arr bp w 22).keep (((Upd.refl _ FF).alloc (.cells (Arr bq) 22)).alloc zero32) (fun _ _ h => h)
  have Q := (By.arr bq (w.alloc (.cells (Arr bp) 22)) 22).keep ((Upd.refl _ FF).alloc zero32) (fun _ _ h => h)
  have R := zero32_wy ((w.alloc (.cells (Arr bp) 22)).alloc (.cells (Arr bq) 22))
  simp only [World.size_alloc] at P Q R
  go_enter Tryz.func8, Tryz.ntmps8
  go_wp2_with (first
    | (refine wpList_load22 rfl _ rfl _ _ (by rfl) _ P ?_))
  refine (k1 _).mono ?_
  rintro e w1 ⟨rfl, hU⟩
  replace Q := Q.keep hU (fun _ _ h => h)
  replace R := R.keep hU (fun _ _ h => h)
  replace A := A.trans hU (fun _ _ _ h => h)
  clear hU P k1
  have B1 := (Upd.refl w1 FF).alloc (Z4 45)
  have N1 := Nu.zero w1 45
  have lA := A.size
  have lQ := Q.ltB
  have lR := R.lt (by decide)
  replace Q := Q.keep B1 (fun _ _ h => h)
  replace R := R.keep B1 (fun _ _ h => h)
  replace A := A.trans B1 (fun _ _ _ h => h)
  clear B1
  go_wp2_with (first
    | (refine wpList_store45 rfl _ _ rfl _ _ n _ (by rfl) (by rfl) N1 ?_; intro d1 hV1 M1; replace Q := Q.keep hV1 (fun i hi h => absurd h.1 (by omega)); replace R := R.keep hV1 (fun i hi h => absurd h.1 (by omega)); replace A := A.trans hV1 (fun b o hb h => absurd h.1 (by omega)); clear hV1 N1 lA lQ lR)
    | (refine wpList_load22 rfl _ rfl _ _ (by rfl) _ Q ?_))
  refine (k2 _).mono ?_
  rintro e w2 ⟨rfl, hU⟩
  replace R := R.keep hU (fun _ _ h => h)
  replace A := A.trans hU (fun _ _ _ h => h)
  replace M1 := M1.keep hU (fun _ _ h => h)
  clear hU Q k2
  have B1 := (Upd.refl w2 FF).alloc (Z12 47)
  have N2 := Np.zero w2 47
  have lA := A.size
  have lM := M1.lt
  have lR := R.lt (by decide)
  replace M1 := M1.keep B1 (fun _ _ h => h)
  replace R := R.keep B1 (fun _ _ h => h)
  replace A := A.trans B1 (fun _ _ _ h => h)
  clear B1
  cases b1 <;> cases b2
  · go_wp2_with (first
      | (refine wpList_store47 rfl _ _ rfl _ qx qy qz _ _ _ (by rfl) (by rfl) N2 ?_; intro d2 hV2 M2; replace R := R.keep hV2 (fun i hi h => absurd h.1 (by omega)); replace A := A.trans hV2 (fun b o hb h => absurd h.1 (by omega)); clear hV2 N2 lA lM lR; have lA := A.size)
      | (refine wpList_store22 rfl _ _ rfl _ _ (fun _ => 0) (by rfl) (by rfl) R ?_; intro w5 hU5 hB5 hW5))
    exact bodyPost_ret (results_cell2 (x := .bool false) rfl (by rfl) (load22 hB5) (by rfl)) rfl ⟨rfl, A.trans hU5 (fun b o hb h => absurd h.1 (by omega))⟩
  · go_wp2_with (first
      | (refine wpList_store47 rfl _ _ rfl _ qx qy qz _ _ _ (by rfl) (by rfl) N2 ?_; intro d2 hV2 M2; replace R := R.keep hV2 (fun i hi h => absurd h.1 (by omega)); replace A := A.trans hV2 (fun b o hb h => absurd h.1 (by omega)); clear hV2 N2 lA lM lR; have lA := A.size)
      | (refine wpList_store22 rfl _ _ rfl _ _ (fun _ => 0) (by rfl) (by rfl) R ?_; intro w5 hU5 hB5 hW5))
    exact bodyPost_ret (results_cell2 (x := .bool false) rfl (by rfl) (load22 hB5) (by rfl)) rfl ⟨rfl, A.trans hU5 (fun b o hb h => absurd h.1 (by omega))⟩
  · go_wp2_with (first
      | (refine wpList_store47 rfl _ _ rfl _ qx qy qz _ _ _ (by rfl) (by rfl) N2 ?_; intro d2 hV2 M2; replace R := R.keep hV2 (fun i hi h => absurd h.1 (by omega)); replace A := A.trans hV2 (fun b o hb h => absurd h.1 (by omega)); clear hV2 N2 lA lM lR; have lA := A.size)
      | (refine wpList_store22 rfl _ _ rfl _ _ (fun _ => 0) (by rfl) (by rfl) R ?_; intro w5 hU5 hB5 hW5))
    exact bodyPost_ret (results_cell2 (x := .bool false) rfl (by rfl) (load22 hB5) (by rfl)) rfl ⟨rfl, A.trans hU5 (fun b o hb h => absurd h.1 (by omega))⟩
  · replace k3 := k3 rfl rfl
    go_wp2_with (first
      | (refine wpList_store47 rfl _ _ rfl _ qx qy qz _ _ _ (by rfl) (by rfl) N2 ?_; intro d2 hV2 M2; replace M1 := M1.keep hV2 (fun i hi h => absurd h.1 (by omega)); replace R := R.keep hV2 (fun i hi h => absurd h.1 (by omega)); replace A := A.trans hV2 (fun b o hb h => absurd h.1 (by omega)); clear hV2 N2 lA lM lR)
      | (refine wpList_load45 rfl _ rfl _ _ (by rfl) _ M1 ?_)
      | (refine wpList_load47 rfl _ rfl _ (by rfl) _ _ _ M2 ?_))
    refine (k3 _).mono ?_
    rintro e w3 ⟨X, Y, Z, rfl, hU, k4⟩
    replace R := R.keep hU (fun _ _ h => h)
    replace A := A.trans hU (fun _ _ _ h => h)
    clear hU k3 M1 M2
    go_wp2_with fail
    refine (k4 _).mono ?_
    rintro e w4 ⟨rfl, hU⟩
    replace R := R.keep hU (fun _ _ h => h)
    replace A := A.trans hU (fun _ _ _ h => h)
    clear hU k4
    have lA := A.size
    go_wp2_with (first
      | (refine wpList_store22 rfl _ _ rfl _ _ R' (by rfl) (by rfl) R ?_; intro w5 hU5 hB5 hW5))
    exact bodyPost_ret (results_cell2 (x := .bool true) rfl (by rfl) (load22 hB5) (by rfl)) rfl ⟨rfl, A.trans hU5 (fun b o hb h => absurd h.1 (by omega))⟩

theorem ell_lt : ell < 115792089237316195423570985008687907853269984665640564039457584007913129639936 := by decide

/-- spec.PointAdd -/
theorem specAdd_ok (bp bq : Nat → Int) (hbp : ∀ i, Byte (bp i)) (hbq : ∀ i, Byte (bq i)) (hop : okOf (yOf bp)) (hoq : okOf (yOf bq)) (w : World) :
    Calls Tryz.prog 5 #[.agg (Arr bp), .agg (Arr bq)] w fun e w' => e = .returned (.tuple #[.agg (Arr (encF (add (ptOf bp) (ptOf bq)).1 (add (ptOf bp) (ptOf bq)).2)), .bool true]) ∧ Upd w w' FF := by
  obtain ⟨px, py, pz, hp, k1⟩ := decoded_ok bp hbp hop
  obtain ⟨qx, qy, qz, hq, k2⟩ := decoded_ok bq hbq hoq
  exact specAdd_all bp bq _ px py pz qx qy qz true true k1 k2 (fun _ _ w => (added_a hp hq (on_ptOf hop) (on_ptOf hoq) w).mono fun e w' ⟨X, Y, Z, he, hU, hr⟩ => ⟨X, Y, Z, he, hU, fun w => encoded_a hr w⟩) w
theorem decoded_any (bs : Nat → Int) (hb : ∀ i, Byte (bs i)) : ∃ (x y z : Int) (b : Bool), (b = true ↔ okOf (yOf bs)) ∧ ∀ w : World,
    Calls Tryz.prog 17 #[.agg (Arr bs)] w fun e w' => e = .returned (.tuple #[.agg (Pv x y z), .bool b]) ∧ Upd w w' FF := by
  by_cases h : okOf (yOf bs)
  · obtain ⟨x, y, z, _, k⟩ := decoded_ok bs hb h
    exact ⟨x, y, z, true, ⟨fun _ => h, fun _ => rfl⟩, k⟩
  · exact ⟨0, 0, 0, false, ⟨fun e => (by cases e), fun e => absurd e h⟩, decoded_no bs hb h⟩
theorem specAdd_no (bp bq : Nat → Int) (hbp : ∀ i, Byte (bp i)) (hbq : ∀ i, Byte (bq i)) (hno : ¬ (okOf (yOf bp) ∧ okOf (yOf bq))) (w : World) :
    Calls Tryz.prog 5 #[.agg (Arr bp), .agg (Arr bq)] w fun e w' => e = .returned (.tuple #[.agg (Arr (fun _ => 0)), .bool false]) ∧ Upd w w' FF := by
  obtain ⟨px, py, pz, b1, h1, k1⟩ := decoded_any bp hbp
  obtain ⟨qx, qy, qz, b2, h2, k2⟩ := decoded_any bq hbq
  have hb : (b1 && b2) = false := by
    cases b1
    · rfl
    · cases b2
      · rfl
      · exact absurd ⟨h1.1 rfl, h2.1 rfl⟩ hno
  have h := specAdd_all bp bq (fun _ => 0) px py pz qx qy qz b1 b2 k1 k2 (fun e1 e2 => absurd ⟨h1.1 e1, h2.1 e2⟩ hno) w
  rw [hb] at h
  exact h

/-- spec.PointScalarMult -/
theorem specMul_ok (bp bq : Nat → Int) (hbp : ∀ i, Byte (bp i)) (hbq : ∀ i, Byte (bq i)) (hop : le bp 0 32 < ell) (hoq : okOf (yOf bq)) (w : World) :
    Calls Tryz.prog 8 #[.agg (Arr bp), .agg (Arr bq)] w fun e w' => e = .returned (.tuple #[.agg (Arr (encF (zmul (le bp 0 32) (ptOf bq)).1 (zmul (le bp 0 32) (ptOf bq)).2)), .bool true]) ∧ Upd w w' FF := by
  obtain ⟨qx, qy, qz, hq, k2⟩ := decoded_ok bq hbq hoq
  have h0 := (le_lt bp hbp 32 0).1
  rw [zmul_nat _ h0]
  have k1 := fun w => scalar_c bp hbp w
  rw [show ltI (le bp 0 32) ell = 1 from if_pos hop] at k1
  obtain ⟨n, en⟩ := Int.eq_ofNat_of_zero_le h0
  rw [en] at k1 hop ⊢
  exact specMul_all bp bq _ (n : Int) qx qy qz true true k1 k2 (fun _ _ w => (multiple_a hq (on_ptOf hoq) n (by have := ell_lt; omega) w).mono fun e w' ⟨X, Y, Z, he, hU, hr⟩ => ⟨X, Y, Z, he, hU, fun w => encoded_a hr w⟩) w
theorem specMul_no (bp bq : Nat → Int) (hbp : ∀ i, Byte (bp i)) (hbq : ∀ i, Byte (bq i)) (hno : ¬ (le bp 0 32 < ell ∧ okOf (yOf bq))) (w : World) :
    Calls Tryz.prog 8 #[.agg (Arr bp), .agg (Arr bq)] w fun e w' => e = .returned (.tuple #[.agg (Arr (fun _ => 0)), .bool false]) ∧ Upd w w' FF := by
  obtain ⟨qx, qy, qz, b2, h2, k2⟩ := decoded_any bq hbq
  have k1 := fun w => scalar_c bp hbp w
  have h1 : (ltI (le bp 0 32) ell == 1) = true → le bp 0 32 < ell := fun h => by
    unfold ltI at h
    split at h
    · assumption
    · cases h
  generalize (ltI (le bp 0 32) ell == 1) = b1 at *
  have hb : (b1 && b2) = false := by
    cases b1
    · rfl
    · cases b2
      · rfl
      · exact absurd ⟨h1 rfl, h2.1 rfl⟩ hno
  have h := specMul_all bp bq (fun _ => 0) (le bp 0 32) qx qy qz b1 b2 k1 k2 (fun e1 e2 => absurd ⟨h1 e1, h2.1 e2⟩ hno) w
  rw [hb] at h
  exact h

end Go.Proofs.YtkibnongmkhbaaaGreatDoor
end
