/- Part of the proof that laws.FnGroup returns true for all 32 bytes p, q and x: the plain law of extended coordinates, the contracts on affine points.
   Conditions: those that each theorem states. -/
import Derived.Test.YtkibnongmkhbaaaGreatDoorAM
import Derived.Test.YtkibnongmkhbaaaGreatDoorAJ
import Derived.Deep.RegionHeld3

section
open Go Go.RowKit
namespace Go.Proofs.YtkibnongmkhbaaaGreatDoor
open Ed

/-- the point p in extended coordinates -/
structure Ex (X Y Z T : F) (p : F × F) : Prop where
  hZ : Z ≠ 0
  hX : X = p.1 * Z
  hY : Y = p.2 * Z
  hT : T = p.1 * p.2 * Z
/-- the point p as it is cached -/
structure Ca (A B C E : F) (p : F × F) : Prop where
  hC : C ≠ 0
  hA : A = (p.2 + p.1) * C
  hB : B = (p.2 - p.1) * C
  hE : E = p.1 * p.2 * C * (D + D)
/-- the point p as two fractions -/
structure Q1 (X Y Z T : F) (p : F × F) : Prop where
  hZ : Z ≠ 0
  hT : T ≠ 0
  hX : X = p.1 * Z
  hY : Y = p.2 * T
/-- the point p projectively -/
structure Q2 (X Y Z : F) (p : F × F) : Prop where
  hZ : Z ≠ 0
  hX : X = p.1 * Z
  hY : Y = p.2 * Z

theorem Ex.ca {X Y Z T : F} {p : F × F} (h : Ex X Y Z T p) : Ca (Y + X) (Y - X) Z (T * (D + D)) p :=
  ⟨h.hZ, by rw [h.hX, h.hY]; grind, by rw [h.hX, h.hY]; grind, by rw [h.hT]⟩
theorem Q1.ex {X Y Z T : F} {p : F × F} (h : Q1 X Y Z T p) : Ex (X * T) (Y * Z) (Z * T) (X * Y) p :=
  ⟨mul_ne_zero h.hZ h.hT, by rw [h.hX]; grind, by rw [h.hY]; grind, by rw [h.hX, h.hY]; grind⟩
theorem Q1.q2 {X Y Z T : F} {p : F × F} (h : Q1 X Y Z T p) : Q2 (X * T) (Y * Z) (Z * T) p := ⟨h.ex.hZ, h.ex.hX, h.ex.hY⟩
theorem Ca.neg {A B C E : F} {p : F × F} (h : Ca A B C E p) : Ca B A C (-E) (Ed.neg p) :=
  ⟨h.hC, by rw [h.hB]; show _ = (p.2 + -p.1) * C; grind, by rw [h.hA]; show _ = (p.2 - -p.1) * C; grind, by rw [h.hE]; show _ = -p.1 * p.2 * C * (D + D); grind⟩
theorem Ca.zero : Ca 1 1 1 0 pt0 := ⟨one_ne_zero, by unfold pt0; grind, by unfold pt0; grind, by unfold pt0; grind⟩
theorem Ex.zero : Ex 0 1 1 0 pt0 := ⟨one_ne_zero, by unfold pt0; grind, by unfold pt0; grind, by unfold pt0; grind⟩

theorem dbl_ne {a b : F} (ha : a ≠ 0) (hb : b ≠ 0) : a * b + a * b ≠ 0 := by
  have h := mul_ne_zero two_ne_zero (mul_ne_zero ha hb)
  intro e
  apply h
  grind

theorem add_law {X Y Z T A B C E : F} {p q : F × F} (hp : On p) (hq : On q) (h : Ex X Y Z T p) (k : Ca A B C E q) :
    Q1 ((Y + X) * A - (Y - X) * B) ((Y + X) * A + (Y - X) * B) (Z * C + Z * C + T * E) (Z * C + Z * C - T * E) (add p q) := by
  obtain ⟨hZ, hX, hY, hT⟩ := h
  obtain ⟨hC, hA, hB, hE⟩ := k
  have n1 := compl1 hp hq
  have n2 := compl2 hp hq
  have e1 : Z * C + Z * C + T * E = (Z * C + Z * C) * (1 + kk p q) := by rw [hT, hE]; unfold kk; grind
  have e2 : Z * C + Z * C - T * E = (Z * C + Z * C) * (1 - kk p q) := by rw [hT, hE]; unfold kk; grind
  have m1 := mul_finv n1
  have m2 := mul_finv n2
  refine ⟨by rw [e1]; exact mul_ne_zero (dbl_ne hZ hC) n1, by rw [e2]; exact mul_ne_zero (dbl_ne hZ hC) n2, ?_, ?_⟩
  · rw [add_fst, e1, hX, hY, hA, hB]
    generalize finv (1 + kk p q) = u at *
    generalize 1 + kk p q = v at *
    grind
  · rw [add_snd, e2, hX, hY, hA, hB]
    generalize finv (1 - kk p q) = u at *
    generalize 1 - kk p q = v at *
    grind

theorem dbl_law {X Y Z : F} {p : F × F} (hp : On p) (h : Q2 X Y Z p) :
    Q1 ((X + Y) * (X + Y) - (Y * Y + X * X)) (Y * Y + X * X) (Y * Y - X * X) (Z * Z + Z * Z - (Y * Y - X * X)) (add p p) := by
  obtain ⟨hZ, hX, hY⟩ := h
  have n1 := compl1 hp hp
  have n2 := compl2 hp hp
  have hZZ := mul_ne_zero hZ hZ
  have c : p.2 * p.2 - p.1 * p.1 = 1 + kk p p := by unfold On at hp; unfold kk; grind
  have e1 : Y * Y - X * X = Z * Z * (1 + kk p p) := by rw [← c, hX, hY]; grind
  have e2 : Z * Z + Z * Z - (Y * Y - X * X) = Z * Z * (1 - kk p p) := by rw [e1]; grind
  have m1 := mul_finv n1
  have m2 := mul_finv n2
  refine ⟨by rw [e1]; exact mul_ne_zero hZZ n1, by rw [e2]; exact mul_ne_zero hZZ n2, ?_, ?_⟩
  · rw [add_fst, e1, hX, hY]
    generalize finv (1 + kk p p) = u at *
    generalize 1 + kk p p = v at *
    grind
  · rw [add_snd, e2, hX, hY]
    generalize finv (1 - kk p p) = u at *
    generalize 1 - kk p p = v at *
    grind

theorem invF_eq (x : F) : invF x = finv x := by
  unfold invF finv
  congr 1
  try (rw [P_eq])

theorem Ex.aff {X Y Z T : F} {p : F × F} (h : Ex X Y Z T p) : X * invF Z = p.1 ∧ Y * invF Z = p.2 := by
  have m := mul_finv h.hZ
  rw [invF_eq, h.hX, h.hY]
  constructor <;> grind

theorem Ex.live {X Y Z T : F} {p : F × F} (h : Ex X Y Z T p) (hp : On p) : ¬ (X = 0 ∧ Y = 0) := by
  rintro ⟨hx, hy⟩
  have hx' := h.hX
  have hy' := h.hY
  rw [hx] at hx'
  rw [hy] at hy'
  have e1 := (eq_zero_of_mul hx'.symm).resolve_right h.hZ
  have e2 := (eq_zero_of_mul hy'.symm).resolve_right h.hZ
  unfold On at hp
  rw [e1, e2] at hp
  apply one_ne_zero
  grind

end Go.Proofs.YtkibnongmkhbaaaGreatDoor
end

section
open Go Go.RowKit
namespace Go.Proofs.YtkibnongmkhbaaaGreatDoor
open Ed

def PtA (w : World) (b o : Nat) (p : F × F) : Prop := ∃ X Y Z T, Pt w b o X Y Z T ∧ Ex X Y Z T p
def CaA (w : World) (b o : Nat) (p : F × F) : Prop := ∃ X Y Z T, Pt w b o X Y Z T ∧ Ca X Y Z T p
def P1A (w : World) (b o : Nat) (p : F × F) : Prop := ∃ X Y Z T, Pt w b o X Y Z T ∧ Q1 X Y Z T p
def P2A (w : World) (b o : Nat) (p : F × F) : Prop := ∃ X Y Z, P3 w b o X Y Z ∧ Q2 X Y Z p
/-- twenty cells, some four elements -/
def An (w : World) (b o : Nat) : Prop := ∃ X Y Z T, Pt w b o X Y Z T
def An3 (w : World) (b o : Nat) : Prop := ∃ X Y Z, P3 w b o X Y Z

theorem An.lt {w : World} {b o : Nat} (h : An w b o) : b < w.heap.size := by obtain ⟨X, Y, Z, T, h⟩ := h; exact h.lt
theorem An3.lt {w : World} {b o : Nat} (h : An3 w b o) : b < w.heap.size := by obtain ⟨X, Y, Z, h⟩ := h; exact h.1.lt
theorem PtA.an {w : World} {b o : Nat} {p : F × F} (h : PtA w b o p) : An w b o := by obtain ⟨X, Y, Z, T, h, _⟩ := h; exact ⟨_, _, _, _, h⟩
theorem CaA.an {w : World} {b o : Nat} {p : F × F} (h : CaA w b o p) : An w b o := by obtain ⟨X, Y, Z, T, h, _⟩ := h; exact ⟨_, _, _, _, h⟩
theorem P1A.an {w : World} {b o : Nat} {p : F × F} (h : P1A w b o p) : An w b o := by obtain ⟨X, Y, Z, T, h, _⟩ := h; exact ⟨_, _, _, _, h⟩
theorem P2A.an {w : World} {b o : Nat} {p : F × F} (h : P2A w b o p) : An3 w b o := by obtain ⟨X, Y, Z, h, _⟩ := h; exact ⟨_, _, _, h⟩
theorem An.keep {w w' : World} {S : Nat → Nat → Prop} {b o : Nat} (hu : Upd w w' S) (h : An w b o) (hn : ∀ i, i < 20 → ¬ S b (o + i)) : An w' b o := by obtain ⟨X, Y, Z, T, h⟩ := h; exact ⟨_, _, _, _, h.keep hu hn⟩
theorem An3.keep {w w' : World} {S : Nat → Nat → Prop} {b o : Nat} (hu : Upd w w' S) (h : An3 w b o) (hn : ∀ i, i < 15 → ¬ S b (o + i)) : An3 w' b o := by obtain ⟨X, Y, Z, h⟩ := h; exact ⟨_, _, _, h.keep hu hn⟩
theorem PtA.keep {w w' : World} {S : Nat → Nat → Prop} {b o : Nat} {p : F × F} (hu : Upd w w' S) (h : PtA w b o p) (hn : ∀ i, i < 20 → ¬ S b (o + i)) : PtA w' b o p := by obtain ⟨X, Y, Z, T, h, k⟩ := h; exact ⟨_, _, _, _, h.keep hu hn, k⟩
theorem CaA.keep {w w' : World} {S : Nat → Nat → Prop} {b o : Nat} {p : F × F} (hu : Upd w w' S) (h : CaA w b o p) (hn : ∀ i, i < 20 → ¬ S b (o + i)) : CaA w' b o p := by obtain ⟨X, Y, Z, T, h, k⟩ := h; exact ⟨_, _, _, _, h.keep hu hn, k⟩
theorem P1A.keep {w w' : World} {S : Nat → Nat → Prop} {b o : Nat} {p : F × F} (hu : Upd w w' S) (h : P1A w b o p) (hn : ∀ i, i < 20 → ¬ S b (o + i)) : P1A w' b o p := by obtain ⟨X, Y, Z, T, h, k⟩ := h; exact ⟨_, _, _, _, h.keep hu hn, k⟩
theorem P2A.keep {w w' : World} {S : Nat → Nat → Prop} {b o : Nat} {p : F × F} (hu : Upd w w' S) (h : P2A w b o p) (hn : ∀ i, i < 15 → ¬ S b (o + i)) : P2A w' b o p := by obtain ⟨X, Y, Z, h, k⟩ := h; exact ⟨_, _, _, h.keep hu hn, k⟩
theorem An.zeros (w : World) (t : TypeId) : An (w.alloc (Z20 t)) w.heap.size 0 := ⟨_, _, _, _, Pt.zeros w t⟩
theorem PtA.live {w : World} {b o : Nat} {p : F × F} (h : PtA w b o p) (hp : On p) : Live w b o := by obtain ⟨X, Y, Z, T, h, k⟩ := h; exact h.live (k.live hp)

theorem fromP3_a (vb vo pb po : Nat) (p : F × F) (w : World) (Hv : An w vb vo) (Hp : PtA w pb po p) (hne : vb ≠ pb) :
    Calls Tryz.prog 29 #[.pointer (some ⟨vb, vo, none⟩), .pointer (some ⟨pb, po, none⟩)] w fun e w' => e = .returned (.pointer (some ⟨vb, vo, none⟩)) ∧ Upd w w' (Rg vb vo 20) ∧ CaA w' vb vo p := by
  obtain ⟨V0, V1, V2, V3, hv⟩ := Hv
  obtain ⟨X, Y, Z, T, h, k⟩ := Hp
  exact (fromP3_c vb vo pb po _ _ _ _ _ _ _ _ w hv h hne).mono fun e w' ⟨h1, h2, h3⟩ => ⟨h1, h2, _, _, _, _, h3, k.ca⟩
theorem p1Add_a (vb vo pb po qb qo : Nat) (p q : F × F) (hp : On p) (hq : On q) (w : World) (Hv : An w vb vo) (Hp : PtA w pb po p) (Hq : CaA w qb qo q) (hne : vb ≠ pb) (hnq : vb ≠ qb) :
    Calls Tryz.prog 30 #[.pointer (some ⟨vb, vo, none⟩), .pointer (some ⟨pb, po, none⟩), .pointer (some ⟨qb, qo, none⟩)] w fun e w' => e = .returned (.pointer (some ⟨vb, vo, none⟩)) ∧ Upd w w' (Rg vb vo 20) ∧ P1A w' vb vo (add p q) := by
  obtain ⟨V0, V1, V2, V3, hv⟩ := Hv
  obtain ⟨X, Y, Z, T, h, k⟩ := Hp
  obtain ⟨A, B, C, E, h', k'⟩ := Hq
  exact (p1Add_c vb vo pb po qb qo _ _ _ _ _ _ _ _ _ _ _ _ w hv h h' hne hnq).mono fun e w' ⟨h1, h2, h3⟩ => ⟨h1, h2, _, _, _, _, h3, add_law hp hq k k'⟩
theorem fromP1_a (vb vo pb po : Nat) (p : F × F) (w : World) (Hv : An w vb vo) (Hp : P1A w pb po p) (hne : vb ≠ pb) :
    Calls Tryz.prog 31 #[.pointer (some ⟨vb, vo, none⟩), .pointer (some ⟨pb, po, none⟩)] w fun e w' => e = .returned (.pointer (some ⟨vb, vo, none⟩)) ∧ Upd w w' (Rg vb vo 20) ∧ PtA w' vb vo p := by
  obtain ⟨V0, V1, V2, V3, hv⟩ := Hv
  obtain ⟨X, Y, Z, T, h, k⟩ := Hp
  exact (fromP1_c vb vo pb po _ _ _ _ _ _ _ _ w hv h hne).mono fun e w' ⟨h1, h2, h3⟩ => ⟨h1, h2, _, _, _, _, h3, k.ex⟩
theorem p2From_a (vb vo pb po : Nat) (p : F × F) (w : World) (Hv : An3 w vb vo) (Hp : P1A w pb po p) (hne : vb ≠ pb) :
    Calls Tryz.prog 50 #[.pointer (some ⟨vb, vo, none⟩), .pointer (some ⟨pb, po, none⟩)] w fun e w' => e = .returned (.pointer (some ⟨vb, vo, none⟩)) ∧ Upd w w' (Rg vb vo 15) ∧ P2A w' vb vo p := by
  obtain ⟨V0, V1, V2, hv⟩ := Hv
  obtain ⟨X, Y, Z, T, h, k⟩ := Hp
  exact (p2From_c vb vo pb po _ _ _ _ _ _ _ w hv h hne).mono fun e w' ⟨h1, h2, h3⟩ => ⟨h1, h2, _, _, _, h3, k.q2⟩
theorem dbl_a (vb vo pb po : Nat) (p : F × F) (hp : On p) (w : World) (Hv : An w vb vo) (Hp : P2A w pb po p) (hne : vb ≠ pb) :
    Calls Tryz.prog 51 #[.pointer (some ⟨vb, vo, none⟩), .pointer (some ⟨pb, po, none⟩)] w fun e w' => e = .returned (.pointer (some ⟨vb, vo, none⟩)) ∧ Upd w w' (Rg vb vo 20) ∧ P1A w' vb vo (add p p) := by
  obtain ⟨V0, V1, V2, V3, hv⟩ := Hv
  obtain ⟨X, Y, Z, h, k⟩ := Hp
  exact (dbl_c vb vo pb po _ _ _ _ _ _ _ w hv h hne).mono fun e w' ⟨h1, h2, h3⟩ => ⟨h1, h2, _, _, _, _, h3, dbl_law hp k⟩
theorem cZero_a (B vb vo : Nat) (w : World) (hG : Glob B w) (hB : B ≤ vb) (Hv : An w vb vo) :
    Calls Tryz.prog 79 #[.pointer (some ⟨vb, vo, none⟩)] w fun e w' => e = .returned (.pointer (some ⟨vb, vo, none⟩)) ∧ Upd w w' (Rg vb vo 20) ∧ CaA w' vb vo pt0 := by
  obtain ⟨V0, V1, V2, V3, hv⟩ := Hv
  exact (cZero_c B vb vo _ _ _ _ w hG hB hv).mono fun e w' ⟨h1, h2, h3⟩ => ⟨h1, h2, _, _, _, _, h3, Ca.zero⟩
theorem cSel_a (c : Int) (hc : c = 0 ∨ c = 1) (vb vo pb po : Nat) (p q : F × F) (w : World) (Hv : CaA w vb vo q) (Hp : CaA w pb po p) (hne : vb ≠ pb) :
    Calls Tryz.prog 81 #[.pointer (some ⟨vb, vo, none⟩), .pointer (some ⟨pb, po, none⟩), .pointer (some ⟨vb, vo, none⟩), .int .i64 c] w fun e w' => e = .returned (.pointer (some ⟨vb, vo, none⟩)) ∧ Upd w w' (Rg vb vo 20) ∧ CaA w' vb vo (if c = 1 then p else q) := by
  obtain ⟨V0, V1, V2, V3, hv, kv⟩ := Hv
  obtain ⟨X, Y, Z, T, h, k⟩ := Hp
  refine (cSel_c c hc vb vo pb po _ _ _ _ _ _ _ _ w hv h hne).mono fun e w' ⟨h1, h2, h3⟩ => ⟨h1, h2, _, _, _, _, h3, ?_⟩
  unfold selF
  by_cases h : c = 1
  · simp only [if_pos h]; exact k
  · simp only [if_neg h]; exact kv
theorem cNeg_a (c : Int) (hc : c = 0 ∨ c = 1) (B vb vo : Nat) (p : F × F) (w : World) (hG : Glob B w) (hB : B ≤ vb) (Hv : CaA w vb vo p) :
    Calls Tryz.prog 82 #[.pointer (some ⟨vb, vo, none⟩), .int .i64 c] w fun e w' => e = .returned (.pointer (some ⟨vb, vo, none⟩)) ∧ Upd w w' (Rg vb vo 20) ∧ CaA w' vb vo (if c = 1 then Ed.neg p else p) := by
  obtain ⟨V0, V1, V2, V3, hv, kv⟩ := Hv
  refine (cNeg_c c hc B vb vo _ _ _ _ w hG hB hv).mono fun e w' ⟨h1, h2, h3⟩ => ⟨h1, h2, _, _, _, _, h3, ?_⟩
  unfold selF
  by_cases h : c = 1
  · simp only [if_pos h]; exact kv.neg
  · simp only [if_neg h]; exact kv
theorem newId_a (B : Nat) (w : World) (hG : Glob B w) (hB : B ≤ w.heap.size) :
    Calls Tryz.prog 25 #[] w fun e w' => e = .returned (.pointer (some ⟨w.heap.size, 0, none⟩)) ∧ Upd w w' (fun _ _ => False) ∧ PtA w' w.heap.size 0 pt0 :=
  (newId_c B w hG hB).mono fun _ _ ⟨h1, h2, h3⟩ => ⟨h1, h2, _, _, _, _, h3, Ex.zero⟩
theorem ptCopy_a (vb vo pb po : Nat) (p : F × F) (w : World) (Hv : An w vb vo) (Hp : PtA w pb po p) :
    Calls Tryz.prog 49 #[.pointer (some ⟨vb, vo, none⟩), .pointer (some ⟨pb, po, none⟩)] w fun e w' => e = .returned (.pointer (some ⟨vb, vo, none⟩)) ∧ Upd w w' (Rg vb vo 20) ∧ PtA w' vb vo p := by
  obtain ⟨V0, V1, V2, V3, hv⟩ := Hv
  obtain ⟨X, Y, Z, T, h, k⟩ := Hp
  exact (ptCopy_c vb vo pb po _ _ _ _ _ _ _ _ w hv h).mono fun e w' ⟨h1, h2, h3⟩ => ⟨h1, h2, _, _, _, _, h3, k⟩
theorem ptBytes_a (pb po : Nat) (p : F × F) (hp : On p) (w : World) (hP : PtA w pb po p) :
    Calls Tryz.prog 15 #[.pointer (some ⟨pb, po, none⟩)] w fun e w' => e = .returned (.agg (Arr (encF p.1 p.2))) ∧ Upd w w' (fun _ _ => False) := by
  obtain ⟨X, Y, Z, T, h, k⟩ := hP
  have := ptBytes_c pb po X Y Z T w h (k.live hp)
  rw [k.aff.1, k.aff.2] at this
  exact this

end Go.Proofs.YtkibnongmkhbaaaGreatDoor
end

section
open Go Go.RowKit
namespace Go.Proofs.YtkibnongmkhbaaaGreatDoor
open Ed

theorem pt_list2 (w : World) (pb po qb qo : Nat) (i : Nat) (hi : i < 2) : (w.alloc (.cells #[.pointer (some ⟨pb, po, none⟩), .pointer (some ⟨qb, qo, none⟩)] 32)).cell? ⟨w.heap.size, 0 + i, none⟩ =
    some (.pointer (some ⟨(fun i => if i = 0 then pb else qb) i, (fun i => if i = 0 then po else qo) i, none⟩)) := by
  rw [Nat.zero_add, World.cell?_alloc_new]
  have : i = 0 ∨ i = 1 := by omega
  rcases this with rfl | rfl <;> rfl

set_option maxRecDepth 100000 in
set_option maxHeartbeats 8000000 in
theorem ptAdd_a (vb vo pb po qb qo : Nat) (p q : F × F) (hp : On p) (hq : On q) (w : World) (Hv : An w vb vo) (Hp : PtA w pb po p) (Hq : PtA w qb qo q) :
    Calls Tryz.prog 16 #[.pointer (some ⟨vb, vo, none⟩), .pointer (some ⟨pb, po, none⟩), .pointer (some ⟨qb, qo, none⟩)] w fun e w' => e = .returned (.pointer (some ⟨vb, vo, none⟩)) ∧ Upd w w' (Rg vb vo 20) ∧ PtA w' vb vo (add p q) := by
  have lp := Hp.an.lt
  have lq := Hq.an.lt
  have lv := Hv.lt
  have A0 := (Upd.refl w (fun _ _ => False)).alloc (.cells #[.pointer (some ⟨pb, po, none⟩), .pointer (some ⟨qb, qo, none⟩)] 32)
  have A1 := A0.alloc (Z20 69)
  have hc := fun (i : Nat) (hi : i < 2) => And.intro (pt_list2 w pb po qb qo i hi) (show Live (w.alloc (.cells #[.pointer (some ⟨pb, po, none⟩), .pointer (some ⟨qb, qo, none⟩)] 32)) ((fun i => if i = 0 then pb else qb) i) ((fun i => if i = 0 then po else qo) i) from by
    have : i = 0 ∨ i = 1 := by omega
    rcases this with rfl | rfl
    · exact (Hp.live hp).keep A0 (fun _ _ h => h)
    · exact (Hq.live hq).keep A0 (fun _ _ h => h))
  have z1 := An.zeros (w.alloc (.cells #[.pointer (some ⟨pb, po, none⟩), .pointer (some ⟨qb, qo, none⟩)] 32)) 69
  simp only [World.size_alloc] at z1
  go_enter Tryz.func16, Tryz.ntmps16
  go_wp2_with fail
  refine (chk_c 2 w.heap.size 0 2 _ _ _ (by omega) hc).mono ?_
  rintro e w1 ⟨rfl, hw1⟩
  subst w1
  clear hc
  go_wp2_with fail
  refine (fromP3_a (w.heap.size + 1) 0 qb qo q _ z1 (Hq.keep A1 (fun _ _ h => h)) (by omega)).mono ?_
  rintro e w1 ⟨rfl, hU, hC⟩
  have s1 := hU.size
  simp only [World.size_alloc] at s1
  replace A1 := A1.trans hU (fun b o hb h => absurd h.1 (by omega))
  have A2 := A1.alloc (Z20 73)
  have hC2 := hC.keep ((Upd.refl w1 (fun _ _ => False)).alloc (Z20 73)) (fun _ _ h => h)
  clear hU hC z1
  go_wp2_with fail
  refine (p1Add_a w1.heap.size 0 pb po (w.heap.size + 1) 0 p q hp hq _ (An.zeros w1 73) (Hp.keep A2 (fun _ _ h => h)) hC2 (by omega) (by omega)).mono ?_
  rintro e w2 ⟨rfl, hU, hR⟩
  have s2 := hU.size
  simp only [World.size_alloc] at s2
  replace A2 := A2.trans hU (fun b o hb h => absurd h.1 (by omega))
  clear hU hC2
  go_wp2_with fail
  refine (fromP1_a vb vo w1.heap.size 0 (add p q) _ (Hv.keep A2 (fun _ _ h => h)) hR (by omega)).mono ?_
  rintro e w3 ⟨rfl, hU, hE⟩
  go_wp2
  go_ret
  exact ⟨rfl, (A2.wide (fun _ _ _ h => h.elim)).trans hU (fun _ _ _ h => h), hE⟩

end Go.Proofs.YtkibnongmkhbaaaGreatDoor
end
