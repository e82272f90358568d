import PyProof.Rows.All
import Wide.All
import OpenK.AllK
import Wide.FinOn
import Lean
import PySem.Challenge.RW_jw0016_01
open PySem PySem.W PyProof.Rows PySem.Calls
set_option Elab.async false
set_option maxRecDepth 100000
set_option maxHeartbeats 8000000
set_option linter.unusedVariables false
set_option linter.unusedSectionVars false
set_option linter.unusedSimpArgs false
namespace Mine
section
structure IsFld (F : Type) [Lean.Grind.CommRing F] (inv : F → F) : Prop where
  hinv : ∀ a : F, a ≠ 0 → a * inv a = 1
  one : (1 : F) ≠ 0
  two : (2 : F) ≠ 0
  notors : ∀ x : F, x * x * x + 7 ≠ 0
variable {F : Type} [Lean.Grind.CommRing F] [DecidableEq F] {inv : F → F}
theorem lc1 {a1 b1 c d : F} (k1 : F) (h1 : a1 = b1) (e : c - d = k1 * (a1 - b1)) : c = d := by
  subst h1; grind
theorem lc2 {a1 b1 a2 b2 c d : F} (k1 k2 : F) (h1 : a1 = b1) (h2 : a2 = b2) (e : c - d = k1 * (a1 - b1) + k2 * (a2 - b2)) : c = d := by
  subst h1 h2; grind
theorem lc3 {a1 b1 a2 b2 a3 b3 c d : F} (k1 k2 k3 : F) (h1 : a1 = b1) (h2 : a2 = b2) (h3 : a3 = b3) (e : c - d = k1 * (a1 - b1) + k2 * (a2 - b2) + k3 * (a3 - b3)) : c = d := by
  subst h1 h2 h3; grind
theorem lc4 {a1 b1 a2 b2 a3 b3 a4 b4 c d : F} (k1 k2 k3 k4 : F) (h1 : a1 = b1) (h2 : a2 = b2) (h3 : a3 = b3) (h4 : a4 = b4) (e : c - d = k1 * (a1 - b1) + k2 * (a2 - b2) + k3 * (a3 - b3) + k4 * (a4 - b4)) : c = d := by
  subst h1 h2 h3 h4; grind
theorem lc5 {a1 b1 a2 b2 a3 b3 a4 b4 a5 b5 c d : F} (k1 k2 k3 k4 k5 : F) (h1 : a1 = b1) (h2 : a2 = b2) (h3 : a3 = b3) (h4 : a4 = b4) (h5 : a5 = b5) (e : c - d = k1 * (a1 - b1) + k2 * (a2 - b2) + k3 * (a3 - b3) + k4 * (a4 - b4) + k5 * (a5 - b5)) : c = d := by
  subst h1 h2 h3 h4 h5; grind
theorem IsFld.dom (H : IsFld F inv) {a b : F} (h : a * b = 0) (ha : a ≠ 0) : b = 0 := by
  have := H.hinv a ha
  grind
theorem IsFld.canc (H : IsFld F inv) {a b c : F} (h : a * b = a * c) (ha : a ≠ 0) : b = c := by
  have := H.hinv a ha
  grind
theorem IsFld.mul (H : IsFld F inv) {a b : F} (ha : a ≠ 0) (hb : b ≠ 0) : a * b ≠ 0 := fun h => hb (H.dom h ha)
variable (inv) in
noncomputable def gadd : Option (F × F) → Option (F × F) → Option (F × F)
  | none, q => q
  | p, none => p
  | some p, some q =>
    if p.1 = q.1 then
      if p.2 + q.2 = 0 then none else
        let l := 3 * p.1 * p.1 * inv (2 * p.2)
        let x := l * l - p.1 - q.1
        some (x, l * (p.1 - x) - p.2)
    else
      let l := (q.2 - p.2) * inv (q.1 - p.1)
      let x := l * l - p.1 - q.1
      some (x, l * (p.1 - x) - p.2)
noncomputable def On : Option (F × F) → Prop
  | none => True
  | some p => p.2 * p.2 = p.1 * p.1 * p.1 + 7
structure Tri (x1 y1 x2 y2 x3 y3 l c : F) : Prop where
  e1 : y1 = l * x1 + c
  e2 : y2 = l * x2 + c
  e3 : -y3 = l * x3 + c
  s1 : x1 + x2 + x3 = l * l
  s2 : x1 * x2 + x1 * x3 + x2 * x3 = -2 * l * c
  s3 : x1 * x2 * x3 = c * c - 7
theorem chord (H : IsFld F inv) {x1 y1 x2 y2 l : F} (h1 : y1 * y1 = x1 * x1 * x1 + 7) (h2 : y2 * y2 = x2 * x2 * x2 + 7) (hx : x1 ≠ x2) (hl : l * (x2 - x1) = y2 - y1) :
    Tri x1 y1 x2 y2 (l * l - x1 - x2) (l * (x1 - (l * l - x1 - x2)) - y1) l (y1 - l * x1) := by
  have hk : l * (y1 + y2) = x1 * x1 + x1 * x2 + x2 * x2 := by
    refine H.canc (a := x2 - x1) ?_ ?_
    · grind
    · grind
  refine ⟨?_, ?_, ?_, ?_, ?_, ?_⟩
  · grind
  · grind
  · grind
  · grind
  · grind
  · refine H.canc (a := x2 - x1) ?_ ?_
    · grind
    · grind
theorem tang (H : IsFld F inv) {x1 y1 l : F} (h1 : y1 * y1 = x1 * x1 * x1 + 7) (hy : y1 ≠ 0) (hl : l * (2 * y1) = 3 * x1 * x1) :
    Tri x1 y1 x1 y1 (l * l - x1 - x1) (l * (x1 - (l * l - x1 - x1)) - y1) l (y1 - l * x1) := by
  refine ⟨?_, ?_, ?_, ?_, ?_, ?_⟩
  · grind
  · grind
  · grind
  · grind
  · grind
  · grind
theorem gadd_tri (H : IsFld F inv) {x1 y1 x2 y2 x3 y3 : F} (h1 : On (some (x1, y1))) (h2 : On (some (x2, y2))) (h : gadd inv (some (x1, y1)) (some (x2, y2)) = some (x3, y3)) : ∃ l c, Tri x1 y1 x2 y2 x3 y3 l c := by
  unfold gadd at h
  dsimp only [On] at h h1 h2
  split at h
  · rename_i hx
    split at h
    · cases h
    · rename_i hy
      have hyy : y1 = y2 := by
        have : (y1 + y2) * (y1 - y2) = 0 := by grind
        have := H.dom this hy
        grind
      have hy1 : y1 ≠ 0 := by
        intro h0
        apply hy
        grind
      have h2y : 2 * y1 ≠ 0 := H.mul H.two hy1
      have hl : (3 * x1 * x1 * inv (2 * y1)) * (2 * y1) = 3 * x1 * x1 := by
        have := H.hinv _ h2y
        generalize inv (2 * y1) = i at *
        grind
      injection h with h
      injection h with h3 h4
      rw [← hx, ← hyy]
      rw [← hx] at h3 h4
      have := tang H h1 hy1 hl
      rw [h4, h3] at this
      exact ⟨_, _, this⟩
  · rename_i hx
    have hd : x2 - x1 ≠ 0 := by grind
    have hl : ((y2 - y1) * inv (x2 - x1)) * (x2 - x1) = y2 - y1 := by
      have := H.hinv _ hd
      generalize inv (x2 - x1) = i at *
      grind
    injection h with h
    injection h with h3 h4
    have := chord H h1 h2 hx hl
    rw [h4, h3] at this
    exact ⟨_, _, this⟩
theorem tri_gadd (H : IsFld F inv) {x1 y1 x2 y2 x3 y3 l c : F} (hy1 : y1 ≠ 0) (T : Tri x1 y1 x2 y2 x3 y3 l c) : gadd inv (some (x1, y1)) (some (x2, y2)) = some (x3, y3) := by
  obtain ⟨e1, e2, e3, s1, s2, s3⟩ := T
  unfold gadd
  dsimp only
  by_cases hx : x1 = x2
  · subst hx
    have hyy : y1 = y2 := by rw [e1, e2]
    subst hyy
    have h2y : 2 * y1 ≠ 0 := H.mul H.two hy1
    rw [if_pos rfl, if_neg (fun h => h2y (by grind))]
    have hl : 3 * x1 * x1 * inv (2 * y1) = l := by
      have := H.hinv _ h2y
      have e : 3 * x1 * x1 = l * (2 * y1) := by grind
      rw [e]
      exact lc1 l this (by grind)
    rw [hl]
    congr 1
    refine Prod.ext ?_ ?_
    · dsimp only; clear e1 e2 e3 s2 s3 h2y hl hy1; grind
    · dsimp only; clear e2 s2 s3 h2y hl hy1; grind
  · rw [if_neg hx]
    have hd : x2 - x1 ≠ 0 := by grind
    have hl : (y2 - y1) * inv (x2 - x1) = l := by
      have := H.hinv _ hd
      have e : y2 - y1 = l * (x2 - x1) := lc2 1 (-1) e2 e1 (by grind)
      rw [e]
      exact lc1 l this (by grind)
    rw [hl]
    congr 1
    refine Prod.ext ?_ ?_
    · dsimp only; clear e1 e2 e3 s2 s3 hd hl hy1; grind
    · dsimp only; clear e2 s2 s3 hd hl hy1; grind

noncomputable def gneg : Option (F × F) → Option (F × F)
  | none => none
  | some p => some (p.1, -p.2)
theorem On.y (H : IsFld F inv) {x y : F} (h : On (some (x, y))) : y ≠ 0 := by
  intro h0
  have := H.notors x
  dsimp only [On] at h
  apply this
  rw [← h, h0]
  grind
theorem Tri.swap {x1 y1 x2 y2 x3 y3 l c : F} (T : Tri x1 y1 x2 y2 x3 y3 l c) : Tri x2 y2 x1 y1 x3 y3 l c := by
  obtain ⟨e1, e2, e3, s1, s2, s3⟩ := T
  exact ⟨e2, e1, e3, lc1 1 s1 (by grind), lc1 1 s2 (by grind), lc1 1 s3 (by grind)⟩
theorem Tri.rot {x1 y1 x2 y2 x3 y3 l c : F} (T : Tri x1 y1 x2 y2 x3 y3 l c) : Tri x3 y3 x2 (-y2) x1 y1 (-l) (-c) := by
  obtain ⟨e1, e2, e3, s1, s2, s3⟩ := T
  exact ⟨lc1 (-1) e3 (by grind), lc1 (-1) e2 (by grind), lc1 (-1) e1 (by grind), lc1 1 s1 (by grind), lc1 1 s2 (by grind), lc1 1 s3 (by grind)⟩
theorem Tri.neg {x1 y1 x2 y2 x3 y3 l c : F} (T : Tri x1 y1 x2 y2 x3 y3 l c) : Tri x1 (-y1) x2 (-y2) x3 (-y3) (-l) (-c) := by
  obtain ⟨e1, e2, e3, s1, s2, s3⟩ := T
  exact ⟨lc1 (-1) e1 (by grind), lc1 (-1) e2 (by grind), lc1 (-1) e3 (by grind), lc1 1 s1 (by grind), lc1 1 s2 (by grind), lc1 1 s3 (by grind)⟩
theorem Tri.on {x1 y1 x2 y2 x3 y3 l c : F} (T : Tri x1 y1 x2 y2 x3 y3 l c) : On (some (x3, y3)) := by
  obtain ⟨e1, e2, e3, s1, s2, s3⟩ := T
  show y3 * y3 = x3 * x3 * x3 + 7
  exact lc4 (-(y3 * 1) + (l * x3 + c)) (-(x3 * x3)) x3 (-1) e3 s1 s2 s3 (by grind)
theorem gneg_on {p : Option (F × F)} (h : On p) : On (gneg p) := by
  cases p with
  | none => trivial
  | some p => show -p.2 * -p.2 = p.1 * p.1 * p.1 + 7; dsimp only [On] at h; grind
theorem gneg_neg (p : Option (F × F)) : gneg (gneg p) = p := by
  cases p with
  | none => rfl
  | some p => obtain ⟨x, y⟩ := p; show some (x, - -y) = some (x, y); congr 2; grind
theorem gadd_none_l (q : Option (F × F)) : gadd inv none q = q := rfl
theorem gadd_none_r (q : Option (F × F)) : gadd inv q none = q := by cases q <;> rfl
theorem gadd_eq_none (H : IsFld F inv) {p q : F × F} (h1 : On (some p)) (h2 : On (some q)) : gadd inv (some p) (some q) = none ↔ some q = gneg (some p) := by
  obtain ⟨x1, y1⟩ := p
  obtain ⟨x2, y2⟩ := q
  unfold gadd
  dsimp only [gneg]
  constructor
  · intro h
    split at h
    · split at h
      · rename_i ha hb
        congr 1
        refine Prod.ext ?_ ?_
        · exact ha.symm
        · dsimp only; grind
      · cases h
    · cases h
  · intro h
    injection h with h
    injection h with h3 h4
    rw [if_pos h3.symm, if_pos (by grind)]
theorem gadd_neg (H : IsFld F inv) {p : Option (F × F)} (h : On p) : gadd inv p (gneg p) = none := by
  cases p with
  | none => rfl
  | some p => exact (gadd_eq_none H h (gneg_on h)).mpr rfl
theorem gadd_on (H : IsFld F inv) {p q : Option (F × F)} (h1 : On p) (h2 : On q) : On (gadd inv p q) := by
  cases p with
  | none => exact h2
  | some p => cases q with
    | none => exact h1
    | some q =>
      cases h : gadd inv (some p) (some q) with
      | none => trivial
      | some r => obtain ⟨l, c, T⟩ := gadd_tri H h1 h2 h; exact T.on
theorem gadd_comm (H : IsFld F inv) {p q : Option (F × F)} (h1 : On p) (h2 : On q) : gadd inv p q = gadd inv q p := by
  cases p with
  | none => rw [gadd_none_r]; rfl
  | some p => cases q with
    | none => rfl
    | some q =>
      cases h : gadd inv (some p) (some q) with
      | none =>
        have := (gadd_eq_none H h1 h2).mp h
        symm
        refine (gadd_eq_none H h2 h1).mpr ?_
        rw [this, gneg_neg]
      | some r =>
        obtain ⟨l, c, T⟩ := gadd_tri H h1 h2 h
        exact (tri_gadd H (On.y H h2) T.swap).symm
theorem gneg_gadd (H : IsFld F inv) {p q : Option (F × F)} (h1 : On p) (h2 : On q) : gneg (gadd inv p q) = gadd inv (gneg p) (gneg q) := by
  cases p with
  | none => rfl
  | some p => cases q with
    | none => rfl
    | some q =>
      cases h : gadd inv (some p) (some q) with
      | none =>
        have := (gadd_eq_none H h1 h2).mp h
        rw [this]
        exact (gadd_neg H (gneg_on h1)).symm
      | some r =>
        obtain ⟨l, c, T⟩ := gadd_tri H h1 h2 h
        exact (tri_gadd H (On.y H (gneg_on h1)) T.neg).symm
/-- (p + q) - q = p -/
theorem gadd_back (H : IsFld F inv) {p q : Option (F × F)} (h1 : On p) (h2 : On q) : gadd inv (gadd inv p q) (gneg q) = p := by
  cases p with
  | none => exact gadd_neg H h2
  | some p => cases q with
    | none => rfl
    | some q =>
      cases h : gadd inv (some p) (some q) with
      | none =>
        have := (gadd_eq_none H h1 h2).mp h
        rw [this, gneg_neg]; rfl
      | some r =>
        obtain ⟨l, c, T⟩ := gadd_tri H h1 h2 h
        exact tri_gadd H (On.y H T.on) T.rot
theorem gadd_back' (H : IsFld F inv) {p q : Option (F × F)} (h1 : On p) (h2 : On q) : gadd inv (gadd inv p (gneg q)) q = p := by
  have := gadd_back H h1 (gneg_on h2)
  rwa [gneg_neg] at this
/-- the curve through three points and a fourth, x² + p x + q = la y -/
structure Quad (x1 y1 x2 y2 x3 y3 x4 y4 p q la : F) : Prop where
  f1 : x1 * x1 + p * x1 + q = la * y1
  f2 : x2 * x2 + p * x2 + q = la * y2
  f3 : x3 * x3 + p * x3 + q = la * y3
  f4 : x4 * x4 + p * x4 + q = -la * y4
  n1 : 2 * p - la * la = -(x1 + x2 + x3 + x4)
  n2 : p * p + 2 * q = x1 * x2 + x1 * x3 + x2 * x3 + (x1 + x2 + x3) * x4
  n3 : 2 * p * q = -(x1 * x2 * x3 + (x1 * x2 + x1 * x3 + x2 * x3) * x4)
  n4 : q * q - 7 * la * la = x1 * x2 * x3 * x4
theorem quad_of {x1 y1 x2 y2 xa ya x3 y3 x4 y4 l1 c1 l2 c2 : F} (T : Tri x1 y1 x2 y2 xa ya l1 c1) (S : Tri xa ya x3 y3 x4 y4 l2 c2) :
    ∃ p q, Quad x1 y1 x2 y2 x3 y3 x4 y4 p q (l1 + l2) ∧ (l1 + l2 = 0 → l2 = -l1 ∧ c2 = -c1 ∧ x1 + x2 = x3 + x4 ∧ x1 * x2 = x3 * x4) := by
  obtain ⟨e1, e2, e3, s1, s2, s3⟩ := T
  obtain ⟨d1, d2, d3, r1, r2, r3⟩ := S
  have i0 : (l1 + l2) * xa + c1 + c2 = 0 := lc2 (-1) (-1) e3 d1 (by grind)
  have hp : ∃ p, p = l1 * l2 + xa := ⟨_, rfl⟩
  obtain ⟨p, hp⟩ := hp
  have hq : ∃ q, q = l1 * c2 + l2 * c1 + xa * p := ⟨_, rfl⟩
  obtain ⟨q, hq⟩ := hq
  have i1 : p - (l1 + l2) * l1 = -(x1 + x2) := lc2 1 1 hp s1 (by grind)
  have i2 : q - (l1 + l2) * c1 = x1 * x2 := lc5 1 xa l1 (-1) xa hq hp i0 s2 s1 (by grind)
  have i3 : p - (l1 + l2) * l2 = -(x3 + x4) := lc2 1 1 hp r1 (by grind)
  have i4 : q - (l1 + l2) * c2 = x3 * x4 := lc5 1 xa l2 (-1) xa hq hp i0 r2 r1 (by grind)
  have hz : xa * q = -7 - c1 * c2 := lc3 xa c1 1 i2 i0 s3 (by grind)
  refine ⟨p, q, ⟨?_, ?_, ?_, ?_, ?_, ?_, ?_, ?_⟩, ?_⟩
  · exact lc3 x1 1 (-(l1 + l2)) i1 i2 e1 (by grind)
  · exact lc3 x2 1 (-(l1 + l2)) i1 i2 e2 (by grind)
  · exact lc3 x3 1 (-(l1 + l2)) i3 i4 d2 (by grind)
  · exact lc3 x4 1 (-(l1 + l2)) i3 i4 d3 (by grind)
  · exact lc2 1 1 i1 i3 (by grind)
  · refine Eq.trans (b := (q - (l1 + l2) * c1) + (q - (l1 + l2) * c2) + (p - (l1 + l2) * l1) * (p - (l1 + l2) * l2)) (lc2 (l1 + l2) ((l1 + l2) * (l1 + l2)) i0 hp (by grind)) ?_
    rw [i1, i2, i3, i4]
    clear e1 e2 e3 s1 s2 s3 d1 d2 d3 r1 r2 r3 i0 i1 i2 i3 i4 hz hp hq
    grind
  · refine Eq.trans (b := (q - (l1 + l2) * c1) * (p - (l1 + l2) * l2) + (q - (l1 + l2) * c2) * (p - (l1 + l2) * l1)) (lc2 ((l1 + l2) * p) ((l1 + l2) * (l1 + l2)) i0 hq (by grind)) ?_
    rw [i1, i2, i3, i4]
    clear e1 e2 e3 s1 s2 s3 d1 d2 d3 r1 r2 r3 i0 i1 i2 i3 i4 hz hp hq
    grind
  · refine Eq.trans (b := (q - (l1 + l2) * c1) * (q - (l1 + l2) * c2)) (lc2 ((l1 + l2) * q) (-((l1 + l2) * (l1 + l2))) i0 hz (by grind)) ?_
    rw [i2, i4]
    clear e1 e2 e3 s1 s2 s3 d1 d2 d3 r1 r2 r3 i0 i1 i2 i3 i4 hz hp hq
    grind
  · intro h0
    refine ⟨lc1 1 h0 (by grind), lc2 1 (-xa) i0 h0 (by grind), lc3 1 (-1) (l1 - l2) i1 i3 h0 (by grind), lc3 1 (-1) (c2 - c1) i4 i2 h0 (by grind)⟩
theorem quad_unique (H : IsFld F inv) {x1 y1 x2 y2 x3 y3 x4 y4 x5 y5 p q la p' q' la' : F} (h1 : y1 ≠ 0) (h2 : y2 ≠ 0) (h3 : y3 ≠ 0) (A : Quad x1 y1 x2 y2 x3 y3 x4 y4 p q la) (B : Quad x1 y1 x2 y2 x3 y3 x5 y5 p' q' la') (hl : la ≠ 0) (hl' : la' ≠ 0) :
    x4 = x5 ∧ y4 = y5 := by
  have m2 := H.mul H.two (H.mul hl hl')
  obtain ⟨f1, f2, f3, f4, n1, n2, n3, n4⟩ := A
  obtain ⟨g1, g2, g3, g4, k1, k2, k3, k4⟩ := B
  have hu2 : ∃ u2, u2 = la' - la := ⟨_, rfl⟩
  have hu1 : ∃ u1, u1 = la' * p - la * p' := ⟨_, rfl⟩
  have hu0 : ∃ u0, u0 = la' * q - la * q' := ⟨_, rfl⟩
  have hv2 : ∃ v2, v2 = la' + la := ⟨_, rfl⟩
  have hv1 : ∃ v1, v1 = la' * p + la * p' := ⟨_, rfl⟩
  have hv0 : ∃ v0, v0 = la' * q + la * q' := ⟨_, rfl⟩
  have ha : ∃ a, a = la' * la' - la * la := ⟨_, rfl⟩
  have hb : ∃ b, b = la * la * x5 - la' * la' * x4 := ⟨_, rfl⟩
  obtain ⟨u2, hu2⟩ := hu2
  obtain ⟨u1, hu1⟩ := hu1
  obtain ⟨u0, hu0⟩ := hu0
  obtain ⟨v2, hv2⟩ := hv2
  obtain ⟨v1, hv1⟩ := hv1
  obtain ⟨v0, hv0⟩ := hv0
  obtain ⟨a, ha⟩ := ha
  obtain ⟨b, hb⟩ := hb
  have c4 : u2 * v2 = a := by
    clear f1 f2 f3 f4 n1 n2 n3 n4 g1 g2 g3 g4 k1 k2 k3 k4
    rw [hu2, hv2, ha]; clear hu2 hu1 hu0 hv2 hv1 hv0 ha hb m2; grind
  have c3 : u2 * v1 + u1 * v2 = b - a * (x1 + x2 + x3) := lc2 (la' * la') (-(la * la)) n1 k1 (by rw [hu2, hu1, hv2, hv1, ha, hb]; clear f1 f2 f3 f4 n1 n2 n3 n4 g1 g2 g3 g4 k1 k2 k3 k4 hu2 hu1 hu0 hv2 hv1 hv0 ha hb m2 c4; grind)
  have c2 : u2 * v0 + u1 * v1 + u0 * v2 = a * (x1 * x2 + x1 * x3 + x2 * x3) - b * (x1 + x2 + x3) := lc2 (la' * la') (-(la * la)) n2 k2 (by rw [hu2, hu1, hu0, hv2, hv1, hv0, ha, hb]; clear f1 f2 f3 f4 n1 n2 n3 n4 g1 g2 g3 g4 k1 k2 k3 k4 hu2 hu1 hu0 hv2 hv1 hv0 ha hb m2 c4 c3; grind)
  have c1 : u1 * v0 + u0 * v1 = b * (x1 * x2 + x1 * x3 + x2 * x3) - a * (x1 * x2 * x3) := lc2 (la' * la') (-(la * la)) n3 k3 (by rw [hu1, hu0, hv1, hv0, ha, hb]; clear f1 f2 f3 f4 n1 n2 n3 n4 g1 g2 g3 g4 k1 k2 k3 k4 hu2 hu1 hu0 hv2 hv1 hv0 ha hb m2 c4 c3 c2; grind)
  have w1 : u2 * x1 * x1 + u1 * x1 + u0 = 0 := lc2 la' (-la) f1 g1 (by rw [hu2, hu1, hu0]; clear f1 f2 f3 f4 n1 n2 n3 n4 g1 g2 g3 g4 k1 k2 k3 k4 hu2 hu1 hu0 hv2 hv1 hv0 ha hb m2 c4 c3 c2 c1; grind)
  have w2 : v2 * x2 * x2 + v1 * x2 + v0 = 2 * (la * la') * y2 := lc2 la' la f2 g2 (by rw [hv2, hv1, hv0]; clear f1 f2 f3 f4 n1 n2 n3 n4 g1 g2 g3 g4 k1 k2 k3 k4 hu2 hu1 hu0 hv2 hv1 hv0 ha hb m2 c4 c3 c2 c1 w1; grind)
  have w3 : v2 * x3 * x3 + v1 * x3 + v0 = 2 * (la * la') * y3 := lc2 la' la f3 g3 (by rw [hv2, hv1, hv0]; clear f1 f2 f3 f4 n1 n2 n3 n4 g1 g2 g3 g4 k1 k2 k3 k4 hu2 hu1 hu0 hv2 hv1 hv0 ha hb m2 c4 c3 c2 c1 w1 w2; grind)
  have z2 : v2 * x2 * x2 + v1 * x2 + v0 ≠ 0 := by rw [w2]; exact H.mul m2 h2
  have z3 : v2 * x3 * x3 + v1 * x3 + v0 ≠ 0 := by rw [w3]; exact H.mul m2 h3
  clear w2 w3
  have t1 : (v2 * x2 * x2 + v1 * x2 + v0) * (u2 * x2 + u1 + u2 * x1) = 0 :=
    lc5 (x2 * x2 * x2 + x2 * x2 * x1 + x2 * x1 * x1 + x1 * x1 * x1) (x2 * x2 + x2 * x1 + x1 * x1) (x2 + x1) 1 (-(v2 * (x1 + x2) + v1)) c4 c3 c2 c1 w1 (by clear f1 f2 f3 f4 n1 n2 n3 n4 g1 g2 g3 g4 k1 k2 k3 k4 hu2 hu1 hu0 hv2 hv1 hv0 ha hb m2 z2 z3 c4 c3 c2 c1 w1; grind)
  have t1 := H.dom t1 z2
  have t2 : (v2 * x3 * x3 + v1 * x3 + v0) * u2 = 0 :=
    lc5 (x1 * x1 + x2 * x2 + x3 * x3 + x1 * x2 + x1 * x3 + x2 * x3) (x1 + x2 + x3) 1 (-v2) (-(v2 * (x2 + x3) + v1)) c4 c3 c2 w1 t1 (by clear f1 f2 f3 f4 n1 n2 n3 n4 g1 g2 g3 g4 k1 k2 k3 k4 hu2 hu1 hu0 hv2 hv1 hv0 ha hb m2 z2 z3 c4 c3 c2 c1 w1 t1; grind)
  have t2 := H.dom t2 z3
  clear c4 c3 c2 c1 z2 z3 hv2 hv1 hv0 ha hb
  have r1 : la' = la := lc2 1 (-1) t2 hu2 (by grind)
  have r2 : la * p = la * p' := lc4 1 (-(x1 + x2)) (-1) (-p) t1 t2 hu1 r1 (by grind)
  have r3 : la * q = la * q' := lc5 1 (-x1) (x1 * x2) (-1) (-q) w1 t1 t2 hu0 r1 (by grind)
  have q2 := H.canc r2 hl
  have q3 := H.canc r3 hl
  clear r2 r3
  subst r1 q2 q3
  have r4 : x4 = x5 := lc2 1 (-1) n1 k1 (by grind)
  subst r4
  refine ⟨rfl, H.canc (a := -la') (by rw [← f4, ← g4]) (fun h => hl' (lc1 (-1) h (by grind)))⟩
theorem gadd_assoc (H : IsFld F inv) {p q s : Option (F × F)} (h1 : On p) (h2 : On q) (h3 : On s) : gadd inv (gadd inv p q) s = gadd inv p (gadd inv q s) := by
  cases p with
  | none => rfl
  | some p => cases q with
    | none => rfl
    | some q => cases s with
      | none => rw [gadd_none_r, gadd_none_r]
      | some s =>
        by_cases c1 : some s = gneg (some p)
        · rw [c1, gadd_comm H h1 h2, gadd_back H h2 h1, gadd_comm H h1 (gadd_on H h2 (gneg_on h1)), gadd_back' H h2 h1]
        by_cases c2 : some q = gneg (some p)
        · rw [c2, gadd_neg H h1, gadd_comm H (gneg_on h1) h3, gadd_comm H h1 (gadd_on H h3 (gneg_on h1)), gadd_back' H h3 h1]; rfl
        by_cases c3 : some s = gneg (some q)
        · rw [c3, gadd_neg H h2, gadd_back H h1 h2]; rfl
        cases ha : gadd inv (some p) (some q) with
        | none => exact absurd ((gadd_eq_none H h1 h2).mp ha) c2
        | some A =>
          cases hc : gadd inv (some q) (some s) with
          | none => exact absurd ((gadd_eq_none H h2 h3).mp hc) c3
          | some C =>
            have oA : On (some A) := ha ▸ gadd_on H h1 h2
            have oC : On (some C) := hc ▸ gadd_on H h2 h3
            cases ht : gadd inv (some A) (some s) with
            | none =>
              have e := (gadd_eq_none H oA h3).mp ht
              rw [← hc, e, ← ha, gneg_gadd H h1 h2, gadd_comm H h2 (gadd_on H (gneg_on h1) (gneg_on h2)), gadd_back' H (gneg_on h1) h2, gadd_neg H h1]
            | some T =>
              cases hu : gadd inv (some p) (some C) with
              | none =>
                exfalso
                have e := (gadd_eq_none H h1 oC).mp hu
                have e' : some p = gneg (some C) := by rw [e, gneg_neg]
                have : gadd inv (some A) (some s) = none := by
                  rw [← ha, e', ← hc, gneg_gadd H h2 h3, gadd_comm H (gneg_on h2) (gneg_on h3), gadd_back' H (gneg_on h3) h2, gadd_comm H (gneg_on h3) h3, gadd_neg H h3]
                rw [this] at ht
                cases ht
              | some U =>
                obtain ⟨x1, y1⟩ := p
                obtain ⟨x2, y2⟩ := q
                obtain ⟨x3, y3⟩ := s
                obtain ⟨xa, ya⟩ := A
                obtain ⟨xc, yc⟩ := C
                obtain ⟨x4, y4⟩ := T
                obtain ⟨x5, y5⟩ := U
                obtain ⟨l1, d1, T1⟩ := gadd_tri H h1 h2 ha
                obtain ⟨l2, d2, T2⟩ := gadd_tri H oA h3 ht
                obtain ⟨m1, f1, S1⟩ := gadd_tri H h2 h3 hc
                obtain ⟨m2, f2, S2⟩ := gadd_tri H h1 oC hu
                obtain ⟨P, Q, A1, A2⟩ := quad_of T1 T2
                obtain ⟨P', Q', B1, B2⟩ := quad_of S1.swap.swap S2.swap
                have n1 : l1 + l2 ≠ 0 := by
                  intro h0
                  obtain ⟨k1, k2, k3, k4⟩ := A2 h0
                  have : (x3 - x1) * (x3 - x2) = 0 := lc2 (-x3) 1 k3 k4 (by grind)
                  by_cases e : x3 = x1
                  · apply c1
                    show some (x3, y3) = some (x1, -y1)
                    rw [show y3 = -y1 from lc5 1 1 x3 1 (-l1) T2.e2 T1.e1 k1 k2 e (by grind), e]
                  · have e2 : x3 = x2 := by
                      have := H.dom this (fun h => e (lc1 1 h (by grind)))
                      exact lc1 1 this (by grind)
                    apply c3
                    show some (x3, y3) = some (x2, -y2)
                    rw [show y3 = -y2 from lc5 1 1 x3 1 (-l1) T2.e2 T1.e2 k1 k2 e2 (by grind), e2]
                have n2 : m1 + m2 ≠ 0 := by
                  intro h0
                  obtain ⟨k1, k2, k3, k4⟩ := B2 h0
                  have : (x1 - x2) * (x1 - x3) = 0 := lc2 (-x1) 1 k3 k4 (by grind)
                  by_cases e : x1 = x2
                  · apply c2
                    show some (x2, y2) = some (x1, -y1)
                    rw [show y2 = -y1 from lc5 1 1 x1 1 (-m1) S1.e1 S2.e1 k1 k2 e (by grind), e]
                  · have e2 : x1 = x3 := by
                      have := H.dom this (fun h => e (lc1 1 h (by grind)))
                      exact lc1 1 this (by grind)
                    apply c1
                    show some (x3, y3) = some (x1, -y1)
                    rw [show y3 = -y1 from lc5 1 1 x1 1 (-m1) S1.e2 S2.e1 k1 k2 e2 (by grind), e2]
                have B1' : Quad x1 y1 x2 y2 x3 y3 x5 y5 P' Q' (m1 + m2) := by
                  obtain ⟨g1, g2, g3, g4, k1, k2, k3, k4⟩ := B1
                  exact ⟨g3, g1, g2, g4, lc1 1 k1 (by grind), lc1 1 k2 (by grind), lc1 1 k3 (by grind), lc1 1 k4 (by grind)⟩
                obtain ⟨r1, r2⟩ := quad_unique H (On.y H h1) (On.y H h2) (On.y H h3) A1 B1' n1 n2
                rw [r1, r2]
end
end Mine
namespace Mine
/- primes, Fermat, Pocklington -/
noncomputable def Pr (n : Nat) : Prop := 2 ≤ n ∧ ∀ m, m ∣ n → m = 1 ∨ m = n
theorem Pr.dvd_or {p a b : Nat} (h : Pr p) (hd : p ∣ a * b) : p ∣ a ∨ p ∣ b := by
  rcases h.2 (Nat.gcd p a) (Nat.gcd_dvd_left p a) with e | e
  · exact .inr (Nat.Coprime.dvd_of_dvd_mul_left e hd)
  · exact .inl (e ▸ Nat.gcd_dvd_right p a)
theorem Pr.coprime {p a : Nat} (h : Pr p) (hd : ¬ p ∣ a) : Nat.gcd p a = 1 := by
  rcases h.2 (Nat.gcd p a) (Nat.gcd_dvd_left p a) with e | e
  · exact e
  · exact absurd (e ▸ Nat.gcd_dvd_right p a) hd
noncomputable def choose : Nat → Nat → Nat
  | _, 0 => 1
  | 0, _ + 1 => 0
  | n + 1, k + 1 => choose n k + choose n (k + 1)
theorem choose_zero (n : Nat) : choose n 0 = 1 := by cases n <;> rfl
theorem choose_gt : ∀ (n k : Nat), n < k → choose n k = 0
  | 0, k + 1, _ => rfl
  | n + 1, k + 1, h => by
    rw [choose, choose_gt n k (by omega), choose_gt n (k + 1) (by omega)]
theorem choose_self : ∀ (n : Nat), choose n n = 1
  | 0 => rfl
  | n + 1 => by rw [choose, choose_self n, choose_gt n (n + 1) (by omega)]
theorem choose_mul : ∀ (n k : Nat), (k + 1) * choose (n + 1) (k + 1) = (n + 1) * choose n k
  | 0, 0 => rfl
  | 0, k + 1 => by rw [choose_gt 1 (k + 1 + 1) (by omega), choose_gt 0 (k + 1) (by omega)]; omega
  | n + 1, 0 => by
    have h := choose_mul n 0
    have e : choose (n + 1 + 1) (0 + 1) = choose (n + 1) 0 + choose (n + 1) (0 + 1) := rfl
    rw [choose_zero] at h
    rw [e, choose_zero]
    omega
  | n + 1, k + 1 => by
    have h1 := choose_mul n k
    have h2 := choose_mul n (k + 1)
    have e1 : choose (n + 1 + 1) (k + 1 + 1) = choose (n + 1) (k + 1) + choose (n + 1) (k + 1 + 1) := rfl
    have e2 : choose (n + 1) (k + 1) = choose n k + choose n (k + 1) := rfl
    rw [e1, Nat.mul_add, h2]
    have h3 : (k + 1 + 1) * choose (n + 1) (k + 1) = choose (n + 1) (k + 1) + (n + 1) * choose n k := by rw [← h1, Nat.add_mul (k + 1) 1]; omega
    rw [h3]
    have h4 : (n + 1 + 1) * choose (n + 1) (k + 1) = choose (n + 1) (k + 1) + (n + 1) * (choose n k + choose n (k + 1)) := by rw [← e2, Nat.add_mul (n + 1) 1]; omega
    rw [h4, Nat.mul_add]; omega
noncomputable def bsum (n a : Nat) : Nat → Nat
  | 0 => 0
  | m + 1 => bsum n a m + choose n m * a ^ m
theorem bsum_succ (n a : Nat) : ∀ m, bsum (n + 1) a (m + 1) = a * bsum n a m + bsum n a (m + 1)
  | 0 => by show 0 + choose (n + 1) 0 * 1 = a * 0 + (0 + choose n 0 * 1); rw [choose_zero, choose_zero]; rfl
  | m + 1 => by
    have ih := bsum_succ n a m
    have e1 : bsum (n + 1) a (m + 1 + 1) = bsum (n + 1) a (m + 1) + choose (n + 1) (m + 1) * a ^ (m + 1) := rfl
    have e2 : bsum n a (m + 1 + 1) = bsum n a (m + 1) + choose n (m + 1) * a ^ (m + 1) := rfl
    have e3 : bsum n a (m + 1) = bsum n a m + choose n m * a ^ m := rfl
    have e4 : choose (n + 1) (m + 1) = choose n m + choose n (m + 1) := rfl
    rw [e1, ih, e2, e4, Nat.add_mul]
    have e5 : a * bsum n a (m + 1) = a * bsum n a m + choose n m * a ^ (m + 1) := by
      rw [e3, Nat.mul_add, Nat.pow_succ]
      congr 1
      rw [Nat.mul_left_comm, Nat.mul_comm a]
    rw [e5]; omega
theorem bsum_pow (a : Nat) : ∀ n, (a + 1) ^ n = bsum n a (n + 1)
  | 0 => by show 1 = 0 + choose 0 0 * 1; rfl
  | n + 1 => by
    have e : bsum n a (n + 1 + 1) = bsum n a (n + 1) + choose n (n + 1) * a ^ (n + 1) := rfl
    rw [bsum_succ, e, choose_gt n (n + 1) (by omega), ← bsum_pow a n, Nat.pow_succ, Nat.mul_add]
    rw [Nat.mul_comm ((a + 1) ^ n) a]; omega
theorem bsum_mod {p : Nat} (h : Pr p) (a : Nat) : ∀ m, m < p → bsum p a (m + 1) % p = 1 % p
  | 0, _ => by show (0 + choose p 0 * 1) % p = 1 % p; rw [choose_zero]
  | m + 1, hm => by
    have ih := bsum_mod h a m (by omega)
    have e1 : bsum p a (m + 1 + 1) = bsum p a (m + 1) + choose p (m + 1) * a ^ (m + 1) := rfl
    have hd : p ∣ choose p (m + 1) := by
      obtain ⟨k, rfl⟩ : ∃ k, p = k + 1 := ⟨p - 1, by have := h.1; omega⟩
      have hc := choose_mul k m
      have : (k + 1) ∣ (m + 1) * choose (k + 1) (m + 1) := ⟨_, hc⟩
      rcases h.dvd_or this with h1 | h1
      · exact absurd (Nat.le_of_dvd (by omega) h1) (by omega)
      · exact h1
    obtain ⟨c, hc⟩ := hd
    rw [e1, hc, Nat.mul_assoc, Nat.add_mul_mod_self_left, ih]
theorem fermat1 {p : Nat} (h : Pr p) (a : Nat) : (a + 1) ^ p % p = (a ^ p + 1) % p := by
  obtain ⟨k, hk⟩ : ∃ k, p = k + 1 := ⟨p - 1, by have := h.1; omega⟩
  rw [bsum_pow]
  have e1 : bsum p a (p + 1) = bsum p a p + choose p p * a ^ p := rfl
  have e2 : bsum p a p % p = 1 % p := by
    have := bsum_mod h a k (by omega)
    rwa [← hk] at this
  rw [e1, choose_self, Nat.one_mul, Nat.add_mod, e2, ← Nat.add_mod, Nat.add_comm]
theorem fermat {p : Nat} (h : Pr p) : ∀ a, a ^ p % p = a % p
  | 0 => by rw [Nat.zero_pow (by have := h.1; omega)]
  | a + 1 => by rw [fermat1 h, Nat.add_mod, fermat h a, ← Nat.add_mod]
theorem fermat' {p a : Nat} (h : Pr p) (ha : ¬ p ∣ a) : a ^ (p - 1) % p = 1 := by
  have hf := fermat h a
  have hp := h.1
  obtain ⟨k, rfl⟩ : ∃ k, p = k + 1 := ⟨p - 1, by omega⟩
  rw [Nat.add_sub_cancel]
  have h1 : 1 ≤ a ^ k := Nat.pow_pos (by rcases Nat.eq_zero_or_pos a with e | e; (subst e; exact absurd (Nat.dvd_zero _) ha); exact e)
  have hd : (k + 1) ∣ a * (a ^ k - 1) := by
    rw [Nat.mul_sub, Nat.mul_one, ← Nat.pow_succ']
    exact (Nat.dvd_of_mod_eq_zero (Nat.sub_mod_eq_zero_of_mod_eq hf))
  rcases h.dvd_or hd with h2 | h2
  · exact absurd h2 ha
  · obtain ⟨c, hc⟩ := h2
    have : a ^ k = 1 + (k + 1) * c := by omega
    rw [this, Nat.add_mul_mod_self_left, Nat.mod_eq_of_lt (by omega)]
theorem pow_mod_mod (a k n : Nat) : (a % n) ^ k % n = a ^ k % n := (Nat.pow_mod a k n).symm
theorem pow_gcd {b n : Nat} (hn : 1 < n) : ∀ (m k : Nat), b ^ m % n = 1 → b ^ k % n = 1 → b ^ Nat.gcd m k % n = 1 := by
  intro m k
  induction m, k using Nat.gcd.induction with
  | H0 k => intro _ h; rwa [Nat.gcd_zero_left]
  | H1 m k hm ih =>
    intro h1 h2
    rw [Nat.gcd_rec]
    refine ih ?_ h1
    rw [← Nat.div_add_mod k m, Nat.pow_add, Nat.pow_mul, Nat.mul_mod, Nat.pow_mod, h1, Nat.one_pow, Nat.mod_eq_of_lt hn, Nat.one_mul, Nat.mod_mod] at h2
    exact h2
theorem lt_mul_one (a b : Nat) (ha : 0 < a) (hb : 1 < b) : a < a * b := Nat.lt_of_lt_of_le (show a < a * 2 by omega) (Nat.mul_le_mul_left a hb)
theorem minfac : ∀ (n : Nat), 2 ≤ n → ∃ p, Pr p ∧ p ∣ n ∧ (p = n ∨ p * p ≤ n) := by
  intro n
  induction n using Nat.strongRecOn with
  | _ n ih =>
    intro h
    by_cases hp : ∀ m, m ∣ n → m = 1 ∨ m = n
    · exact ⟨n, ⟨h, hp⟩, Nat.dvd_refl _, .inl rfl⟩
    · obtain ⟨m, hm⟩ := Classical.not_forall.mp hp
      obtain ⟨hd, hm⟩ := Classical.not_imp.mp hm
      obtain ⟨k, hk⟩ := hd
      have hm1 : m ≠ 1 := fun e => hm (.inl e)
      have hm2 : m ≠ n := fun e => hm (.inr e)
      have hm0 : m ≠ 0 := by intro e; subst e; omega
      have hk0 : k ≠ 0 := by intro e; subst e; omega
      have hk1 : k ≠ 1 := by intro e; subst e; omega
      rcases Nat.le_total m k with hl | hl
      · have hmn : m < n := by rw [hk]; exact lt_mul_one m k (by omega) (by omega)
        obtain ⟨p, p1, p2, p3⟩ := ih m hmn (by omega)
        refine ⟨p, p1, Nat.dvd_trans p2 ⟨k, hk⟩, .inr ?_⟩
        rw [hk]
        exact Nat.mul_le_mul (Nat.le_of_dvd (by omega) p2) (Nat.le_trans (Nat.le_of_dvd (by omega) p2) hl)
      · have hkn : k < n := by rw [hk, Nat.mul_comm]; exact lt_mul_one k m (by omega) (by omega)
        obtain ⟨p, p1, p2, p3⟩ := ih k hkn (by omega)
        refine ⟨p, p1, Nat.dvd_trans p2 ⟨m, by rw [hk, Nat.mul_comm]⟩, .inr ?_⟩
        rw [hk]
        exact Nat.mul_le_mul (Nat.le_trans (Nat.le_of_dvd (by omega) p2) hl) (Nat.le_of_dvd (by omega) p2)
theorem pr_of {n F : Nat} (h2 : 2 ≤ n) (hF : ∀ p, Pr p → p ∣ n → F ∣ p - 1) (hn : n < (F + 1) * (F + 1)) : Pr n := by
  obtain ⟨p, p1, p2, p3⟩ := minfac n h2
  rcases p3 with e | e
  · exact e ▸ p1
  · have := Nat.le_of_dvd (by have := p1.1; omega) (hF p p1 p2)
    have hp := p1.1
    exact absurd (Nat.mul_le_mul (show F + 1 ≤ p by omega) (show F + 1 ≤ p by omega)) (by omega)
/-- the certificate's step: a prime q of n - 1 divides p - 1 for each prime p of n -/
theorem pock {n q R a : Nat} (hq : Pr q) (hR : n - 1 = q * R) (h1 : a ^ (n - 1) % n = 1) (h2 : Nat.gcd ((a ^ R % n) + n - 1) n = 1) (hn : 2 ≤ n) {p : Nat} (hp : Pr p) (hd : p ∣ n) : q ∣ p - 1 := by
  refine Classical.byContradiction fun hc => ?_
  have hg := hq.coprime hc
  have hp1 := hp.1
  have a1 : a ^ (n - 1) % p = 1 := by
    rw [← Nat.mod_mod_of_dvd _ hd, h1, Nat.mod_eq_of_lt (by omega)]
  have ha : ¬ p ∣ a := by
    rintro ⟨c, rfl⟩
    have : n - 1 ≠ 0 := by
      omega
    obtain ⟨k, hk⟩ : ∃ k, n - 1 = k + 1 := ⟨n - 2, by omega⟩
    rw [hk, Nat.pow_succ, ← Nat.mul_assoc, Nat.mul_comm _ p, Nat.mul_assoc, Nat.mul_mod_right] at a1
    omega
  have b1 : (a ^ R) ^ q % p = 1 := by rw [← Nat.pow_mul, Nat.mul_comm R q, ← hR]; exact a1
  have b2 : (a ^ R) ^ (p - 1) % p = 1 := by
    rw [← Nat.pow_mul, Nat.mul_comm R, Nat.pow_mul, Nat.pow_mod, fermat' hp ha, Nat.one_pow, Nat.mod_eq_of_lt (by omega)]
  have b3 := pow_gcd (by omega) q (p - 1) b1 b2
  rw [hg, Nat.pow_one] at b3
  have b4 : (a ^ R % n) % p = 1 := by rw [Nat.mod_mod_of_dvd _ hd, b3]
  have b5 : p ∣ (a ^ R % n) + n - 1 := by
    obtain ⟨c, hc⟩ := hd
    have h5 := Nat.div_add_mod (a ^ R % n) p
    rw [b4] at h5
    refine ⟨a ^ R % n / p + c, ?_⟩
    rw [Nat.mul_add, ← hc]
    omega
  have b6 := Nat.dvd_gcd b5 hd
  rw [h2] at b6
  have := Nat.le_of_dvd (by omega) b6
  omega
/-- powers by squaring, for the kernel -/
noncomputable def pm (n : Nat) : Nat → Nat → Nat → Nat
  | 0, _, _ => 1
  | f + 1, b, e => bif e % 2 == 1 then b * pm n f (b * b % n) (e / 2) % n else pm n f (b * b % n) (e / 2)
theorem pm_eq (n : Nat) : ∀ (f b e : Nat), e < 2 ^ f → pm n f b e % n = b ^ e % n
  | 0, b, e, h => by
    have : e = 0 := by simpa using h
    subst this; rfl
  | f + 1, b, e, h => by
    have ih := pm_eq n f (b * b % n) (e / 2) (by rw [Nat.pow_succ] at h; omega)
    have e1 : (b * b) ^ (e / 2) * b ^ (e % 2) = b ^ e := by
      rw [← Nat.pow_two, ← Nat.pow_mul, ← Nat.pow_add, Nat.div_add_mod]
    rw [pow_mod_mod] at ih
    rcases Nat.mod_two_eq_zero_or_one e with h0 | h0
    · have : pm n (f + 1) b e = pm n f (b * b % n) (e / 2) := by rw [pm, h0]; rfl
      rw [this, ih, ← e1, h0, Nat.pow_zero, Nat.mul_one]
    · have : pm n (f + 1) b e = b * pm n f (b * b % n) (e / 2) % n := by rw [pm, h0]; rfl
      rw [this, Nat.mod_mod, Nat.mul_mod, ih, ← Nat.mul_mod, ← e1, h0, Nat.pow_one, Nat.mul_comm]
noncomputable def tr (n : Nat) : Nat → Nat → Bool
  | 0, _ => true
  | f + 1, d => bif n % d == 0 then false else tr n f (d + 2)
theorem tr_no {n : Nat} : ∀ (f d : Nat), tr n f d = true → ∀ i, i < f → n % (d + 2 * i) ≠ 0
  | 0, _, _, i, hi => absurd hi (Nat.not_lt_zero _)
  | f + 1, d, h, i, hi => by
    rw [tr] at h
    cases hd : n % d == 0 with
    | true => rw [hd] at h; cases h
    | false =>
      rw [hd] at h
      cases i with
      | zero => simpa using hd
      | succ i =>
        have := tr_no f (d + 2) h i (by omega)
        rwa [show d + 2 * (i + 1) = d + 2 + 2 * i by omega]
theorem pr_tr {n f : Nat} (h : tr n f 3 = true) (h2 : 2 ≤ n) (hodd : n % 2 = 1) (hf : n < (2 * f + 3) * (2 * f + 3)) : Pr n := by
  obtain ⟨p, p1, p2, p3⟩ := minfac n h2
  rcases p3 with e | e
  · exact e ▸ p1
  · exfalso
    have hp := p1.1
    have hodd' : p % 2 = 1 := by
      obtain ⟨c, hc⟩ := p2
      rcases Nat.mod_two_eq_zero_or_one p with h0 | h0
      · rw [hc, Nat.mul_mod, h0, Nat.zero_mul] at hodd; cases hodd
      · exact h0
    have hlt : p < 2 * f + 3 := by
      refine Classical.byContradiction fun hc => ?_
      exact absurd (Nat.mul_le_mul (show 2 * f + 3 ≤ p by omega) (show 2 * f + 3 ≤ p by omega)) (by omega)
    refine tr_no f 3 h ((p - 3) / 2) (by omega) ?_
    rw [show 3 + 2 * ((p - 3) / 2) = p by omega]
    exact Nat.mod_eq_zero_of_dvd p2
theorem pock' {n q R a f : Nat} (hq : Pr q) (hR : n - 1 = q * R) (hf : n - 1 < 2 ^ f) (h1 : pm n f a (n - 1) % n = 1) (h2 : Nat.gcd (pm n f a R % n + n - 1) n = 1) (hn : 2 ≤ n) : ∀ p, Pr p → p ∣ n → q ∣ p - 1 := by
  intro p hp hd
  have hRf : R < 2 ^ f := by
    refine Nat.lt_of_le_of_lt ?_ hf
    rw [hR]
    exact Nat.le_mul_of_pos_left _ (by have := hq.1; omega)
  rw [pm_eq _ _ _ _ hf] at h1
  rw [pm_eq _ _ _ _ hRf] at h2
  exact pock hq hR h1 h2 hn hp hd
theorem both {n a b : Nat} (ha : ∀ p, Pr p → p ∣ n → a ∣ p - 1) (hb : ∀ p, Pr p → p ∣ n → b ∣ p - 1) (hc : Nat.gcd a b = 1) : ∀ p, Pr p → p ∣ n → a * b ∣ p - 1 :=
  fun p hp hd => Nat.Coprime.mul_dvd_of_dvd_of_dvd hc (ha p hp hd) (hb p hp hd)
end Mine
namespace Mine
theorem pr_107590001 : Pr 107590001 := pr_tr (f := 5187) (by decide +kernel) (by decide) (by decide) (by decide)
theorem pr_7240687 : Pr 7240687 := pr_tr (f := 1346) (by decide +kernel) (by decide) (by decide) (by decide)
theorem pr_96557 : Pr 96557 := pr_tr (f := 156) (by decide +kernel) (by decide) (by decide) (by decide)
theorem pr_255515944373312847190720520512484175977 : Pr 255515944373312847190720520512484175977 := pr_of (n := 255515944373312847190720520512484175977) (by decide +kernel) (both (both (pock' (n := 255515944373312847190720520512484175977) (q := 107590001) (R := 2374904191824599455024826335976) (a := 2) (f := 128) pr_107590001 (by decide +kernel) (by decide +kernel) (by decide +kernel) (by decide +kernel) (by decide +kernel)) (pock' (n := 255515944373312847190720520512484175977) (q := 7240687) (R := 35288908963101546467996824129048) (a := 2) (f := 128) pr_7240687 (by decide +kernel) (by decide +kernel) (by decide +kernel) (by decide +kernel) (by decide +kernel)) (by decide +kernel)) (pock' (n := 255515944373312847190720520512484175977) (q := 96557) (R := 2646270538369179315748423423599368) (a := 2) (f := 128) pr_96557 (by decide +kernel) (by decide +kernel) (by decide +kernel) (by decide +kernel) (by decide +kernel)) (by decide +kernel)) (by decide +kernel)
theorem pr_205115282021455665897114700593932402728804164701536103180137503955397371 : Pr 205115282021455665897114700593932402728804164701536103180137503955397371 := pr_of (n := 205115282021455665897114700593932402728804164701536103180137503955397371) (by decide +kernel) (pock' (n := 205115282021455665897114700593932402728804164701536103180137503955397371) (q := 255515944373312847190720520512484175977) (R := 802749442992798076634733441528810) (a := 2) (f := 237) pr_255515944373312847190720520512484175977 (by decide +kernel) (by decide +kernel) (by decide +kernel) (by decide +kernel) (by decide +kernel)) (by decide +kernel)
theorem pr_115792089237316195423570985008687907853269984665640564039457584007908834671663 : Pr 115792089237316195423570985008687907853269984665640564039457584007908834671663 := pr_of (n := 115792089237316195423570985008687907853269984665640564039457584007908834671663) (by decide +kernel) (pock' (n := 115792089237316195423570985008687907853269984665640564039457584007908834671663) (q := 205115282021455665897114700593932402728804164701536103180137503955397371) (R := 564522) (a := 2) (f := 256) pr_205115282021455665897114700593932402728804164701536103180137503955397371 (by decide +kernel) (by decide +kernel) (by decide +kernel) (by decide +kernel) (by decide +kernel)) (by decide +kernel)
theorem pr_293 : Pr 293 := pr_tr (f := 9) (by decide +kernel) (by decide) (by decide) (by decide)
theorem pr_305873 : Pr 305873 := pr_tr (f := 277) (by decide +kernel) (by decide) (by decide) (by decide)
theorem pr_545358713 : Pr 545358713 := pr_tr (f := 11677) (by decide +kernel) (by decide) (by decide) (by decide)
theorem pr_29047611873442575647497758179 : Pr 29047611873442575647497758179 := pr_of (n := 29047611873442575647497758179) (by decide +kernel) (both (both (pock' (n := 29047611873442575647497758179) (q := 293) (R := 99138607076595821322517946) (a := 2) (f := 95) pr_293 (by decide +kernel) (by decide +kernel) (by decide +kernel) (by decide +kernel) (by decide +kernel)) (pock' (n := 29047611873442575647497758179) (q := 305873) (R := 94966250285061367454786) (a := 2) (f := 95) pr_305873 (by decide +kernel) (by decide +kernel) (by decide +kernel) (by decide +kernel) (by decide +kernel)) (by decide +kernel)) (pock' (n := 29047611873442575647497758179) (q := 545358713) (R := 53263313083699784306) (a := 2) (f := 95) pr_545358713 (by decide +kernel) (by decide +kernel) (by decide +kernel) (by decide +kernel) (by decide +kernel)) (by decide +kernel)) (by decide +kernel)
theorem pr_341948486974166000522343609283189 : Pr 341948486974166000522343609283189 := pr_of (n := 341948486974166000522343609283189) (by decide +kernel) (pock' (n := 341948486974166000522343609283189) (q := 29047611873442575647497758179) (R := 11772) (a := 2) (f := 109) pr_29047611873442575647497758179 (by decide +kernel) (by decide +kernel) (by decide +kernel) (by decide +kernel) (by decide +kernel)) (by decide +kernel)
theorem pr_120233 : Pr 120233 := pr_tr (f := 174) (by decide +kernel) (by decide) (by decide) (by decide)
theorem pr_44706919 : Pr 44706919 := pr_tr (f := 3344) (by decide +kernel) (by decide) (by decide) (by decide)
theorem pr_174723607534414371449 : Pr 174723607534414371449 := pr_of (n := 174723607534414371449) (by decide +kernel) (both (pock' (n := 174723607534414371449) (q := 120233) (R := 1453208416444856) (a := 2) (f := 68) pr_120233 (by decide +kernel) (by decide +kernel) (by decide +kernel) (by decide +kernel) (by decide +kernel)) (pock' (n := 174723607534414371449) (q := 44706919) (R := 3908200597192) (a := 2) (f := 68) pr_44706919 (by decide +kernel) (by decide +kernel) (by decide +kernel) (by decide +kernel) (by decide +kernel)) (by decide +kernel)) (by decide +kernel)
theorem pr_115792089237316195423570985008687907852837564279074904382605163141518161494337 : Pr 115792089237316195423570985008687907852837564279074904382605163141518161494337 := pr_of (n := 115792089237316195423570985008687907852837564279074904382605163141518161494337) (by decide +kernel) (both (pock' (n := 115792089237316195423570985008687907852837564279074904382605163141518161494337) (q := 341948486974166000522343609283189) (R := 338624364920977752681389262317185522840540224) (a := 2) (f := 256) pr_341948486974166000522343609283189 (by decide +kernel) (by decide +kernel) (by decide +kernel) (by decide +kernel) (by decide +kernel)) (pock' (n := 115792089237316195423570985008687907852837564279074904382605163141518161494337) (q := 174723607534414371449) (R := 662715765037699607481235088557493206623080876315205958464) (a := 2) (f := 256) pr_174723607534414371449 (by decide +kernel) (by decide +kernel) (by decide +kernel) (by decide +kernel) (by decide +kernel)) (by decide +kernel)) (by decide +kernel)
theorem pr_P : Pr 115792089237316195423570985008687907853269984665640564039457584007908834671663 := pr_115792089237316195423570985008687907853269984665640564039457584007908834671663
theorem pr_N : Pr 115792089237316195423570985008687907852837564279074904382605163141518161494337 := pr_115792089237316195423570985008687907852837564279074904382605163141518161494337
end Mine
namespace Mine
section
variable {F : Type} [Lean.Grind.CommRing F] {p : Nat} [Lean.Grind.IsCharP F p]
noncomputable def ca (F : Type) [Lean.Grind.CommRing F] (x : Int) : F := @IntCast.intCast F Lean.Grind.Ring.intCast x
theorem ca_add (x y : Int) : ca F (x + y) = ca F x + ca F y := Lean.Grind.Ring.intCast_add x y
theorem ca_sub (x y : Int) : ca F (x - y) = ca F x - ca F y := Lean.Grind.Ring.intCast_sub x y
theorem ca_mul (x y : Int) : ca F (x * y) = ca F x * ca F y := Lean.Grind.Ring.intCast_mul x y
theorem ca_neg (x : Int) : ca F (-x) = -ca F x := Lean.Grind.Ring.intCast_neg x
theorem ca_pow (x : Int) (k : Nat) : ca F (x ^ k) = ca F x ^ k := Lean.Grind.Ring.intCast_pow x k
theorem ca_0 : ca F 0 = 0 := Lean.Grind.Ring.intCast_zero
theorem ca_1 : ca F 1 = 1 := Lean.Grind.Ring.intCast_one
theorem ca_2 : ca F 2 = 2 := Lean.Grind.Ring.intCast_ofNat 2
theorem ca_3 : ca F 3 = 3 := Lean.Grind.Ring.intCast_ofNat 3
theorem ca_4 : ca F 4 = 4 := Lean.Grind.Ring.intCast_ofNat 4
theorem ca_7 : ca F 7 = 7 := Lean.Grind.Ring.intCast_ofNat 7
theorem ca_8 : ca F 8 = 8 := Lean.Grind.Ring.intCast_ofNat 8
theorem ca_iff (x y : Int) : ca F x = ca F y ↔ x % p = y % p := Lean.Grind.IsCharP.intCast_ext_iff p
theorem ca_zero (x : Int) : ca F x = 0 ↔ x % p = 0 := by rw [← ca_0, ca_iff (p := p), Int.zero_emod]
theorem ca_emod (x : Int) : ca F (x % p) = ca F x := by rw [ca_iff (p := p), Int.emod_emod]
theorem ca_fmod (x : Int) : ca F (x.fmod p) = ca F x := by rw [Int.fmod_eq_emod_of_nonneg _ (by omega)]; exact ca_emod x
theorem ca_inj {x y : Int} (h : ca F x = ca F y) (hx : 0 ≤ x ∧ x < p) (hy : 0 ≤ y ∧ y < p) : x = y := by
  rw [ca_iff (p := p)] at h
  rwa [Int.emod_eq_of_lt hx.1 hx.2, Int.emod_eq_of_lt hy.1 hy.2] at h
structure IsFp (F : Type) [Lean.Grind.CommRing F] (p : Nat) : Prop where
  pr : Pr p
  big : 11 < p
  sur : ∀ x : F, ∃ n : Nat, x = ca F n
  notors : ∀ x : F, x * x * x + 7 ≠ 0
theorem nz_dvd {n : Nat} (h : ca F (n : Int) ≠ 0) : ¬ p ∣ n := by
  intro hd
  apply h
  rw [ca_zero (p := p)]
  have := Nat.mod_eq_zero_of_dvd hd
  omega
theorem fermatF (H : IsFp F p) {x : F} (h : x ≠ 0) : x ^ (p - 1) = 1 := by
  obtain ⟨n, rfl⟩ := H.sur x
  have hf := fermat' H.pr (nz_dvd (p := p) h)
  rw [← ca_pow, ← ca_1, ca_iff (p := p)]
  have e : ((n : Int) ^ (p - 1)) = ((n ^ (p - 1) : Nat) : Int) := by rw [Int.natCast_pow]
  rw [e, ← Int.natCast_emod, hf, Int.emod_eq_of_lt (by decide) (by have := H.big; omega)]
  rfl
theorem IsFp.fld (H : IsFp F p) : IsFld F (fun x => x ^ (p - 2)) where
  hinv := by
    intro a ha
    have := fermatF H ha
    rw [show p - 1 = p - 2 + 1 by have := H.big; omega, Lean.Grind.Semiring.pow_succ] at this
    rw [← this]
    exact Lean.Grind.CommRing.mul_comm _ _
  one := by
    rw [← ca_1, Ne, ca_zero (p := p), Int.emod_eq_of_lt (by decide) (by have := H.big; omega)]
    decide
  two := by
    rw [← ca_2, Ne, ca_zero (p := p), Int.emod_eq_of_lt (by decide) (by have := H.big; omega)]
    decide
  notors := H.notors
end
theorem no_cube {F : Type} [Lean.Grind.CommRing F] {p : Nat} [Lean.Grind.IsCharP F p] (hp : Pr p) (sur : ∀ x : F, ∃ n : Nat, x = ca F n) (big : 11 < p) (h3 : (p - 1) / 3 * 3 = p - 1) {f : Nat} (hf : (p - 1) / 3 < 2 ^ f) (h : pm p f (p - 7) ((p - 1) / 3) % p ≠ 1) (x : F) : x * x * x + 7 ≠ 0 := by
  intro h0
  obtain ⟨n, rfl⟩ := sur x
  apply h
  rw [pm_eq _ _ _ _ hf]
  have e : (n * n * n) % p = (p - 7) % p := by
    have : ca F ((n : Int) * n * n + 7) = 0 := by rw [ca_add, ca_mul, ca_mul, ca_7]; exact h0
    rw [ca_zero (p := p)] at this
    rw [← Int.natCast_mul, ← Int.natCast_mul] at this
    generalize n * n * n = m at this ⊢
    have h1 : (m + 7) % p = 0 := by exact_mod_cast this
    obtain ⟨c, hc⟩ := Nat.dvd_of_mod_eq_zero h1
    have h2 := Nat.mod_lt m (show 0 < p by omega)
    have h3 := Nat.div_add_mod m p
    have h4 : (m % p + 7) % p = 0 := by rw [Nat.add_mod, Nat.mod_mod, ← Nat.add_mod]; exact h1
    obtain ⟨k, hk⟩ := Nat.dvd_of_mod_eq_zero h4
    have hk1 : k = 1 := by
      rcases Nat.lt_trichotomy k 1 with h | h | h
      · rw [show k = 0 by omega] at hk; omega
      · exact h
      · have := Nat.mul_le_mul_left p (show 2 ≤ k by omega)
        omega
    rw [hk1] at hk
    rw [Nat.mod_eq_of_lt (show p - 7 < p by omega)]
    omega
  rw [Nat.pow_mod, ← e, ← Nat.pow_mod]
  rw [show n * n * n = n ^ 3 by rw [Nat.pow_succ, Nat.pow_succ, Nat.pow_succ, Nat.pow_zero, Nat.one_mul], ← Nat.pow_mul, Nat.mul_comm 3, h3]
  refine fermat' hp ?_
  rintro ⟨c, rfl⟩
  rw [Nat.mul_assoc, Nat.mul_assoc, Nat.mul_mod_right, Nat.mod_eq_of_lt (show p - 7 < p by omega)] at e
  omega
end Mine
namespace Mine
section
variable {F : Type} [Lean.Grind.CommRing F] [DecidableEq F] {inv : F → F}
variable (inv) in
noncomputable def gmul : Nat → Option (F × F) → Option (F × F)
  | 0, _ => none
  | n + 1, p => gadd inv (gmul n p) p
theorem gmul_on (H : IsFld F inv) {p : Option (F × F)} (h : On p) : ∀ n, On (gmul inv n p)
  | 0 => trivial
  | n + 1 => gadd_on H (gmul_on H h n) h
theorem gmul_none : ∀ n, gmul inv n (none : Option (F × F)) = none
  | 0 => rfl
  | n + 1 => by rw [gmul, gmul_none n]; rfl
theorem gmul_one (p : Option (F × F)) : gmul inv 1 p = p := gadd_none_l p
theorem gmul_add (H : IsFld F inv) {p : Option (F × F)} (h : On p) (m : Nat) : ∀ n, gmul inv (m + n) p = gadd inv (gmul inv m p) (gmul inv n p)
  | 0 => (gadd_none_r _).symm
  | n + 1 => by
    rw [← Nat.add_assoc, gmul, gmul_add H h m n, gadd_assoc H (gmul_on H h m) (gmul_on H h n) h]; rfl
theorem gmul_mul (H : IsFld F inv) {p : Option (F × F)} (h : On p) (m : Nat) : ∀ n, gmul inv (n * m) p = gmul inv n (gmul inv m p)
  | 0 => by rw [Nat.zero_mul]; rfl
  | n + 1 => by rw [Nat.succ_mul, gmul_add H h, gmul_mul H h m n]; rfl
theorem gmul_dbl (H : IsFld F inv) {p : Option (F × F)} (h : On p) (n : Nat) : gmul inv (2 * n) p = gadd inv (gmul inv n p) (gmul inv n p) := by
  rw [Nat.two_mul, gmul_add H h]
theorem gmul_dbl' (H : IsFld F inv) {p : Option (F × F)} (h : On p) (n : Nat) : gmul inv (2 * n) p = gmul inv n (gadd inv p p) := by
  rw [Nat.mul_comm, gmul_mul H h 2 n]
  congr 1
theorem gmul_neg (H : IsFld F inv) {p : Option (F × F)} (h : On p) : ∀ n, gmul inv n (gneg p) = gneg (gmul inv n p)
  | 0 => rfl
  | n + 1 => by rw [gmul, gmul_neg H h n, gmul, gneg_gadd H (gmul_on H h n) h]
theorem gmul_gcd (H : IsFld F inv) {p : Option (F × F)} (h : On p) : ∀ (m k : Nat), gmul inv m p = none → gmul inv k p = none → gmul inv (Nat.gcd m k) p = none := by
  intro m k
  induction m, k using Nat.gcd.induction with
  | H0 k => intro _ h; rwa [Nat.gcd_zero_left]
  | H1 m k hm ih =>
    intro h1 h2
    rw [Nat.gcd_rec]
    refine ih ?_ h1
    rw [← Nat.div_add_mod k m, gmul_add H h, Nat.mul_comm, gmul_mul H h, h1, gmul_none] at h2
    exact h2
/-- a point of prime order -/
theorem gmul_ne (H : IsFld F inv) {p : Option (F × F)} (h : On p) (hp : p ≠ none) {n : Nat} (hn : Pr n) (h0 : gmul inv n p = none) {k : Nat} (hk : 0 < k) (hkn : k < n) : gmul inv k p ≠ none := by
  intro hk0
  have := gmul_gcd H h n k h0 hk0
  rw [hn.coprime (fun hd => by have := Nat.le_of_dvd hk hd; omega), gmul_one] at this
  exact hp this
/-- the opposite of a multiple of a point of order n -/
theorem gmul_opp (H : IsFld F inv) {p : Option (F × F)} (h : On p) {n : Nat} (h0 : gmul inv n p = none) {k : Nat} (hk : k ≤ n) : gmul inv k (gneg p) = gmul inv (n - k) p := by
  rw [gmul_neg H h]
  have e : gadd inv (gmul inv (n - k) p) (gmul inv k p) = none := by rw [← gmul_add H h, Nat.sub_add_cancel hk, h0]
  have := gadd_back H (gmul_on H h (n - k)) (gmul_on H h k)
  rw [e] at this
  exact this
end
end Mine
namespace Mine
abbrev pw : Program := PySem.Challenge.pw_jw0016_01
noncomputable def Fd : { F : Str → Str → Str → Str → Str → Str → Str → Str → Str → Str → Str → Str → Str → Str → Str → Str → Str → Str → Str → Str → Str → Str → Str → Str → Str → Str → Str → Str → Str → Str → Str → Str → Str → Str → Str → Str → Str → Str → Str → Str → Str → Str → Str → Str → Str → Str → Str → Str → Str → Str → Str → Str → Str → Str → Str → Str → Str → Str → Str → Str → Str → Str → Str → Str → Str → Str → Str → Str → Str → Str → Str → Str → Str → Str → Str → Str → Str → Str → Str → Str → Str → Str → Str → Str → Str → Str → Str → Str → Str → Str → Str → Str → Str → Str → Str → Str → Str → Str → Str → Str → Str → Str → Str → Str → Str → Str → Str → Str → Str → Str → Str → Str → Str → Str → Str → Str → Str →  Program // pw = F (Str.ofString "__name__") (Str.ofString "py_ecc.secp256k1.secp256k1") (Str.ofString "safe_ord") (Str.ofString "value") (Str.ofString "isinstance") (Str.ofString "int") (Str.ofString "ord") (Str.ofString "P") (Str.ofString "N") (Str.ofString "A") (Str.ofString "B") (Str.ofString "Gx") (Str.ofString "Gy") (Str.ofString "CURVE") (Str.ofString "bytes_to_int") (Str.ofString "x") (Str.ofString "o") (Str.ofString "b") (Str.ofString "inv") (Str.ofString "a") (Str.ofString "n") (Str.ofString "lm") (Str.ofString "hm") (Str.ofString "low") (Str.ofString "high") (Str.ofString "r") (Str.ofString "nm") (Str.ofString "new") (Str.ofString "to_jacobian") (Str.ofString "p") (Str.ofString "jacobian_double") (Str.ofString "curve") (Str.ofString "ysq") (Str.ofString "S") (Str.ofString "M") (Str.ofString "nx") (Str.ofString "ny") (Str.ofString "nz") (Str.ofString "jacobian_add") (Str.ofString "q") (Str.ofString "U1") (Str.ofString "U2") (Str.ofString "S1") (Str.ofString "S2") (Str.ofString "H") (Str.ofString "R") (Str.ofString "H2") (Str.ofString "H3") (Str.ofString "U1H2") (Str.ofString "from_jacobian") (Str.ofString "z") (Str.ofString "jacobian_multiply") (Str.ofString "ValueError") (Str.ofString "Unexpected case in jacobian_multiply: This should never happen.") (Str.ofString "multiply") (Str.ofString "add") (Str.ofString "privtopub") (Str.ofString "privkey") (Str.ofString "ecdsa_raw_sign") (Str.ofString "msghash") (Str.ofString "priv") (Str.ofString "k") (Str.ofString "y") (Str.ofString "s") (Str.ofString "v") (Str.ofString "ecdsa_raw_recover") (Str.ofString "vrs") (Str.ofString "value of v was ") (Str.ofString ", must be either 27 or 28") (Str.ofString "xcubedaxb") (Str.ofString "beta") (Str.ofString "pow") (Str.ofString "sig is invalid, ") (Str.ofString " cannot be the x coord for point on curve") (Str.ofString "Gz") (Str.ofString "XY") (Str.ofString "Qr") (Str.ofString "Q") (Str.ofString "Q_jacobian") (Str.ofString "law_jw0016_01") (Str.ofString "_law_p") (Str.ofString "_law_n") (Str.ofString "_law_base") (Str.ofString "_law_add") (Str.ofString "one") (Str.ofString "two") (Str.ofString "slope") (Str.ofString "_law_times") (Str.ofString "point") (Str.ofString "number") (Str.ofString "found") (Str.ofString "turn") (Str.ofString "range") (Str.ofString "_law_octets") (Str.ofString "to_bytes") (Str.ofString "big") (Str.ofString "_law_signed") (Str.ofString "given") (Str.ofString "secret") (Str.ofString "once") (Str.ofString "told") (Str.ofString "parity") (Str.ofString "tuple") (Str.ofString "_law_key") (Str.ofString "square") (Str.ofString "other") (Str.ofString "_law_recovered") (Str.ofString "small") (Str.ofString "due") (Str.ofString "_law_multiplied") (Str.ofString "raw") (Str.ofString "len") (Str.ofString "law") (Str.ofString "script") (Str.ofString "abs") (Str.ofString ".0") (Str.ofString "fast") } := by
  refine' ⟨_, ?h⟩
  case h =>
    delta pw Challenge.pw_jw0016_01
    generalize Str.ofString "__name__" = x0
    generalize Str.ofString "py_ecc.secp256k1.secp256k1" = x1
    generalize Str.ofString "safe_ord" = x2
    generalize Str.ofString "value" = x3
    generalize Str.ofString "isinstance" = x4
    generalize Str.ofString "int" = x5
    generalize Str.ofString "ord" = x6
    generalize Str.ofString "P" = x7
    generalize Str.ofString "N" = x8
    generalize Str.ofString "A" = x9
    generalize Str.ofString "B" = x10
    generalize Str.ofString "Gx" = x11
    generalize Str.ofString "Gy" = x12
    generalize Str.ofString "CURVE" = x13
    generalize Str.ofString "bytes_to_int" = x14
    generalize Str.ofString "x" = x15
    generalize Str.ofString "o" = x16
    generalize Str.ofString "b" = x17
    generalize Str.ofString "inv" = x18
    generalize Str.ofString "a" = x19
    generalize Str.ofString "n" = x20
    generalize Str.ofString "lm" = x21
    generalize Str.ofString "hm" = x22
    generalize Str.ofString "low" = x23
    generalize Str.ofString "high" = x24
    generalize Str.ofString "r" = x25
    generalize Str.ofString "nm" = x26
    generalize Str.ofString "new" = x27
    generalize Str.ofString "to_jacobian" = x28
    generalize Str.ofString "p" = x29
    generalize Str.ofString "jacobian_double" = x30
    generalize Str.ofString "curve" = x31
    generalize Str.ofString "ysq" = x32
    generalize Str.ofString "S" = x33
    generalize Str.ofString "M" = x34
    generalize Str.ofString "nx" = x35
    generalize Str.ofString "ny" = x36
    generalize Str.ofString "nz" = x37
    generalize Str.ofString "jacobian_add" = x38
    generalize Str.ofString "q" = x39
    generalize Str.ofString "U1" = x40
    generalize Str.ofString "U2" = x41
    generalize Str.ofString "S1" = x42
    generalize Str.ofString "S2" = x43
    generalize Str.ofString "H" = x44
    generalize Str.ofString "R" = x45
    generalize Str.ofString "H2" = x46
    generalize Str.ofString "H3" = x47
    generalize Str.ofString "U1H2" = x48
    generalize Str.ofString "from_jacobian" = x49
    generalize Str.ofString "z" = x50
    generalize Str.ofString "jacobian_multiply" = x51
    generalize Str.ofString "ValueError" = x52
    generalize Str.ofString "Unexpected case in jacobian_multiply: This should never happen." = x53
    generalize Str.ofString "multiply" = x54
    generalize Str.ofString "add" = x55
    generalize Str.ofString "privtopub" = x56
    generalize Str.ofString "privkey" = x57
    generalize Str.ofString "ecdsa_raw_sign" = x58
    generalize Str.ofString "msghash" = x59
    generalize Str.ofString "priv" = x60
    generalize Str.ofString "k" = x61
    generalize Str.ofString "y" = x62
    generalize Str.ofString "s" = x63
    generalize Str.ofString "v" = x64
    generalize Str.ofString "ecdsa_raw_recover" = x65
    generalize Str.ofString "vrs" = x66
    generalize Str.ofString "value of v was " = x67
    generalize Str.ofString ", must be either 27 or 28" = x68
    generalize Str.ofString "xcubedaxb" = x69
    generalize Str.ofString "beta" = x70
    generalize Str.ofString "pow" = x71
    generalize Str.ofString "sig is invalid, " = x72
    generalize Str.ofString " cannot be the x coord for point on curve" = x73
    generalize Str.ofString "Gz" = x74
    generalize Str.ofString "XY" = x75
    generalize Str.ofString "Qr" = x76
    generalize Str.ofString "Q" = x77
    generalize Str.ofString "Q_jacobian" = x78
    generalize Str.ofString "law_jw0016_01" = x79
    generalize Str.ofString "_law_p" = x80
    generalize Str.ofString "_law_n" = x81
    generalize Str.ofString "_law_base" = x82
    generalize Str.ofString "_law_add" = x83
    generalize Str.ofString "one" = x84
    generalize Str.ofString "two" = x85
    generalize Str.ofString "slope" = x86
    generalize Str.ofString "_law_times" = x87
    generalize Str.ofString "point" = x88
    generalize Str.ofString "number" = x89
    generalize Str.ofString "found" = x90
    generalize Str.ofString "turn" = x91
    generalize Str.ofString "range" = x92
    generalize Str.ofString "_law_octets" = x93
    generalize Str.ofString "to_bytes" = x94
    generalize Str.ofString "big" = x95
    generalize Str.ofString "_law_signed" = x96
    generalize Str.ofString "given" = x97
    generalize Str.ofString "secret" = x98
    generalize Str.ofString "once" = x99
    generalize Str.ofString "told" = x100
    generalize Str.ofString "parity" = x101
    generalize Str.ofString "tuple" = x102
    generalize Str.ofString "_law_key" = x103
    generalize Str.ofString "square" = x104
    generalize Str.ofString "other" = x105
    generalize Str.ofString "_law_recovered" = x106
    generalize Str.ofString "small" = x107
    generalize Str.ofString "due" = x108
    generalize Str.ofString "_law_multiplied" = x109
    generalize Str.ofString "raw" = x110
    generalize Str.ofString "len" = x111
    generalize Str.ofString "law" = x112
    generalize Str.ofString "script" = x113
    generalize Str.ofString "abs" = x114
    generalize Str.ofString ".0" = x115
    generalize Str.ofString "fast" = x116
    exact rfl
noncomputable def twp : Program := Fd.1 ⟨#[95,95,110,97,109,101,95,95]⟩ ⟨#[112,121,95,101,99,99,46,115,101,99,112,50,53,54,107,49,46,115,101,99,112,50,53,54,107,49]⟩ ⟨#[115,97,102,101,95,111,114,100]⟩ ⟨#[118,97,108,117,101]⟩ ⟨#[105,115,105,110,115,116,97,110,99,101]⟩ ⟨#[105,110,116]⟩ ⟨#[111,114,100]⟩ ⟨#[80]⟩ ⟨#[78]⟩ ⟨#[65]⟩ ⟨#[66]⟩ ⟨#[71,120]⟩ ⟨#[71,121]⟩ ⟨#[67,85,82,86,69]⟩ ⟨#[98,121,116,101,115,95,116,111,95,105,110,116]⟩ ⟨#[120]⟩ ⟨#[111]⟩ ⟨#[98]⟩ ⟨#[105,110,118]⟩ ⟨#[97]⟩ ⟨#[110]⟩ ⟨#[108,109]⟩ ⟨#[104,109]⟩ ⟨#[108,111,119]⟩ ⟨#[104,105,103,104]⟩ ⟨#[114]⟩ ⟨#[110,109]⟩ ⟨#[110,101,119]⟩ ⟨#[116,111,95,106,97,99,111,98,105,97,110]⟩ ⟨#[112]⟩ ⟨#[106,97,99,111,98,105,97,110,95,100,111,117,98,108,101]⟩ ⟨#[99,117,114,118,101]⟩ ⟨#[121,115,113]⟩ ⟨#[83]⟩ ⟨#[77]⟩ ⟨#[110,120]⟩ ⟨#[110,121]⟩ ⟨#[110,122]⟩ ⟨#[106,97,99,111,98,105,97,110,95,97,100,100]⟩ ⟨#[113]⟩ ⟨#[85,49]⟩ ⟨#[85,50]⟩ ⟨#[83,49]⟩ ⟨#[83,50]⟩ ⟨#[72]⟩ ⟨#[82]⟩ ⟨#[72,50]⟩ ⟨#[72,51]⟩ ⟨#[85,49,72,50]⟩ ⟨#[102,114,111,109,95,106,97,99,111,98,105,97,110]⟩ ⟨#[122]⟩ ⟨#[106,97,99,111,98,105,97,110,95,109,117,108,116,105,112,108,121]⟩ ⟨#[86,97,108,117,101,69,114,114,111,114]⟩ ⟨#[85,110,101,120,112,101,99,116,101,100,32,99,97,115,101,32,105,110,32,106,97,99,111,98,105,97,110,95,109,117,108,116,105,112,108,121,58,32,84,104,105,115,32,115,104,111,117,108,100,32,110,101,118,101,114,32,104,97,112,112,101,110,46]⟩ ⟨#[109,117,108,116,105,112,108,121]⟩ ⟨#[97,100,100]⟩ ⟨#[112,114,105,118,116,111,112,117,98]⟩ ⟨#[112,114,105,118,107,101,121]⟩ ⟨#[101,99,100,115,97,95,114,97,119,95,115,105,103,110]⟩ ⟨#[109,115,103,104,97,115,104]⟩ ⟨#[112,114,105,118]⟩ ⟨#[107]⟩ ⟨#[121]⟩ ⟨#[115]⟩ ⟨#[118]⟩ ⟨#[101,99,100,115,97,95,114,97,119,95,114,101,99,111,118,101,114]⟩ ⟨#[118,114,115]⟩ ⟨#[118,97,108,117,101,32,111,102,32,118,32,119,97,115,32]⟩ ⟨#[44,32,109,117,115,116,32,98,101,32,101,105,116,104,101,114,32,50,55,32,111,114,32,50,56]⟩ ⟨#[120,99,117,98,101,100,97,120,98]⟩ ⟨#[98,101,116,97]⟩ ⟨#[112,111,119]⟩ ⟨#[115,105,103,32,105,115,32,105,110,118,97,108,105,100,44,32]⟩ ⟨#[32,99,97,110,110,111,116,32,98,101,32,116,104,101,32,120,32,99,111,111,114,100,32,102,111,114,32,112,111,105,110,116,32,111,110,32,99,117,114,118,101]⟩ ⟨#[71,122]⟩ ⟨#[88,89]⟩ ⟨#[81,114]⟩ ⟨#[81]⟩ ⟨#[81,95,106,97,99,111,98,105,97,110]⟩ ⟨#[108,97,119,95,106,119,48,48,49,54,95,48,49]⟩ ⟨#[95,108,97,119,95,112]⟩ ⟨#[95,108,97,119,95,110]⟩ ⟨#[95,108,97,119,95,98,97,115,101]⟩ ⟨#[95,108,97,119,95,97,100,100]⟩ ⟨#[111,110,101]⟩ ⟨#[116,119,111]⟩ ⟨#[115,108,111,112,101]⟩ ⟨#[95,108,97,119,95,116,105,109,101,115]⟩ ⟨#[112,111,105,110,116]⟩ ⟨#[110,117,109,98,101,114]⟩ ⟨#[102,111,117,110,100]⟩ ⟨#[116,117,114,110]⟩ ⟨#[114,97,110,103,101]⟩ ⟨#[95,108,97,119,95,111,99,116,101,116,115]⟩ ⟨#[116,111,95,98,121,116,101,115]⟩ ⟨#[98,105,103]⟩ ⟨#[95,108,97,119,95,115,105,103,110,101,100]⟩ ⟨#[103,105,118,101,110]⟩ ⟨#[115,101,99,114,101,116]⟩ ⟨#[111,110,99,101]⟩ ⟨#[116,111,108,100]⟩ ⟨#[112,97,114,105,116,121]⟩ ⟨#[116,117,112,108,101]⟩ ⟨#[95,108,97,119,95,107,101,121]⟩ ⟨#[115,113,117,97,114,101]⟩ ⟨#[111,116,104,101,114]⟩ ⟨#[95,108,97,119,95,114,101,99,111,118,101,114,101,100]⟩ ⟨#[115,109,97,108,108]⟩ ⟨#[100,117,101]⟩ ⟨#[95,108,97,119,95,109,117,108,116,105,112,108,105,101,100]⟩ ⟨#[114,97,119]⟩ ⟨#[108,101,110]⟩ ⟨#[108,97,119]⟩ ⟨#[115,99,114,105,112,116]⟩ ⟨#[97,98,115]⟩ ⟨#[46,48]⟩ ⟨#[102,97,115,116]⟩
theorem tw_eq : pw = twp := Fd.2.trans (by kernel_rfl)
noncomputable def pm1 : Value := .str "py_ecc.secp256k1.secp256k1" 187
noncomputable def pm2 : Value := .str "law_jw0016_01" 419
noncomputable def tp_fn (p : Program) (i : Nat) (pm : Value) (cd : Addr) : Obj := match p.main.body[i]? with
  | some (.FunctionDef nm ps b _ _ _ sc _ _ _) => { cls := .type "function", data := .func { name := nm, qualname := nm, params := ps, body := .stmts b, scope := sc, globals := 3, closure := [], defaults := .none, kwdefaults := .none, pyModule := pm, code := .ref cd } }
  | _ => { cls := .none }
noncomputable abbrev fnAt := tp_fn pw
noncomputable def K39 (P : Params) : Frag :=
  (nat_lit 3, { cls := .type "dict", data := Data.dict ({ hash := PyData.keyHash P (Str.ofString "__name__"), key := .str (Str.ofString "__name__") 165, val := .str (Str.ofString "law_jw0016_01") 419 } :: { hash := PyData.keyHash P (Str.ofString "__doc__"), key := .str (Str.ofString "__doc__") 166, val := .none } :: { hash := PyData.keyHash P (Str.ofString "__package__"), key := .str (Str.ofString "__package__") 167, val := .none } :: { hash := PyData.keyHash P (Str.ofString "__loader__"), key := .str (Str.ofString "__loader__") 168, val := .builtin "__main__.__loader__#opaque" } :: { hash := PyData.keyHash P (Str.ofString "__spec__"), key := .str (Str.ofString "__spec__") 169, val := .none } :: { hash := PyData.keyHash P (Str.ofString "__annotations__"), key := .str (Str.ofString "__annotations__") 170, val := .ref 6 } :: { hash := PyData.keyHash P (Str.ofString "__builtins__"), key := .str (Str.ofString "__builtins__") 171, val := .ref 4 } :: { hash := PyData.keyHash P (Str.ofString "__file__"), key := .str (Str.ofString "__file__") 173, val := .str (Str.ofString "/claim/cut.py") 172 } :: { hash := PyData.keyHash P (Str.ofString "__cached__"), key := .str (Str.ofString "__cached__") 174, val := .none } :: { hash := PyData.keyHash P (Str.ofString "safe_ord"), key := .str (Str.ofString "safe_ord") 195, val := .ref 21 } :: { hash := PyData.keyHash P (Str.ofString "P"), key := .str (Str.ofString "P") 205, val := .int 115792089237316195423570985008687907853269984665640564039457584007908834671663 204 } :: { hash := PyData.keyHash P (Str.ofString "N"), key := .str (Str.ofString "N") 207, val := .int 115792089237316195423570985008687907852837564279074904382605163141518161494337 206 } :: { hash := PyData.keyHash P (Str.ofString "A"), key := .str (Str.ofString "A") 209, val := .int 0 208 } :: { hash := PyData.keyHash P (Str.ofString "B"), key := .str (Str.ofString "B") 211, val := .int 7 210 } :: { hash := PyData.keyHash P (Str.ofString "Gx"), key := .str (Str.ofString "Gx") 213, val := .int 55066263022277343669578718895168534326250603453777594175500187360389116729240 212 } :: { hash := PyData.keyHash P (Str.ofString "Gy"), key := .str (Str.ofString "Gy") 215, val := .int 32670510020758816978083085130507043184471273380659243275938904335757337482424 214 } :: { hash := PyData.keyHash P (Str.ofString "CURVE"), key := .str (Str.ofString "CURVE") 216, val := .ref 22 } :: { hash := PyData.keyHash P (Str.ofString "bytes_to_int"), key := .str (Str.ofString "bytes_to_int") 225, val := .ref 29 } :: { hash := PyData.keyHash P (Str.ofString "inv"), key := .str (Str.ofString "inv") 240, val := .ref 36 } :: { hash := PyData.keyHash P (Str.ofString "to_jacobian"), key := .str (Str.ofString "to_jacobian") 248, val := .ref 43 } :: { hash := PyData.keyHash P (Str.ofString "jacobian_double"), key := .str (Str.ofString "jacobian_double") 268, val := .ref 50 } :: { hash := PyData.keyHash P (Str.ofString "jacobian_add"), key := .str (Str.ofString "jacobian_add") 295, val := .ref 57 } :: { hash := PyData.keyHash P (Str.ofString "from_jacobian"), key := .str (Str.ofString "from_jacobian") 310, val := .ref 64 } :: { hash := PyData.keyHash P (Str.ofString "jacobian_multiply"), key := .str (Str.ofString "jacobian_multiply") 325, val := .ref 71 } :: { hash := PyData.keyHash P (Str.ofString "multiply"), key := .str (Str.ofString "multiply") 340, val := .ref 78 } :: { hash := PyData.keyHash P (Str.ofString "add"), key := .str (Str.ofString "add") 355, val := .ref 85 } :: { hash := PyData.keyHash P (Str.ofString "privtopub"), key := .str (Str.ofString "privtopub") 369, val := .ref 92 } :: { hash := PyData.keyHash P (Str.ofString "ecdsa_raw_sign"), key := .str (Str.ofString "ecdsa_raw_sign") 390, val := .ref 99 } :: { hash := PyData.keyHash P (Str.ofString "ecdsa_raw_recover"), key := .str (Str.ofString "ecdsa_raw_recover") 418, val := .ref 106 } :: { hash := PyData.keyHash P (Str.ofString "_law_p"), key := .str (Str.ofString "_law_p") 426, val := .ref 113 } :: { hash := PyData.keyHash P (Str.ofString "_law_n"), key := .str (Str.ofString "_law_n") 428, val := .int 115792089237316195423570985008687907852837564279074904382605163141518161494337 427 } :: { hash := PyData.keyHash P (Str.ofString "_law_base"), key := .str (Str.ofString "_law_base") 431, val := .ref 114 } :: { hash := PyData.keyHash P (Str.ofString "_law_add"), key := .str (Str.ofString "_law_add") 441, val := .ref 121 } :: { hash := PyData.keyHash P (Str.ofString "_law_times"), key := .str (Str.ofString "_law_times") 451, val := .ref 128 } :: { hash := PyData.keyHash P (Str.ofString "_law_octets"), key := .str (Str.ofString "_law_octets") 458, val := .ref 135 } :: { hash := PyData.keyHash P (Str.ofString "_law_signed"), key := .str (Str.ofString "_law_signed") 473, val := .ref 142 } :: { hash := PyData.keyHash P (Str.ofString "_law_key"), key := .str (Str.ofString "_law_key") 488, val := .ref 149 } :: { hash := PyData.keyHash P (Str.ofString "_law_recovered"), key := .str (Str.ofString "_law_recovered") 502, val := .ref 156 } :: { hash := PyData.keyHash P (Str.ofString "_law_multiplied"), key := .str (Str.ofString "_law_multiplied") 518, val := .ref 163 } :: { hash := PyData.keyHash P (Str.ofString "law"), key := .str (Str.ofString "law") 524, val := .ref 168 } :: []).toArray 40 }) ::
  (nat_lit 20, { cls := .type "code", data := Data.fields #[.str (Str.ofString "safe_ord") 189, .str (Str.ofString "safe_ord") 190, .str (Str.ofString "/claim/cut.py") 191, .int 2 0, .int 1 0, .int 0 0, .int 0 0, .int 3 0, .ref 15, .bool Bool.true, .int 181 0, .ref 16, .none, .ref 17, .ref 18, .ref 19, .int 193 0, .int 2 0, .str (Str.ofString "/claim/cut.py") 194] }) ::
  (nat_lit 21, fnAt 1 pm1 20) ::
  (nat_lit 22, { cls := .type "tuple", data := Data.seq #[.int 115792089237316195423570985008687907853269984665640564039457584007908834671663 204, .int 115792089237316195423570985008687907852837564279074904382605163141518161494337 206, .int 0 208, .int 7 210, .int 55066263022277343669578718895168534326250603453777594175500187360389116729240 212, .int 32670510020758816978083085130507043184471273380659243275938904335757337482424 214] }) ::
  (nat_lit 28, { cls := .type "code", data := Data.fields #[.str (Str.ofString "bytes_to_int") 217, .str (Str.ofString "bytes_to_int") 218, .str (Str.ofString "/claim/cut.py") 219, .int 14 0, .int 1 0, .int 0 0, .int 0 0, .int 3 0, .ref 23, .bool Bool.true, .int 181 0, .ref 24, .none, .ref 25, .ref 26, .ref 27, .int 223 0, .int 14 0, .str (Str.ofString "/claim/cut.py") 224] }) ::
  (nat_lit 29, fnAt 9 pm1 28) ::
  (nat_lit 35, { cls := .type "code", data := Data.fields #[.str (Str.ofString "inv") 226, .str (Str.ofString "inv") 227, .str (Str.ofString "/claim/cut.py") 228, .int 19 0, .int 2 0, .int 0 0, .int 0 0, .int 3 0, .ref 30, .bool Bool.true, .int 181 0, .ref 31, .none, .ref 32, .ref 33, .ref 34, .int 238 0, .int 19 0, .str (Str.ofString "/claim/cut.py") 239] }) ::
  (nat_lit 36, fnAt 10 pm1 35) ::
  (nat_lit 42, { cls := .type "code", data := Data.fields #[.str (Str.ofString "to_jacobian") 241, .str (Str.ofString "to_jacobian") 242, .str (Str.ofString "/claim/cut.py") 243, .int 29 0, .int 1 0, .int 0 0, .int 0 0, .int 3 0, .ref 37, .bool Bool.true, .int 181 0, .ref 38, .none, .ref 39, .ref 40, .ref 41, .int 246 0, .int 29 0, .str (Str.ofString "/claim/cut.py") 247] }) ::
  (nat_lit 43, fnAt 11 pm1 42) ::
  (nat_lit 49, { cls := .type "code", data := Data.fields #[.str (Str.ofString "jacobian_double") 249, .str (Str.ofString "jacobian_double") 250, .str (Str.ofString "/claim/cut.py") 251, .int 32 0, .int 2 0, .int 0 0, .int 0 0, .int 3 0, .ref 44, .bool Bool.true, .int 181 0, .ref 45, .none, .ref 46, .ref 47, .ref 48, .int 266 0, .int 32 0, .str (Str.ofString "/claim/cut.py") 267] }) ::
  (nat_lit 50, fnAt 12 pm1 49) ::
  (nat_lit 56, { cls := .type "code", data := Data.fields #[.str (Str.ofString "jacobian_add") 269, .str (Str.ofString "jacobian_add") 270, .str (Str.ofString "/claim/cut.py") 271, .int 43 0, .int 3 0, .int 0 0, .int 0 0, .int 3 0, .ref 51, .bool Bool.true, .int 181 0, .ref 52, .none, .ref 53, .ref 54, .ref 55, .int 293 0, .int 43 0, .str (Str.ofString "/claim/cut.py") 294] }) ::
  (nat_lit 57, fnAt 13 pm1 56) ::
  (nat_lit 63, { cls := .type "code", data := Data.fields #[.str (Str.ofString "from_jacobian") 296, .str (Str.ofString "from_jacobian") 297, .str (Str.ofString "/claim/cut.py") 298, .int 66 0, .int 2 0, .int 0 0, .int 0 0, .int 3 0, .ref 58, .bool Bool.true, .int 181 0, .ref 59, .none, .ref 60, .ref 61, .ref 62, .int 308 0, .int 66 0, .str (Str.ofString "/claim/cut.py") 309] }) ::
  (nat_lit 64, fnAt 14 pm1 63) ::
  (nat_lit 70, { cls := .type "code", data := Data.fields #[.str (Str.ofString "jacobian_multiply") 311, .str (Str.ofString "jacobian_multiply") 312, .str (Str.ofString "/claim/cut.py") 313, .int 70 0, .int 3 0, .int 0 0, .int 0 0, .int 3 0, .ref 65, .bool Bool.true, .int 181 0, .ref 66, .none, .ref 67, .ref 68, .ref 69, .int 323 0, .int 70 0, .str (Str.ofString "/claim/cut.py") 324] }) ::
  (nat_lit 71, fnAt 15 pm1 70) ::
  (nat_lit 77, { cls := .type "code", data := Data.fields #[.str (Str.ofString "multiply") 326, .str (Str.ofString "multiply") 327, .str (Str.ofString "/claim/cut.py") 328, .int 83 0, .int 3 0, .int 0 0, .int 0 0, .int 3 0, .ref 72, .bool Bool.true, .int 181 0, .ref 73, .none, .ref 74, .ref 75, .ref 76, .int 338 0, .int 83 0, .str (Str.ofString "/claim/cut.py") 339] }) ::
  (nat_lit 78, fnAt 16 pm1 77) ::
  (nat_lit 84, { cls := .type "code", data := Data.fields #[.str (Str.ofString "add") 341, .str (Str.ofString "add") 342, .str (Str.ofString "/claim/cut.py") 343, .int 86 0, .int 3 0, .int 0 0, .int 0 0, .int 3 0, .ref 79, .bool Bool.true, .int 181 0, .ref 80, .none, .ref 81, .ref 82, .ref 83, .int 353 0, .int 86 0, .str (Str.ofString "/claim/cut.py") 354] }) ::
  (nat_lit 85, fnAt 17 pm1 84) ::
  (nat_lit 91, { cls := .type "code", data := Data.fields #[.str (Str.ofString "privtopub") 356, .str (Str.ofString "privtopub") 357, .str (Str.ofString "/claim/cut.py") 358, .int 89 0, .int 2 0, .int 0 0, .int 0 0, .int 3 0, .ref 86, .bool Bool.true, .int 181 0, .ref 87, .none, .ref 88, .ref 89, .ref 90, .int 367 0, .int 89 0, .str (Str.ofString "/claim/cut.py") 368] }) ::
  (nat_lit 92, fnAt 18 pm1 91) ::
  (nat_lit 98, { cls := .type "code", data := Data.fields #[.str (Str.ofString "ecdsa_raw_sign") 370, .str (Str.ofString "ecdsa_raw_sign") 371, .str (Str.ofString "/claim/cut.py") 372, .int 92 0, .int 4 0, .int 0 0, .int 0 0, .int 3 0, .ref 93, .bool Bool.true, .int 181 0, .ref 94, .none, .ref 95, .ref 96, .ref 97, .int 388 0, .int 92 0, .str (Str.ofString "/claim/cut.py") 389] }) ::
  (nat_lit 99, fnAt 19 pm1 98) ::
  (nat_lit 105, { cls := .type "code", data := Data.fields #[.str (Str.ofString "ecdsa_raw_recover") 391, .str (Str.ofString "ecdsa_raw_recover") 392, .str (Str.ofString "/claim/cut.py") 393, .int 99 0, .int 3 0, .int 0 0, .int 0 0, .int 3 0, .ref 100, .bool Bool.true, .int 181 0, .ref 101, .none, .ref 102, .ref 103, .ref 104, .int 416 0, .int 99 0, .str (Str.ofString "/claim/cut.py") 417] }) ::
  (nat_lit 106, fnAt 20 pm1 105) ::
  (nat_lit 112, { cls := .type "code", data := Data.fields #[.str (Str.ofString "_law_p") 421, .str (Str.ofString "_law_p") 422, .str (Str.ofString "/claim/cut.py") 423, .int 118 0, .int 0 0, .int 0 0, .int 0 0, .int 3 0, .ref 107, .bool Bool.true, .int 181 0, .ref 108, .none, .ref 109, .ref 110, .ref 111, .int 424 0, .int 118 0, .str (Str.ofString "/claim/cut.py") 425] }) ::
  (nat_lit 113, fnAt 22 pm2 112) ::
  (nat_lit 114, { cls := .type "tuple", data := Data.seq #[.int 55066263022277343669578718895168534326250603453777594175500187360389116729240 429, .int 32670510020758816978083085130507043184471273380659243275938904335757337482424 430] }) ::
  (nat_lit 120, { cls := .type "code", data := Data.fields #[.str (Str.ofString "_law_add") 432, .str (Str.ofString "_law_add") 433, .str (Str.ofString "/claim/cut.py") 434, .int 122 0, .int 2 0, .int 0 0, .int 0 0, .int 3 0, .ref 115, .bool Bool.true, .int 181 0, .ref 116, .none, .ref 117, .ref 118, .ref 119, .int 439 0, .int 122 0, .str (Str.ofString "/claim/cut.py") 440] }) ::
  (nat_lit 121, fnAt 25 pm2 120) ::
  (nat_lit 127, { cls := .type "code", data := Data.fields #[.str (Str.ofString "_law_times") 442, .str (Str.ofString "_law_times") 443, .str (Str.ofString "/claim/cut.py") 444, .int 133 0, .int 2 0, .int 0 0, .int 0 0, .int 3 0, .ref 122, .bool Bool.true, .int 181 0, .ref 123, .none, .ref 124, .ref 125, .ref 126, .int 449 0, .int 133 0, .str (Str.ofString "/claim/cut.py") 450] }) ::
  (nat_lit 128, fnAt 26 pm2 127) ::
  (nat_lit 134, { cls := .type "code", data := Data.fields #[.str (Str.ofString "_law_octets") 452, .str (Str.ofString "_law_octets") 453, .str (Str.ofString "/claim/cut.py") 454, .int 143 0, .int 1 0, .int 0 0, .int 0 0, .int 3 0, .ref 129, .bool Bool.true, .int 181 0, .ref 130, .none, .ref 131, .ref 132, .ref 133, .int 456 0, .int 143 0, .str (Str.ofString "/claim/cut.py") 457] }) ::
  (nat_lit 135, fnAt 27 pm2 134) ::
  (nat_lit 141, { cls := .type "code", data := Data.fields #[.str (Str.ofString "_law_signed") 459, .str (Str.ofString "_law_signed") 460, .str (Str.ofString "/claim/cut.py") 461, .int 145 0, .int 1 0, .int 0 0, .int 0 0, .int 3 0, .ref 136, .bool Bool.true, .int 181 0, .ref 137, .none, .ref 138, .ref 139, .ref 140, .int 471 0, .int 145 0, .str (Str.ofString "/claim/cut.py") 472] }) ::
  (nat_lit 142, fnAt 28 pm2 141) ::
  (nat_lit 148, { cls := .type "code", data := Data.fields #[.str (Str.ofString "_law_key") 474, .str (Str.ofString "_law_key") 475, .str (Str.ofString "/claim/cut.py") 476, .int 155 0, .int 4 0, .int 0 0, .int 0 0, .int 3 0, .ref 143, .bool Bool.true, .int 181 0, .ref 144, .none, .ref 145, .ref 146, .ref 147, .int 486 0, .int 155 0, .str (Str.ofString "/claim/cut.py") 487] }) ::
  (nat_lit 149, fnAt 29 pm2 148) ::
  (nat_lit 155, { cls := .type "code", data := Data.fields #[.str (Str.ofString "_law_recovered") 489, .str (Str.ofString "_law_recovered") 490, .str (Str.ofString "/claim/cut.py") 491, .int 171 0, .int 1 0, .int 0 0, .int 0 0, .int 3 0, .ref 150, .bool Bool.true, .int 181 0, .ref 151, .none, .ref 152, .ref 153, .ref 154, .int 500 0, .int 171 0, .str (Str.ofString "/claim/cut.py") 501] }) ::
  (nat_lit 156, fnAt 30 pm2 155) ::
  (nat_lit 162, { cls := .type "code", data := Data.fields #[.str (Str.ofString "_law_multiplied") 503, .str (Str.ofString "_law_multiplied") 504, .str (Str.ofString "/claim/cut.py") 505, .int 195 0, .int 2 0, .int 0 0, .int 0 0, .int 3 0, .ref 157, .bool Bool.true, .int 181 0, .ref 158, .none, .ref 159, .ref 160, .ref 161, .int 516 0, .int 195 0, .str (Str.ofString "/claim/cut.py") 517] }) ::
  (nat_lit 163, fnAt 31 pm2 162) ::
  (nat_lit 167, { cls := .type "code", data := Data.fields #[.str (Str.ofString "law") 519, .str (Str.ofString "law") 520, .str (Str.ofString "/claim/cut.py") 521, .int 216 0, .int 1 0, .int 0 0, .int 0 0, .int 3 0, .ref 164, .bool Bool.true, .int 181 0, .ref 165, .none, .none, .none, .ref 166, .int 522 0, .int 216 0, .str (Str.ofString "/claim/cut.py") 523] }) ::
  (nat_lit 168, fnAt 32 pm2 167) :: []
noncomputable abbrev as39 : List Addr := nat_lit 3 :: nat_lit 20 :: nat_lit 21 :: nat_lit 22 :: nat_lit 28 :: nat_lit 29 :: nat_lit 35 :: nat_lit 36 :: nat_lit 42 :: nat_lit 43 :: nat_lit 49 :: nat_lit 50 :: nat_lit 56 :: nat_lit 57 :: nat_lit 63 :: nat_lit 64 :: nat_lit 70 :: nat_lit 71 :: nat_lit 77 :: nat_lit 78 :: nat_lit 84 :: nat_lit 85 :: nat_lit 91 :: nat_lit 92 :: nat_lit 98 :: nat_lit 99 :: nat_lit 105 :: nat_lit 106 :: nat_lit 112 :: nat_lit 113 :: nat_lit 114 :: nat_lit 120 :: nat_lit 121 :: nat_lit 127 :: nat_lit 128 :: nat_lit 134 :: nat_lit 135 :: nat_lit 141 :: nat_lit 142 :: nat_lit 148 :: nat_lit 149 :: nat_lit 155 :: nat_lit 156 :: nat_lit 162 :: nat_lit 163 :: nat_lit 167 :: nat_lit 168 :: []
theorem as39_eq (P : Params) : as39 = (K39 P).map (·.1) := by kernel_rfl
abbrev rwj : OpenLaw := PySem.Challenge.rw_jw0016_01
noncomputable def rwt : OpenLaw := { prog := twp, name := ⟨#[108,97,119]⟩, about := [⟨#[101,99,100,115,97,95,114,97,119,95,114,101,99,111,118,101,114]⟩], foot := 11, most := some 63, bound := none, writes := false }
theorem rw_eq : rwj = rwt := by
  have h : rwj = { prog := pw, name := ⟨#[108,97,119]⟩, about := [⟨#[101,99,100,115,97,95,114,97,119,95,114,101,99,111,118,101,114]⟩], foot := 11, most := some 63, bound := none, writes := false } := by kernel_rfl
  rw [h, tw_eq]; rfl
theorem tp_open : looksOpen twp = true := by
  unfold looksOpen
  simp only [PySem.W.Fast.te11788848310118352699, PySem.W.Fast.te9807087744658564304, PySem.W.Fast.te12862048085361865435, PySem.W.Fast.te8377067652309620493, PySem.W.Fast.te14412699480532031325, PySem.W.Fast.te5923862056798008813, PySem.W.Fast.te17691160309236699985, PySem.W.Fast.te13343964577679436407, PySem.W.Fast.te17868728402115742887, PySem.W.Fast.te8326940854005059898, PySem.W.Fast.te17119622794617984870, PySem.W.Fast.te18344453789297297638]
  repeat' with_reducible refine look_both ?_ ?_
  all_goals as_aux_lemma => kernel_rfl
theorem tp_ok : rwj.wellSaid = true := by
  rw [rw_eq]
  unfold OpenLaw.wellSaid OpenRow.wellSaid OpenRow.partSaid
  rw [show looksOpen rwt.row.prog = true from tp_open]
  simp only [PySem.W.Fast.te10501279942588096481, PySem.W.Fast.te8179353310426384613, PySem.W.Fast.te8326940854005059898, PySem.W.Fast.te797321630700447069, PySem.W.Fast.te9572597257264208301, PySem.W.Fast.te9558739934217749035, PySem.W.Fast.te16286561074155671207, PySem.W.Fast.te6984425678791042302, PySem.W.Fast.te12879404354523853263, PySem.W.Fast.te482687673346738481, PySem.W.Fast.te17119622794617984870, PySem.W.Fast.te10792542408131684335, PySem.W.Fast.te18344453789297297638, PySem.W.Fast.te12749700546528644094, PySem.W.Fast.te2357444279172408678, PySem.W.Fast.te13582783067957832011, PySem.W.Fast.te5318747976498570220]
  repeat' with_reducible refine look_both ?_ ?_
  all_goals as_aux_lemma => kernel_rfl
theorem left_boot {p q : Program} {loose : List Str} {Xt : Shared → Bool} {α : Type} {Yf : Shared → α} {Ya : World → α} {N : Nat} {g0 : Bool}
    (e : opening p = plainProg p.main.scope.names) (hN : Nat.ble 600 N = true) (f : ∀ s, fenceModules? p s = some s)
    (h : ∀ (w : World) (os : OsState), (topFrom treeTable p w N ⟨boot_heap w.params, Array.mk [], boot_drawn, boot_toks, os⟩).map (fun s => (openSeen q loose (importedModules p.main.body) Xt g0 s, Yf s)) = some (openGood q loose, Ya w)) :
    LeftO p q loose Xt Yf Ya N g0 := fun w => by
  obtain ⟨⟨hh, gs, d, k, os⟩, e1, e'⟩ := Option.map_eq_some_iff.mp (boot_open e hN f w)
  obtain ⟨rfl, rfl, rfl, rfl⟩ : hh = boot_heap w.params ∧ gs = Array.mk [] ∧ d = boot_drawn ∧ k = boot_toks := by simpa using e'
  unfold openEnds
  rw [e1]
  exact h w os
noncomputable abbrev tp_keep : List Nat := [0, 1, 3, 4, 5, 6, 7, 9, 10, 11, 12, 13, 14, 15, 16, 17, 18, 19, 20, 21, 22, 23, 24, 25, 26, 27, 28, 29, 30, 31, 32]
noncomputable def vw : Program := view pw tp_keep
noncomputable def vwt : Program := view twp tp_keep
theorem vw_eq : vw = vwt := congrArg (view · tp_keep) tw_eq
noncomputable abbrev tp_lv : List (Str × WData) := [("P", .int 115792089237316195423570985008687907853269984665640564039457584007908834671663), ("CURVE", .tuple [.int 115792089237316195423570985008687907853269984665640564039457584007908834671663, .int 115792089237316195423570985008687907852837564279074904382605163141518161494337, .int 0, .int 7, .int 55066263022277343669578718895168534326250603453777594175500187360389116729240, .int 32670510020758816978083085130507043184471273380659243275938904335757337482424])]
noncomputable abbrev tp_loose : List Str := ["P", "CURVE"]
noncomputable abbrev tp_hk : Hook := kHook K39 as39 as39_eq
theorem opening_eq : opening pw = plainProg pw.main.scope.names := by kernel_rfl
theorem fence_eq : ∀ s, fenceModules? pw s = some s := by intro s; kernel_rfl
theorem tp_looks : ∀ (w : World) (os : OsState), (topFrom treeTable twp w 1984 ⟨boot_heap w.params, Array.mk [], boot_drawn, boot_toks, os⟩).map (fun s => (openSeen vwt tp_loose (importedModules twp.main.body) (fun s => xlAt vwt tp_lv s && recOk (RowW.records rwj.row.toRowW) s) true s, Hook.obs tp_hk s)) = some (openGood vwt tp_loose, Hook.val tp_hk w) := by
  unfold topFrom
  rw [PySem.W.Fast.te14082659384304107361, PySem.W.Fast.te14364793385576792824, PySem.W.Fast.te4187177175401517315]
  intro w os
  kernel_rfl
theorem tp_left : LeftO pw vw tp_loose (fun s => xlAt vw tp_lv s && recOk (RowW.records rwj.row.toRowW) s) (Hook.obs tp_hk) (Hook.val tp_hk) 1984 := by
  refine left_boot opening_eq (by decide) fence_eq ?_
  rw [vw_eq, tw_eq]
  exact tp_looks
theorem hd {d : DefRec} {kwd : List (Str × Expr)} (a1 : defOf vw rwj.row.name = some (d, kwd)) (a2 : pw.theDef rwj.row.name = some (d.params, d.body, d.scope)) (a3 : kwWritten? d.params.kwonlyargs d.params.kw_defaults = some kwd)
    (call : WalkO vw tp_loose (XL vw tp_lv) (Hook.says (kHook K39 as39 as39_eq)) rwj.row.toRowW d kwd fun f vs => PySem.call f vs) : rwj.Holds := by
  refine holds_law tp_ok fun said => ?_
  refine holds_open (r := rwj.row) (q := vw) (loose := tp_loose) (Xt := fun s => xlAt vw tp_lv s && recOk (RowW.records rwj.row.toRowW) s) (XP := XL vw tp_lv) (Yf := Hook.obs tp_hk) (Ya := Hook.val tp_hk) (YP := Hook.says tp_hk) (N := 1984) tp_left (Hook.of tp_hk) (Hook.keeps tp_hk) (fun s e => xl_of s (Bool.and_eq_true_iff.mp e).1) XL.keeps a1 a2 a3 (fun s e => recFacts_of (Bool.and_eq_true_iff.mp e).2) ?a4 ?a5 ?a6 ⟨rfl, rfl, rfl, rfl, rfl, ?a7⟩ ?hw call
  case a4 => rfl
  case a5 => assumption
  case a6 => decide +kernel
  case a7 => decide +kernel
  case hw => w_witness2
end Mine
namespace Mine
open PySem.Builtin.Int (intBits)

noncomputable def Sub (a b : List (Addr × Obj)) : Prop := ∀ p ∈ a, p ∈ b

/-- a contract of a def: how the arguments stand in the ledger, what is asked, the frames' room, what comes back -/
structure Con (D : Type) where
  Rel : List (Addr × Obj) → List Value → D → Prop
  Ok : D → Prop
  size : D → Nat
  Out : List (Addr × Obj) → Value → D → Prop

noncomputable def Holds {D : Type} (prog : Program) (w : World) (K : Frag) (p : Program) (loose : List Str) (mean : ExcName → Option Value) (mg mb : Str → Option Value) (f : Addr) (c : Con D) (d : D) : Prop :=
  ∀ (dp un : Nat) (gd : Option (List Code)) (cn : Str) (cs : Scope) (a : Addr) (ccd : Value) (cl : List (Str × Addr)) (outer : List Env) (A₀ : Around) (base h₀ : Heap) (L : Addr) (m : Str → Option Value) (news : List (Addr × Obj)) (s : Shared) (vs : List Value)
    (Q E : Value → Shared → Prop),
    Below A₀ base outer h₀ → Fr h₀ L s.heap m → K.In h₀ → News h₀ L s.heap news → Top p loose mean mg mb h₀ → cs.kind = .function → c.Rel news vs d → c.Ok d → dp + c.size d < recursionLimit → un + 8 * c.size d < cLine →
    (∀ r news' h' tk', Fr h₀ L h' m → News h₀ L h' news' → Sub news news' → c.Out news' r d → Q r { s with heap := h', toks := tk' }) →
    wpAny (model prog w) (ktrTop dp un gd cn cs L a ccd cl outer) (call (.ref f) vs) Q E s

section
variable {D : Type} {prog : Program} {w : World} {K : Frag} {p : Program} {loose : List Str} {mean : ExcName → Option Value} {mg mb : Str → Option Value} {f : Addr} {c : Con D}
theorem holds_of (step : ∀ d, (∀ d', c.size d' < c.size d → Holds prog w K p loose mean mg mb f c d') → Holds prog w K p loose mean mg mb f c d) : ∀ d, Holds prog w K p loose mean mg mb f c d := by
  have all : ∀ n, ∀ d, c.size d < n → Holds prog w K p loose mean mg mb f c d := by
    intro n
    induction n with
    | zero => intro d h; exact absurd h (Nat.not_lt_zero _)
    | succ n ih => exact fun d h => step d fun d' h' => ih d' (Nat.lt_of_lt_of_le h' (Nat.le_of_lt_succ h))
  exact fun d => all _ d (Nat.lt_succ_self _)
theorem holds_use {d : D} {dp un : Nat} {gd : Option (List Code)} {cn : Str} {cs : Scope} {a : Addr} {ccd : Value} {cl : List (Str × Addr)} {outer : List Env} {A₀ : Around} {base h₀ : Heap} {L : Addr} {m : Str → Option Value} {news : List (Addr × Obj)} {s : Shared} {vs : List Value}
    {Q E : Value → Shared → Prop} (C : Holds prog w K p loose mean mg mb f c d) (B : Below A₀ base outer h₀) (F : Fr h₀ L s.heap m) (X : K.In h₀) (N : News h₀ L s.heap news) (T : Top p loose mean mg mb h₀) (hk : cs.kind = .function) (R : c.Rel news vs d) (ok : c.Ok d)
    (hd : dp + c.size d < recursionLimit) (hu : un + 8 * c.size d < cLine)
    (ret : ∀ r news' h' tk', Fr h₀ L h' m → News h₀ L h' news' → Sub news news' → c.Out news' r d → Q r { s with heap := h', toks := tk' }) :
    wpAny (model prog w) (ktrTop dp un gd cn cs L a ccd cl outer) (call (.ref f) vs) Q E s := C _ _ _ _ _ _ _ _ _ _ _ _ _ _ _ _ _ _ _ B F X N T hk R ok hd hu ret
end

/-- a tuple that the frame sees: made (in the ledger) or of the text's top (in the written part) -/
noncomputable def Vis (K : Frag) (news : List (Addr × Obj)) (a : Addr) (vs : List Value) : Prop :=
  ∃ o n, ((a, o) ∈ news ∨ K.lookup a = some o) ∧ o.cls = .type "tuple" ∧ o.data = .seq vs.toArray n
section
variable {K : Frag} {news news' tl : List (Addr × Obj)} {a : Addr} {vs : List Value} {q : Addr × Obj} {n : Nat} {dd : Option Addr} {sl : Array (Option Value)}
theorem Vis.head : Vis K ((a, { cls := .type "tuple", dict := dd, data := .seq vs.toArray n, slots := sl }) :: news) a vs := ⟨_, n, .inl (.head _), rfl, rfl⟩
theorem Vis.sub (hs : Sub news news') (h : Vis K news a vs) : Vis K news' a vs := by
  obtain ⟨o, n, h1, h2⟩ := h
  exact ⟨o, n, h1.imp (hs _) id, h2⟩
theorem Vis.tail (h : Vis K news a vs) : Vis K (q :: news) a vs := h.sub fun _ hp => .tail _ hp
theorem Vis.left (h : Vis K news a vs) : Vis K (news ++ tl) a vs := h.sub fun _ hp => List.mem_append_left _ hp
theorem Vis.right (h : Vis K tl a vs) : Vis K (news ++ tl) a vs := h.sub fun _ hp => List.mem_append_right _ hp
theorem Vis.ofK (h : K.lookup a = some ⟨.type "tuple", dd, .seq vs.toArray n, sl⟩) : Vis K news a vs := ⟨_, n, .inr h, rfl, rfl⟩
theorem Vis.isTup {h₀ h : Heap} {L : Addr} {m : Str → Option Value} (F : Fr h₀ L h m) (X : K.In h₀) (N : News h₀ L h news) (v : Vis K news a vs) : IsTup h a vs.toArray := by
  obtain ⟨o, n, h1, h2, h3⟩ := v
  rcases h1 with h1 | h1
  · exact ⟨o, (N _ h1).1, h2, n, h3⟩
  · exact ⟨o, F.keep _ _ (X _ _ h1), h2, n, h3⟩
theorem Sub.rfl : Sub news news := fun _ h => h
theorem Sub.cons (h : Sub news news') : Sub news (q :: news') := fun p hp => .tail _ (h p hp)
theorem Sub.left (h : Sub news news') : Sub news (news' ++ tl) := fun p hp => List.mem_append_left _ (h p hp)
theorem Sub.right (h : Sub news news') : Sub news (tl ++ news') := fun p hp => List.mem_append_right _ (h p hp)
theorem Sub.trans {n1 n2 n3 : List (Addr × Obj)} (h2 : Sub n2 n3) (h1 : Sub n1 n2) : Sub n1 n3 := fun p hp => h2 p (h1 p hp)
end

noncomputable def T3 (K : Frag) (news : List (Addr × Obj)) (v : Value) (d : Int × Int × Int) : Prop := ∃ a t1 t2 t3, v = .ref a ∧ Vis K news a [.int d.1 t1, .int d.2.1 t2, .int d.2.2 t3]
noncomputable def T2 (K : Frag) (news : List (Addr × Obj)) (v : Value) (d : Int × Int) : Prop := ∃ a t1 t2, v = .ref a ∧ Vis K news a [.int d.1 t1, .int d.2 t2]
theorem T3.mk {K : Frag} {news : List (Addr × Obj)} {a : Addr} {X Y Z : Int} {t1 t2 t3 : Tok} (h : Vis K news a [.int X t1, .int Y t2, .int Z t3]) : T3 K news (.ref a) (X, Y, Z) := ⟨a, t1, t2, t3, rfl, h⟩
theorem T2.mk {K : Frag} {news : List (Addr × Obj)} {a : Addr} {X Y : Int} {t1 t2 : Tok} (h : Vis K news a [.int X t1, .int Y t2]) : T2 K news (.ref a) (X, Y) := ⟨a, t1, t2, rfl, h⟩

theorem bitsP : intBits 115792089237316195423570985008687907853269984665640564039457584007908834671663 ≤ 256 := by decide +kernel
theorem bitsN : intBits 115792089237316195423570985008687907852837564279074904382605163141518161494337 ≤ 256 := by decide +kernel
theorem pow_ok {a : Int} {n : Int} {m : Nat} (ha : intBits a ≤ m) (h : (m : Int) * n ≤ 2 ^ 27) (hn : 0 ≤ n) : (intBits a : Int) * n ≤ 2 ^ 27 :=
  Int.le_trans (Int.mul_le_mul_of_nonneg_right (by omega) hn) h

theorem item_vis {prog : Program} {w : World} {K : Frag} {A : Around} {E : Value → Shared → Prop} {s : Shared} {h₀ : Heap} {L : Addr} {m : Str → Option Value} {news : List (Addr × Obj)} {value slice : Expr} {t : Addr} {l : List Value} {k : Int} {u : Tok} {j : Nat} {x : Value} {Q : Value → Shared → Prop}
    (F : Fr h₀ L s.heap m) (X : K.In h₀) (N : News h₀ L s.heap news) (v : Vis K news t l)
    (hlo : -(2 ^ 63) ≤ k) (hhi : k < 2 ^ 63) (hj : seqIndex? k l.length = some j) (hx : l[j]? = some x) (h : Q x s)
    (hs : subscripted slice false (.ref t) (.int k u) = operate [.ref t, .int k u] (getItem (.ref t) (.int k u)) := by with_unfolding_all rfl) :
    wpAny (model prog w) A (subscriptTail value slice (.ref t) (.int k u)) Q E s := item_tupleT (v.isTup F X N) hlo hhi hj hx h hs

/- what the text reckons, as plain functions -/
noncomputable abbrev PI : Int := 115792089237316195423570985008687907853269984665640564039457584007908834671663
noncomputable abbrev NI : Int := 115792089237316195423570985008687907852837564279074904382605163141518161494337
noncomputable abbrev GX : Int := 55066263022277343669578718895168534326250603453777594175500187360389116729240
noncomputable abbrev GY : Int := 32670510020758816978083085130507043184471273380659243275938904335757337482424
noncomputable def B3 (d : Int × Int × Int) : Prop := intBits d.1 ≤ 300 ∧ intBits d.2.1 ≤ 300 ∧ intBits d.2.2 ≤ 300
noncomputable def B2 (d : Int × Int) : Prop := intBits d.1 ≤ 300 ∧ intBits d.2 ≤ 300
noncomputable def jdbl (d : Int × Int × Int) : Int × Int × Int :=
  if d.2.1 = 0 then (0, 0, 0) else
    let ysq := (d.2.1 ^ 2).fmod PI
    let S := (4 * d.1 * ysq).fmod PI
    let M := (3 * d.1 ^ 2 + 0 * d.2.2 ^ 4).fmod PI
    let nx := (M ^ 2 - 2 * S).fmod PI
    let ny := (M * (S - nx) - 8 * ysq ^ 2).fmod PI
    let nz := (2 * d.2.1 * d.2.2).fmod PI
    (nx, ny, nz)
noncomputable def jadd (p q : Int × Int × Int) : Int × Int × Int :=
  if p.2.1 = 0 then q else if q.2.1 = 0 then p else
    let U1 := (p.1 * q.2.2 ^ 2).fmod PI
    let U2 := (q.1 * p.2.2 ^ 2).fmod PI
    let S1 := (p.2.1 * q.2.2 ^ 3).fmod PI
    let S2 := (q.2.1 * p.2.2 ^ 3).fmod PI
    if U1 = U2 then (if S1 = S2 then jdbl p else (0, 0, 1)) else
      let H := U2 - U1
      let R := S2 - S1
      let H2 := (H * H).fmod PI
      let H3 := (H * H2).fmod PI
      let U1H2 := (U1 * H2).fmod PI
      let nx := (R ^ 2 - H3 - 2 * U1H2).fmod PI
      let ny := (R * (U1H2 - nx) - S1 * H3).fmod PI
      let nz := (H * p.2.2 * q.2.2).fmod PI
      (nx, ny, nz)
theorem bits_modP (a : Int) : intBits (a.fmod PI) ≤ 300 := Nat.le_trans (bits_fmod_by (by decide) bitsP) (by decide)
theorem bits_modN (a : Int) : intBits (a.fmod NI) ≤ 300 := Nat.le_trans (bits_fmod_by (by decide) bitsN) (by decide)
theorem jdbl_B3 (d : Int × Int × Int) : B3 (jdbl d) := by
  unfold jdbl
  split
  · exact ⟨by decide, by decide, by decide⟩
  · exact ⟨bits_modP _, bits_modP _, bits_modP _⟩
theorem jadd_B3 {p q : Int × Int × Int} (hp : B3 p) (hq : B3 q) : B3 (jadd p q) := by
  unfold jadd
  split
  · exact hq
  split
  · exact hp
  dsimp only
  split
  · split
    · exact jdbl_B3 _
    · exact ⟨by decide, by decide, by decide⟩
  · exact ⟨bits_modP _, bits_modP _, bits_modP _⟩
theorem jdbl_z {X Y Z : Int} (h : Y = 0) : jdbl (X, Y, Z) = (0, 0, 0) := by unfold jdbl; exact if_pos h
end Mine
namespace Mine
structure Stop (P : Prop) : Prop where
  h : P
theorem stop_here {P : Prop} (s : Stop P) : P := s.h
theorem fr_set {h₀ h : Heap} {L : Addr} {m : Str → Option Value} {x : Str} {v : Value} (hm : m x = some v) (F : Fr h₀ L h m) : Fr h₀ L h (fun y => if y = x then some v else m y) := by
  have e : (fun y => if y = x then some v else m y) = m := by
    funext y
    by_cases h : y = x
    · rw [if_pos h, h, hm]
    · rw [if_neg h]
  rw [e]; exact F
noncomputable def invLoop (lm hm low high : Int) : Int :=
  if h : 1 < low then invLoop (hm - lm * high.fdiv low) lm (high - low * high.fdiv low) low else lm
  termination_by low.toNat
  decreasing_by
    have f := fdiv_fmod_facts high low
    have g := f.2.2.1 (by omega)
    have e : low * high.fdiv low = high.fdiv low * low := Int.mul_comm _ _
    omega
noncomputable def invF (a n : Int) : Int := if a = 0 then 0 else (invLoop 1 0 (a.fmod n) n).fmod n
end Mine
namespace Mine
open PySem.Builtin.Int (intBits)
theorem noPylong_bits {x y : Int} {m : Nat} (h : intBits y ≤ m) (hm : m ≤ 9000) : Builtin.divisionGoesByPylong x y = false := by
  refine PyProof.noPylong_of_log2 ?_
  unfold intBits at h
  split at h
  · rename_i h0
    have : y = 0 := by simpa using h0
    subst this
    decide
  · omega
end Mine
namespace Mine
open PySem.Builtin.Int (intBits)
theorem invF_bits (a : Int) {n : Int} (hn : 1 < n) (h : intBits n ≤ 300) : intBits (invF a n) ≤ 300 := by
  unfold invF
  split
  · decide
  · exact bits_fmod_by (by omega) h
noncomputable def fromJac (d : Int × Int × Int) : Int × Int := ((d.1 * invF d.2.2 PI ^ 2).fmod PI, (d.2.1 * invF d.2.2 PI ^ 3).fmod PI)
theorem fromJac_B2 (d : Int × Int × Int) : B2 (fromJac d) := ⟨bits_modP _, bits_modP _⟩
theorem bitsP3 : intBits PI ≤ 300 := Nat.le_trans bitsP (by decide)
theorem bitsN3 : intBits NI ≤ 300 := Nat.le_trans bitsN (by decide)
noncomputable def jmulN (a : Int × Int × Int) (n : Nat) : Int × Int × Int :=
  if h0 : n = 0 then (0, 0, 1) else if h1 : n = 1 then a else if n % 2 = 0 then jdbl (jmulN a (n / 2)) else jadd (jdbl (jmulN a (n / 2))) a
  termination_by n
noncomputable def jmul (a : Int × Int × Int) (n : Int) : Int × Int × Int := if a.2.1 = 0 then (0, 0, 1) else jmulN a (n.fmod NI).toNat
theorem jmulN_B3 {a : Int × Int × Int} (h : B3 a) (n : Nat) : B3 (jmulN a n) := by
  induction n using Nat.strongRecOn with
  | _ n ih =>
    rw [jmulN]
    split
    · exact ⟨by decide, by decide, by decide⟩
    split
    · exact h
    split
    · exact jdbl_B3 _
    · exact jadd_B3 (jdbl_B3 _) h
theorem jmul_B3 {a : Int × Int × Int} (h : B3 a) (n : Int) : B3 (jmul a n) := by
  unfold jmul
  split
  · exact ⟨by decide, by decide, by decide⟩
  · exact jmulN_B3 h _
theorem fmodN_of {n : Int} (h0 : 0 ≤ n) (h : n < NI) : n.fmod NI = n := by
  rw [Int.fmod_eq_emod_of_nonneg _ (by decide)]; exact Int.emod_eq_of_lt h0 h
theorem jmul_y {a : Int × Int × Int} {n : Int} (h : a.2.1 = 0) : jmul a n = (0, 0, 1) := by unfold jmul; rw [if_pos h]
theorem jmul_0 {a : Int × Int × Int} {n : Int} (h : n = 0) : jmul a n = (0, 0, 1) := by
  unfold jmul
  split
  · rfl
  · subst h; rw [show (Int.fmod 0 NI).toNat = 0 by decide +kernel, jmulN]; rfl
theorem jmul_1 {a : Int × Int × Int} {n : Int} (h : a.2.1 ≠ 0) (h1 : n = 1) : jmul a n = a := by
  unfold jmul
  rw [if_neg h]
  subst h1; rw [show (Int.fmod 1 NI).toNat = 1 by decide +kernel, jmulN]; rfl
theorem jmul_mod (a : Int × Int × Int) (n : Int) : jmul a (n.fmod NI) = jmul a n := by
  unfold jmul
  have f := (fdiv_fmod_facts n NI).2.2.1 (by decide)
  rw [fmodN_of f.1 f.2]
theorem jmul_even {a : Int × Int × Int} {n : Int} (h : a.2.1 ≠ 0) (h0 : n ≠ 0) (h1 : n ≠ 1) (hn : 0 ≤ n) (hN : n < NI) (h2 : n.fmod 2 = 0) : jmul a n = jdbl (jmul a (n.fdiv 2)) := by
  have f := fdiv_fmod_facts n 2
  have g := f.2.2.1 (by decide)
  unfold jmul
  rw [if_neg h, if_neg h, fmodN_of hn hN, fmodN_of (by omega) (by unfold NI at *; omega)]
  rw [jmulN, dif_neg (by omega), dif_neg (by omega), if_pos (by omega)]
  rw [show n.toNat / 2 = (n.fdiv 2).toNat by omega]
theorem jmul_odd {a : Int × Int × Int} {n : Int} (h : a.2.1 ≠ 0) (h0 : n ≠ 0) (h1 : n ≠ 1) (hn : 0 ≤ n) (hN : n < NI) (h2 : n.fmod 2 = 1) : jmul a n = jadd (jdbl (jmul a (n.fdiv 2))) a := by
  have f := fdiv_fmod_facts n 2
  have g := f.2.2.1 (by decide)
  unfold jmul
  rw [if_neg h, if_neg h, fmodN_of hn hN, fmodN_of (by omega) (by unfold NI at *; omega)]
  rw [jmulN, dif_neg (by omega), dif_neg (by omega), if_neg (by omega)]
  rw [show n.toNat / 2 = (n.fdiv 2).toNat by omega]
noncomputable def msz (n : Int) : Nat := if 0 ≤ n ∧ n < NI then n.toNat.log2 + 4 else 270
theorem msz_ge (n : Int) : 4 ≤ msz n := by unfold msz; split <;> omega
theorem msz_le (n : Int) : msz n ≤ 270 := by
  unfold msz
  split
  · rename_i h
    have : n.toNat.log2 < 256 := by
      rcases Nat.eq_zero_or_pos n.toNat with h0 | h0
      · rw [h0]; decide
      · refine (Nat.log2_lt (by omega)).mpr ?_
        have h2 : n.toNat < 115792089237316195423570985008687907852837564279074904382605163141518161494337 := by have h3 : n < 115792089237316195423570985008687907852837564279074904382605163141518161494337 := h.2; omega
        exact Nat.lt_trans h2 (by decide)
    omega
  · omega
theorem msz_mod {n : Int} (h : n < 0 ∨ NI ≤ n) : msz (n.fmod NI) < msz n := by
  have f := (fdiv_fmod_facts n NI).2.2.1 (by decide)
  have e : msz n = 270 := by unfold msz; rw [if_neg (by omega)]
  rw [e]
  unfold msz
  rw [if_pos f]
  have : (n.fmod NI).toNat.log2 < 256 := by
    rcases Nat.eq_zero_or_pos (n.fmod NI).toNat with h0 | h0
    · rw [h0]; decide
    · refine (Nat.log2_lt (by omega)).mpr ?_
      have h2 : (n.fmod NI).toNat < 115792089237316195423570985008687907852837564279074904382605163141518161494337 := by have h3 : n.fmod NI < 115792089237316195423570985008687907852837564279074904382605163141518161494337 := f.2; omega
      exact Nat.lt_trans h2 (by decide)
  omega
theorem msz_half {n : Int} (h0 : n ≠ 0) (h1 : n ≠ 1) (hn : 0 ≤ n) (hN : n < NI) : msz (n.fdiv 2) < msz n := by
  have f := fdiv_fmod_facts n 2
  have g := f.2.2.1 (by decide)
  unfold msz
  rw [if_pos (show 0 ≤ n ∧ n < NI from ⟨hn, hN⟩), if_pos (show 0 ≤ n.fdiv 2 ∧ n.fdiv 2 < NI from ⟨by omega, by unfold NI at *; omega⟩)]
  have e : (n.fdiv 2).toNat = n.toNat / 2 := by omega
  rw [e]
  have : n.toNat.log2 = (n.toNat / 2).log2 + 1 := by
    rw [Nat.log2_def n.toNat, if_pos (by omega)]
  omega
end Mine
namespace Mine
theorem room_of {dp a b r k : Nat} (h : dp + a < r) (hlt : b < a) (hk : k ≤ 1) : dp + k + b < r := by omega
theorem units_of {un a b r k : Nat} (h : un + 8 * a < r) (hlt : b < a) (hk : k ≤ 8) : un + k + 8 * b < r := by omega
end Mine
namespace Mine
theorem msz_half' {n : Int} (h0 : n ≠ 0) (h1 : n ≠ 1) (hn : ¬ n < 0) (hN : ¬ NI ≤ n) : msz (n.fdiv 2) < msz n := msz_half h0 h1 (Int.not_lt.mp hn) (Int.not_le.mp hN)
end Mine
namespace Mine
theorem room_le {dp a b r k c : Nat} (h : dp + a < r) (hlt : b ≤ c) (hk : c + k ≤ a) : dp + k + b < r := by omega
theorem units_le {un a b r k c : Nat} (h : un + 8 * a < r) (hlt : b ≤ c) (hk : 8 * c + k ≤ 8 * a) : un + k + 8 * b < r := by omega
end Mine
namespace Mine
open PySem.Builtin.Int (intBits)
theorem B3.mk {X Y Z : Int} (h1 : intBits X ≤ 300) (h2 : intBits Y ≤ 300) (h3 : intBits Z ≤ 300) : B3 (X, Y, Z) := ⟨h1, h2, h3⟩
theorem B2.mk {X Y : Int} (h1 : intBits X ≤ 300) (h2 : intBits Y ≤ 300) : B2 (X, Y) := ⟨h1, h2⟩
theorem bits_one : intBits 1 ≤ 300 := by decide
end Mine
namespace Mine
open PySem.Builtin.Int (intBits)
/-- the end of a for's turn: the ledger has grown, the word holds -/
noncomputable def ForPost (h₀ : Heap) (L : Addr) (J : (Str → Option Value) → List (Addr × Obj) → Prop) (news : List (Addr × Obj)) (s₁ : Shared) (Q : Flow → Shared → Prop) (f : Flow) (s₂ : Shared) : Prop :=
  match f with
  | .ret v => Q (.ret v) s₂
  | .brk => Q .next s₂
  | _ => ∃ h' tk m' news', s₂ = { s₁ with heap := h', toks := tk } ∧ Fr h₀ L h' m' ∧ News h₀ L h' news' ∧ Sub news news' ∧ J m' news'
theorem for_inv {prog : Program} {w : World} {A : Around} {E : Value → Shared → Prop} {Q : Flow → Shared → Prop} {s : Shared} {env : Env} {h₀ : Heap} {x : Str} {body : List Stmt} {I : Addr} {fp wr : List Addr} {n : Nat} {P : Nat → Value → Prop} {St : Nat → Heap → Prop} {m₀ : Str → Option Value} {news : List (Addr × Obj)}
    (J : Nat → (Str → Option Value) → List (Addr × Obj) → Prop)
    (W : Walks prog w A I fp wr n P St) (hLf : env.locals ∉ fp) (hwr : ∀ b ∈ wr, h₀.get? b = none) (hnw : ∀ p ∈ news, p.1 ∉ wr) (hst : St 0 s.heap) (F : Fr h₀ env.locals s.heap m₀) (N : News h₀ env.locals s.heap news) (hj : J 0 m₀ news)
    (hwt : ∀ i h, St i h → ∀ b ∈ wr, ∃ o, h.get? b = some o ∧ o.cls ≠ .type "tuple")
    (hJ : ∀ i m n1 n2, J i m n1 → (∀ p ∈ n1, p.2.cls = .type "tuple" → p ∈ n2) → J i m n2)
    (turn : ∀ i v m₁ news₁ h tk, i < n → P i v → J i m₁ news₁ → Sub news news₁ → Fr h₀ env.locals h (fun y => if y = x then some v else m₁ y) → News h₀ env.locals h news₁ →
      wpAny (model prog w) A (execs body env) (ForPost h₀ env.locals (J (i + 1)) news₁ { s with heap := h, toks := tk } Q) E { s with heap := h, toks := tk })
    (done : ∀ m₁ news₁ h tk, J n m₁ news₁ → Sub news news₁ → Fr h₀ env.locals h m₁ → News h₀ env.locals h news₁ → Q .next { s with heap := h, toks := tk }) :
    LoopAtV prog w A h₀ env x body Q E (.ref I) s := by
  refine ⟨I, fp, wr, n, P, St, m₀, news, fun i m nx => Sub news nx ∧ J i m nx, rfl, W, hLf, hwr, hnw, hst, F, N, ⟨fun _ h => h, hj⟩, ?_, ?_⟩
  · rintro i v m₁ news₁ s₁ own ⟨hh', tk', rfl⟩ hi hP ⟨hs, hJ1⟩ hoff hown hown2 hown3 hst1 F₁ N₁
    have hs1 : Sub news₁ (own ++ news₁) := fun p hp => List.mem_append_right _ hp
    refine wpAny_mono (turn i v m₁ (own ++ news₁) hh' tk' hi hP (hJ _ _ _ _ hJ1 fun p hp _ => hs1 p hp) (fun p hp => hs1 p (hs p hp)) F₁ N₁) (fun f s₂ p => ?_) fun _ _ e => e
    have fin : (∃ h' tk m' news', s₂ = { s with heap := h', toks := tk } ∧ Fr h₀ env.locals h' m' ∧ News h₀ env.locals h' news' ∧ Sub (own ++ news₁) news' ∧ J (i + 1) m' news') →
        LoopStepU h₀ env.locals wr own (fun m nx => Sub news nx ∧ J (i + 1) m nx) { s with heap := hh', toks := tk' } .next s₂ := by
      rintro ⟨h', tk, m', news', e, F', N', hsub, hJ'⟩
      refine ⟨rfl, h', tk, m', news'.filter (fun p => !wr.contains p.1), e, F', fun p hp => N' p ((List.mem_append.mp hp).elim (fun h => hsub p (List.mem_append_left _ h)) fun h => (List.mem_filter.mp h).1), fun p hp hq => ?_, fun p hp => ?_, hJ _ _ _ _ hJ' fun p hp ht => ?_⟩
      · have := (List.mem_filter.mp hp).2
        rw [List.contains_iff_mem.mpr hq] at this
        cases this
      · refine List.mem_filter.mpr ⟨hsub p (hs1 p (hs p hp)), ?_⟩
        have := hnw p hp
        simpa using this
      · refine List.mem_filter.mpr ⟨hp, ?_⟩
        by_cases hw : p.1 ∈ wr
        · exfalso
          obtain ⟨o, ho, hc⟩ := hwt _ _ hst1 p.1 hw
          have h1 := N' _ (hsub _ (List.mem_append_left news₁ (hown3 p.1 (W.sub _ hw) (hwr _ hw) o ho)))
          have h2 := (N' p hp).1
          have h3 : h'.get? p.1 = some o := h1.1
          rw [h2] at h3
          cases h3
          exact hc ht
        · simpa using hw
    cases f with
    | ret v => exact .ret p
    | brk => exact .brk p
    | next => exact .next (fin p)
    | cont => exact .cont (fin p)
  · rintro h' tk m' news' F' N' _ ⟨hs, hJ'⟩
    exact done m' news' h' tk hJ' hs F' N'

noncomputable def bytesInt (b : Array UInt8) : Int := b.toList.foldl (fun o x => o * 256 + (x.toNat : Int)) 0
noncomputable def bytesUp (b : Array UInt8) (i : Nat) : Int := (b.toList.take i).foldl (fun o x => o * 256 + (x.toNat : Int)) 0
theorem bytesUp_succ {b : Array UInt8} {i : Nat} {x : UInt8} (h : b[i]? = some x) : bytesUp b (i + 1) = bytesUp b i * 256 + (x.toNat : Int) := by
  unfold bytesUp
  have h' : b.toList[i]? = some x := by simpa using h
  rw [List.take_add_one, h']
  simp
theorem bytesUp_bound (b : Array UInt8) (i : Nat) : 0 ≤ bytesUp b i ∧ bytesUp b i < 256 ^ i := by
  induction i with
  | zero => simp [bytesUp]
  | succ i ih =>
    cases h : b[i]? with
    | none =>
      have h' : b.toList[i]? = none := by simpa using h
      have e : bytesUp b (i + 1) = bytesUp b i := by
        unfold bytesUp
        rw [List.take_add_one, h']; simp
      rw [e]
      refine ⟨ih.1, Int.lt_of_lt_of_le ih.2 ?_⟩
      rw [Int.pow_succ]
      have : (0 : Int) ≤ 256 ^ i := Int.pow_nonneg (by decide)
      omega
    | some x =>
      rw [bytesUp_succ h, Int.pow_succ]
      have hx : x.toNat < 256 := x.toNat_lt
      generalize bytesUp b i = z at ih ⊢
      generalize (256 : Int) ^ i = q at ih ⊢
      omega
theorem bytesUp_bits (b : Array UInt8) {i : Nat} (h : i ≤ 64) : intBits (bytesUp b i) ≤ 600 := by
  have hb := bytesUp_bound b i
  refine intBits_le_iff.mpr ?_
  have e : (256 : Int) ^ i = ((256 ^ i : Nat) : Int) := by rw [Int.natCast_pow]; rfl
  have h4 : (bytesUp b i).natAbs < 256 ^ i := by
    have := hb.2
    rw [e] at this
    omega
  refine Nat.lt_of_lt_of_le h4 (Nat.le_trans (Nat.pow_le_pow_right (by decide) h) (by decide +kernel))
theorem bytesUp_all (b : Array UInt8) : bytesUp b b.size = bytesInt b := by
  unfold bytesUp bytesInt
  rw [← Array.length_toList, List.take_length]
end Mine
namespace Mine
open PySem.Builtin.Int (intBits)
section
variable {prog : Program} {w : World} {A : Around} {E : Value → Shared → Prop} {Q : Flow → Shared → Prop} {s : Shared} {env : Env} {h₀ : Heap} {x : Str} {body : List Stmt} {m₀ : Str → Option Value} {news : List (Addr × Obj)}
theorem bytes_loop {b : Array UInt8} {tb : Tok} (J : Nat → (Str → Option Value) → List (Addr × Obj) → Prop) (hh : A.handled = none) (F : Fr h₀ env.locals s.heap m₀) (N : News h₀ env.locals s.heap news) (hj : J 0 m₀ news)
    (hJ : ∀ i m n1 n2, J i m n1 → (∀ p ∈ n1, p.2.cls = .type "tuple" → p ∈ n2) → J i m n2)
    (turn : ∀ i c t m₁ news₁ h tk, b[i]? = some c → J i m₁ news₁ → Sub news news₁ → Fr h₀ env.locals h (fun y => if y = x then some (.int ((c.toNat : Nat) : Int) t) else m₁ y) → News h₀ env.locals h news₁ →
      wpAny (model prog w) A (execs body env) (ForPost h₀ env.locals (J (i + 1)) news₁ { s with heap := h, toks := tk } Q) E { s with heap := h, toks := tk })
    (done : ∀ m₁ news₁ h tk, J b.size m₁ news₁ → Sub news news₁ → Fr h₀ env.locals h m₁ → News h₀ env.locals h news₁ → Q .next { s with heap := h, toks := tk }) :
    wpAny (model prog w) A (pyIter (.bytes b tb)) (fun it s₂ => LoopAtV prog w A h₀ env x body Q E it s₂) E s := by
  refine KBw.pyIter_bytes ?_
  refine for_inv J (KBw.walks hh s.heap.objs.size b tb) ?_ ?_ ?_ ⟨_, Heap.get?_push_size _ rfl, rfl, rfl⟩ (F.push _) (fun p hp => ⟨Heap.get?_push_of_some _ (N p hp).1, (N p hp).2⟩) hj ?_ hJ ?_ ?_
  · intro hm
    exact absurd F.ns.lt ((List.mem_singleton.mp hm) ▸ Nat.lt_irrefl _)
  · intro b' hb
    rw [List.mem_singleton.mp hb]
    exact next_is_new F
  · intro p hp hI
    exact absurd (Heap.lt_size (N p hp).1) ((List.mem_singleton.mp hI) ▸ Nat.lt_irrefl _)
  · rintro i h ⟨o, ho, hc, _⟩ b' hb
    rw [List.mem_singleton.mp hb]
    exact ⟨o, ho, by rw [hc]; decide⟩
  · rintro i v m₁ news₁ h tk hi ⟨n, u, hn, rfl⟩ hJ1 hs F₁ N₁
    exact turn i n u m₁ news₁ h tk hn hJ1 hs F₁ N₁
  · exact done
end
end Mine
namespace Mine
section
variable {prog : Program} {w : World} {A : Around} {E : Value → Shared → Prop} {Q : Flow → Shared → Prop} {s : Shared} {env : Env} {h₀ : Heap} {x : Str} {body : List Stmt} {m₀ : Str → Option Value} {news : List (Addr × Obj)}
theorem range_loop {r : Addr} {k : Nat} {t u v : Tok} (J : Nat → (Str → Option Value) → List (Addr × Obj) → Prop) (hr : IsRange s.heap r 0 (k : Int) 1 t u v) (hsm : Builtin.Range.small 0 (k : Int) 1 = true) (hrs : Builtin.Range.rangeSize 0 (k : Int) 1 = k)
    (hh : A.handled = none) (F : Fr h₀ env.locals s.heap m₀) (N : News h₀ env.locals s.heap news) (hj : J 0 m₀ news)
    (hJ : ∀ i m n1 n2, J i m n1 → (∀ p ∈ n1, p.2.cls = .type "tuple" → p ∈ n2) → J i m n2)
    (turn : ∀ i t m₁ news₁ h tk, i < k → J i m₁ news₁ → Sub news news₁ → Fr h₀ env.locals h (fun y => if y = x then some (.int ((0 : Int) + (i : Nat) * 1) t) else m₁ y) → News h₀ env.locals h news₁ →
      wpAny (model prog w) A (execs body env) (ForPost h₀ env.locals (J (i + 1)) news₁ { s with heap := h, toks := tk } Q) E { s with heap := h, toks := tk })
    (done : ∀ m₁ news₁ h tk, J k m₁ news₁ → Sub news news₁ → Fr h₀ env.locals h m₁ → News h₀ env.locals h news₁ → Q .next { s with heap := h, toks := tk }) :
    wpAny (model prog w) A (pyIter (.ref r)) (fun it s₂ => LoopAtV prog w A h₀ env x body Q E it s₂) E s := by
  refine wpAny_pyIter_range hr hsm ?_
  rw [hrs]
  refine for_inv J (Walks.range hh s.heap.objs.size 0 1 k) ?_ ?_ ?_ ?_ (F.push _) (fun p hp => ⟨Heap.get?_push_of_some _ (N p hp).1, (N p hp).2⟩) hj ?_ hJ ?_ ?_
  · intro hm
    exact absurd F.ns.lt ((List.mem_singleton.mp hm) ▸ Nat.lt_irrefl _)
  · intro b' hb
    rw [List.mem_singleton.mp hb]
    exact next_is_new F
  · intro p hp hI
    exact absurd (Heap.lt_size (N p hp).1) ((List.mem_singleton.mp hI) ▸ Nat.lt_irrefl _)
  · show IsRangeIter _ _ (0 + ((0 : Nat) : Int) * 1) ((k : Int) - ((0 : Nat) : Int)) 1
    simp only [Int.natCast_zero, Int.zero_mul, Int.add_zero, Int.sub_zero]
    exact Heap.get?_push_size _ rfl
  · rintro i h ho b' hb
    rw [List.mem_singleton.mp hb]
    exact ⟨_, ho, show (Value.type "range_iterator" ≠ Value.type "tuple") by decide⟩
  · rintro i v m₁ news₁ h tk hi ⟨t, rfl⟩ hJ1 hs F₁ N₁
    exact turn i t m₁ news₁ h tk hi hJ1 hs F₁ N₁
  · exact done
end
end Mine
namespace Mine
theorem unpack_vis {prog : Program} {w : World} {A : Around} {E : Value → Shared → Prop} {s : Shared} {env : Env} {h₀ : Heap} {L : Addr} {m : Str → Option Value} {K : Frag} {news : List (Addr × Obj)} {elts : List Expr} {k} {pos : Pos} {t : Addr} {l : List Value} {Q : Unit → Shared → Prop} (F : Fr h₀ L s.heap m) (X : K.In h₀) (N : News h₀ L s.heap news) (v : Vis K news t l)
    (hh : A.handled = none) (hn : (assignEach elts env).length = l.length) (hstar : (assignEach elts env).findIdx? (·.1) = none)
    (h : ∀ h', Fr h₀ L h' m → News h₀ L h' news → wpAny (model prog w) A (assignInOrder ((assignEach elts env).map (·.2)) l) Q E { s with heap := h' }) :
    wpAny (model prog w) A (assign (.Tuple elts k pos) env (.ref t)) Q E s :=
  unpackN_ F N (v.isTup F X N) hh (by simpa using hn) hstar (by simpa using h)
end Mine
namespace Mine
/-- a list that the frame has made -/
noncomputable def VisL (news : List (Addr × Obj)) (a : Addr) (vs : List Value) : Prop := ∃ o n, (a, o) ∈ news ∧ o.cls = .type "list" ∧ o.data = .seq vs.toArray n
theorem VisL.sub {news news' : List (Addr × Obj)} {a : Addr} {vs : List Value} (hs : Sub news news') (h : VisL news a vs) : VisL news' a vs := by
  obtain ⟨o, n, h1, h2⟩ := h
  exact ⟨o, n, hs _ h1, h2⟩
theorem VisL.tail {news : List (Addr × Obj)} {q : Addr × Obj} {a : Addr} {vs : List Value} (h : VisL news a vs) : VisL (q :: news) a vs := h.sub fun _ hp => .tail _ hp
theorem VisL.isList {h₀ h : Heap} {L a : Addr} {news : List (Addr × Obj)} {vs : List Value} (N : News h₀ L h news) (v : VisL news a vs) : h.IsList a vs.toArray := by
  obtain ⟨o, n, h1, h2, h3⟩ := v
  exact ⟨o, (N _ h1).1, h2, n, h3⟩
theorem item_visL {prog : Program} {w : World} {A : Around} {E : Value → Shared → Prop} {s : Shared} {h₀ : Heap} {L : Addr} {news : List (Addr × Obj)} {value slice : Expr} {t : Addr} {l : List Value} {k : Int} {u : Tok} {x : Value} {Q : Value → Shared → Prop}
    (N : News h₀ L s.heap news) (v : VisL news t l) (h0 : 0 ≤ k) (hhi : k < 2 ^ 63) (hx : l[k.toNat]? = some x) (h : Q x s)
    (hs : subscripted slice false (.ref t) (.int k u) = operate [.ref t, .int k u] (getItem (.ref t) (.int k u)) := by with_unfolding_all rfl) :
    wpAny (model prog w) A (subscriptTail value slice (.ref t) (.int k u)) Q E s :=
  tail_any (v.isList N).typeIs slot_list_getitem.lookup (wpAny_getItem_list (v.isList N) h0 hhi (by simpa using hx) h) hs
end Mine
namespace Mine
theorem gen_toks {M : Model} {A : Around} {α : Type} {t : Sem α} {Q : α → Shared → Prop} {E : Value → Shared → Prop} {h g d o} {x : Nat} (k : ∀ tk : Nat, wpAny M A t Q E { heap := h, gens := g, drawn := d, toks := tk, os := o }) : wpAny M A t Q E { heap := h, gens := g, drawn := d, toks := x + 1, os := o } := k _
end Mine
namespace Mine
theorem room_c {dp a r b k : Nat} (h : dp + a < r) (hk : k + b ≤ a) : dp + k + b < r := by omega
theorem units_c {un a b r k : Nat} (h : un + 8 * a < r) (hk : 8 * b + k ≤ 8 * a) : un + k + 8 * b < r := by omega
end Mine
namespace Mine
open PySem.Builtin.Int (intBits)
/-- the expression gives the int v and makes nothing -/
noncomputable def Xv (prog : Program) (w : World) (env : Env) (g : Heap) (L : Addr) (m : Str → Option Value) (news : List (Addr × Obj)) (e : Expr) (v : Int) : Prop :=
  ∀ (A : Around) (E Q : Value → Shared → Prop) (s : Shared), Fr g L s.heap m → News g L s.heap news → (∀ t k, Q (.int v t) { s with toks := k }) → wpAny (model prog w) A (eval e env) Q E s
section
variable {prog : Program} {w : World} {env : Env} {g : Heap} {L : Addr} {m : Str → Option Value} {news : List (Addr × Obj)} {fn : Str} {scope : Scope} {a : Addr} {cd : Value} {K : Frag}
theorem Xv.var {x : Str} {pos : Pos} {v : Int} {t : Tok} (hl : (envOf fn scope L a cd).kindOf x = some .local) (hv : m x = some (.int v t)) (hk : scope.kind = .function) (hd : (x == ("__debug__" : Str)) = false) :
    Xv prog w (envOf fn scope L a cd) g L m news (.Name x pos) v := fun _ _ _ s F _ h => ld F hv (h t s.toks) hk hl hd
theorem Xv.lit {n : Int} {k : Nat} {pos : Pos} : Xv prog w env g L m news (.Constant (.int n) k pos) n := fun _ _ _ _ _ _ h => wpAny_Constant_int (h _ _)
theorem Xv.bin {l r : Expr} {op : Operator} {pos : Pos} {x y v : Int} (h1 : Xv prog w env g L m news l x) (h2 : Xv prog w env g L m news r y)
    (hop : ∀ (A : Around) (E Q : Value → Shared → Prop) (s : Shared) (t u : Tok), (∀ t k, Q (.int v t) { s with toks := k }) → wpAny (model prog w) A (binaryOp op (.int x t) (.int y u)) Q E s) :
    Xv prog w env g L m news (.BinOp l op r pos) v := fun A E Q s F N h => wpAny_BinOp (h1 A E _ s F N fun t k => h2 A E _ _ F N fun u k' => hop A E Q _ t u fun t k => h t k)
variable {l r : Expr} {pos : Pos} {x y : Int}
theorem Xv.add (h1 : Xv prog w env g L m news l x) (h2 : Xv prog w env g L m news r y) : Xv prog w env g L m news (.BinOp l .Add r pos) (x + y) := h1.bin h2 fun _ _ _ _ _ _ h => add_int (h _ _)
theorem Xv.sub (h1 : Xv prog w env g L m news l x) (h2 : Xv prog w env g L m news r y) : Xv prog w env g L m news (.BinOp l .Sub r pos) (x - y) := h1.bin h2 fun _ _ _ _ _ _ h => sub_int (h _ _)
theorem Xv.mul (h1 : Xv prog w env g L m news l x) (h2 : Xv prog w env g L m news r y) (hm : IntMulOk x y) : Xv prog w env g L m news (.BinOp l .Mult r pos) (x * y) := h1.bin h2 fun _ _ _ _ _ _ h => mul_int (h _ _) hm
theorem Xv.mod (h1 : Xv prog w env g L m news l x) (h2 : Xv prog w env g L m news r y) (hy : y ≠ 0) : Xv prog w env g L m news (.BinOp l .Mod r pos) (x.fmod y) := h1.bin h2 fun _ _ _ _ _ _ h => mod_int' hy (h _ _)
theorem Xv.pow (h1 : Xv prog w env g L m news l x) (h2 : Xv prog w env g L m news r y) (hn : 0 ≤ y) (hs : (intBits x : Int) * y ≤ 2 ^ 27) : Xv prog w env g L m news (.BinOp l .Pow r pos) (x ^ y.toNat) := h1.bin h2 fun _ _ _ _ _ _ h => pow_int hn hs (h _ _)
theorem Xv.item {p : Str} {pos1 pos2 pos3 : Pos} {k : Nat} {n : Int} {ad : Addr} {vs : List Value} {v : Int} {t : Tok} {j : Nat} (hl : (envOf fn scope L a cd).kindOf p = some .local) (hp : m p = some (.ref ad)) (X : K.In g) (V : Vis K news ad vs) (hlo : -(2 ^ 63) ≤ n) (hhi : n < 2 ^ 63) (hj : seqIndex? n vs.length = some j) (hx : vs[j]? = some (.int v t))
    (hk : scope.kind = .function) (hd : (p == ("__debug__" : Str)) = false) :
    Xv prog w (envOf fn scope L a cd) g L m news (.Subscript (.Name p pos1) (.Constant (.int n) k pos2) pos3) v :=
  fun A E Q s F N h => Subscript_ (ld F hp (wpAny_Constant_int (item_vis F X N V hlo hhi hj hx (h t _))) hk hl hd)
theorem assign_xv {A : Around} {E : Value → Shared → Prop} {Q : Flow → Shared → Prop} {s : Shared} {x : Str} {pos xpos : Pos} {e : Expr} {rest : List Stmt} {v : Int} (H : Xv prog w (envOf fn scope L a cd) g L m news e v) (F : Fr g L s.heap m) (N : News g L s.heap news)
    (k : ∀ h' t tk, Fr g L h' (fun y => if y = x then some (.int v t) else m y) → News g L h' news → wpAny (model prog w) A (execs rest (envOf fn scope L a cd)) Q E { s with heap := h', toks := tk })
    (hs : swapsWith e (some (.Name x xpos)) pos.line (envOf fn scope L a cd) = pure false) (hk : scope.kind = .function) (hl : (envOf fn scope L a cd).kindOf x = some .local) :
    wpAny (model prog w) A (execs (.Assign [.Name x xpos] e pos :: rest) (envOf fn scope L a cd)) Q E s :=
  wpAny_execs_cons (wpAny_Assign_Name (H _ _ _ _ F N fun t _ => storeX_L (cl := []) F N (fun h' F' N' => k h' t _ F' N') hk hl) hs)
end
theorem PI_ne : (115792089237316195423570985008687907853269984665640564039457584007908834671663 : Int) ≠ 0 := by decide
theorem NI_ne : (115792089237316195423570985008687907852837564279074904382605163141518161494337 : Int) ≠ 0 := by decide
end Mine
local macro_rules | `(tactic| bits_by_make) => `(tactic| first
  | with_reducible assumption
  | with_reducible exact Mine.bitsP
  | with_reducible exact Mine.bitsN
  | with_reducible exact Mine.bits_one
  | ((with_reducible apply intBits_pow_le); bits_by_make))
local macro_rules | `(tactic| walk_at "my vis") => `(tactic| first
  | with_reducible assumption
  | exact Mine.Vis.head
  | ((with_reducible refine' Mine.Vis.tail ?hv); (case hv => walk_at "my vis"))
  | ((with_reducible refine' Mine.Vis.sub ?hw ?hv); (case hw => assumption); (case hv => walk_at "my vis"))
  | (refine' Mine.Vis.ofK ?hk; (case hk => k_is)))
local macro_rules | `(tactic| walk_at "my sub") => `(tactic| first
  | exact Mine.Sub.rfl
  | assumption
  | ((with_reducible refine Mine.Sub.cons ?_); walk_at "my sub")
  | ((with_reducible refine Mine.Sub.trans (by assumption) ?_); walk_at "my sub"))
local macro_rules | `(tactic| walk_at "subscriptTail") => `(tactic| (k_here; (with_reducible show wpAny _ _ (subscriptTail _ _ (Value.ref _) (Value.int _ _)) _ _ _); k_dflt (refine' Mine.item_vis ?F ?X ?N ?v ?a ?b ?c ?d ?_; (case F => k_asm); (case X => k_asm); (case N => k_asm); (case v => walk_at "my vis"); (case a => decide); (case b => decide); (case c => rfl); (case d => rfl); k_whole)))
local macro_rules | `(tactic| walk_at "binaryOp Pow int int") => `(tactic| (k_here; (refine pow_int (by decide) (Mine.pow_ok (by bits_by_make) (by decide) (by decide)) ?_)))
local macro_rules | `(tactic| walk_at "my head") => `(tactic| (
  have _x : (PySem.Challenge.rw_jw0016_01, Mine.K39) = (PySem.Challenge.rw_jw0016_01, Mine.K39) := by (k_fill; rfl)
  clear _x))
local macro_rules | `(tactic| walk_at "exec While Compare cons nil") => `(tactic| (k_here; refine Mine.stop_here ?_))
local macro_rules | `(tactic| walk_at "binaryOp FloorDiv int int") => `(tactic| (k_here; (refine floordiv_int (by first | decide | omega | assumption) ?_ (Or.inl (Mine.noPylong_bits (by bits_by_make) (by decide))))))
local macro_rules | `(tactic| walk_at "my ok") => `(tactic| first
  | with_reducible assumption
  | with_reducible exact Mine.jdbl_B3 _
  | with_reducible exact Mine.jmul_B3 (by with_reducible assumption) _
  | with_reducible exact Mine.fromJac_B2 _
  | ((with_reducible refine' Mine.B3.mk ?h1 ?h2 ?h3); (case h1 => bits_by_make); (case h2 => bits_by_make); (case h3 => bits_by_make))
  | ((with_reducible refine' Mine.B2.mk ?h1 ?h2); (case h1 => bits_by_make); (case h2 => bits_by_make))
  | ((with_reducible refine' Mine.jadd_B3 ?h1 ?h2); (case h1 => walk_at "my ok"); (case h2 => walk_at "my ok"))
  | ((with_reducible refine' Mine.jmul_B3 ?h1 _); (case h1 => walk_at "my ok"))
  | ((with_reducible refine' And.intro ?h1 ?h2); (case h1 => walk_at "my ok"); (case h2 => walk_at "my ok")))
local macro_rules | `(tactic| walk_at "my klt") => `(tactic| first
  | exact Mine.msz_mod (Or.inl (by assumption))
  | exact Mine.msz_mod (Or.inr (by assumption))
  | exact Mine.msz_half' (by assumption) (by assumption) (by assumption) (by assumption))
local macro_rules | `(tactic| walk_at "my enter") => `(tactic| (refine' code_def ?k1 ?k2 ?k3 ?k4 ?k5 ?kA ?kF ?kK ?k6 ?k7 ?k8 ?k9 ?kB ?_ ?c2 ?c3 ?c4 ?c5; (case kA => exact rfl); (case kF => exact rfl); (case kK => first | exact rfl | assumption); (case k1 => k_asm); (case k2 => k_asm); (case k3 => k_asm); (case k4 => k_asm); (case k5 => k_asm); (case k6 => k_is); (case k7 => k_is); (case k8 => ktr_room); (case k9 => exact BindsTo.of_eq rfl); (case c5 => decide); (case kB => exact locs rfl); (case c2 => exact rfl); (case c3 => exact rfl); (case c4 => exact rfl); k_whole; intro g' L' h' FG' F' N' B' X' T'; (try dsimp only); (try k_fold)))
local macro_rules | `(tactic| walk_at "assign Tuple") => `(tactic| (k_here; (with_reducible show wpAny _ _ (assign (Expr.Tuple _ _ _) _ (Value.ref _)) _ _ _); k_dflt (refine' Mine.unpack_vis ?F ?X ?N ?v ?k1 ?k2 ?k3 ?_; (case F => k_asm); (case X => k_asm); (case N => k_asm); (case v => walk_at "my vis"); (case k1 => exact rfl); (case k2 => exact rfl); (case k3 => exact rfl); k_whole); intro h' F' N'; (try k_sweep)))
local macro_rules | `(tactic| walk_at "execs cons") => `(tactic| (k_here; (with_reducible refine Mine.gen_toks ?_); intro tkN))
local macro_rules | `(tactic| walk_at "execs nil") => `(tactic| (k_here; (with_reducible refine Mine.gen_toks ?_); intro tkN))
local macro_rules | `(tactic| walk_at "my prem") => `(tactic| first
  | (fail_if_success (show (_ : Prop)))
  | with_reducible assumption
  | ((with_reducible show Fr _ _ _ _); assumption)
  | ((with_reducible show News _ _ _ _); assumption)
  | ((with_reducible show Below _ _ _ _); assumption)
  | ((with_reducible show Frag.In _ _); assumption)
  | exact rfl
  | walk_at "my vis"
  | walk_at "my vopt"
  | walk_at "my ok"
  | exact Mine.room_c (by assumption) (by decide)
  | exact Mine.units_c (by assumption) (by decide)
  | ((with_reducible show _ < _); first | ktr_room | ktr_units)
  | (intro h0; first | (exfalso; exact absurd h0 (by assumption)) | (intros; (try dsimp only); (try k_fold))))
local macro_rules | `(tactic| walk_at "my xv") => `(tactic| first
  | (fail_if_success (show (_ : Prop)))
  | (with_reducible exact Mine.Xv.lit)
  | ((with_reducible refine' Mine.Xv.add ?_ ?_) <;> walk_at "my xv")
  | ((with_reducible refine' Mine.Xv.sub ?_ ?_) <;> walk_at "my xv")
  | ((with_reducible refine' Mine.Xv.mul ?_ ?_ ?_) <;> walk_at "my xv")
  | ((with_reducible refine' Mine.Xv.mod ?_ ?_ ?_) <;> walk_at "my xv")
  | ((with_reducible refine' Mine.Xv.pow ?_ ?_ ?_ ?_) <;> walk_at "my xv")
  | ((with_reducible refine' Mine.Xv.var ?_ ?_ ?_ ?_) <;> walk_at "my xv")
  | ((with_reducible refine' Mine.Xv.item ?_ ?_ ?_ ?_ ?_ ?_ ?_ ?_ ?_ ?_) <;> walk_at "my xv")
  | ((with_reducible show _ = _); exact rfl)
  | ((fail_if_success (with_reducible show Mine.Xv _ _ _ _ _ _ _ _ _)); (fail_if_success (with_reducible show _ = _)); first
    | (with_reducible exact Mine.PI_ne)
    | (with_reducible exact Mine.NI_ne)
    | (with_reducible exact IntMulOk.of_le (by bits_by_make) (by bits_by_make) (by decide))
    | (with_reducible exact Mine.pow_ok (by bits_by_make) (by decide) (by decide))
    | k_asm
    | walk_at "my vis"
    | decide))
local macro_rules | `(tactic| walk_at "execs cons") => `(tactic| (k_here; (with_reducible show wpAny _ _ (execs (Stmt.Assign [Expr.Name _ _] (Expr.BinOp _ _ _ _) _ :: _) _) _ _ _); (fail_if_success (with_reducible show wpAny _ _ (execs (Stmt.Assign _ (Expr.BinOp _ _ (Expr.Call _ _ _ _) _) _ :: _) _) _ _ _)); (fail_if_success (with_reducible show wpAny _ _ (execs (Stmt.Assign _ (Expr.BinOp (Expr.Call _ _ _ _) _ _ _) _ :: _) _) _ _ _)); k_dflt (refine' Mine.assign_xv ?H ?F ?N ?_ ?a ?b ?c; (case F => k_asm); (case N => k_asm); (case H => walk_at "my xv"); (case a => exact rfl); (case b => exact rfl); (case c => exact rfl); k_whole); intro h' tt' tk' F' N'; (try k_sweep); (try dsimp only); (try k_fold)))
namespace Mine
open PySem.Builtin.Int (intBits)
noncomputable abbrev dblC (K : Frag) : Con (Int × Int × Int) where
  Rel := fun news vs d => ∃ v, vs = [v, .ref 22] ∧ T3 K news v d
  Ok := B3
  size := fun _ => 1
  Out := fun news r d => T3 K news r (jdbl d)

theorem dblR {K : Frag} {news : List (Addr × Obj)} {a : Addr} {X Y Z : Int} {t1 t2 t3 : Tok} (h : Vis K news a [.int X t1, .int Y t2, .int Z t3]) : (dblC K).Rel news [.ref a, .ref 22] (X, Y, Z) := ⟨_, rfl, T3.mk h⟩
theorem dbl {prog : Program} {w : World} {p : Program} {loose : List Str} {mean : ExcName → Option Value} {mg mb : Str → Option Value} : ∀ d, Holds prog w (K39 w.params) p loose mean mg mb 50 (dblC (K39 w.params)) d := by
  walk_at "my head"
  refine holds_of fun d IH => ?_
  unfold Holds
  intro dp un gd cn cs a ccd cl outer A₀ base h₀ L m news s vs Q E B F X N T hk hR hok hd hu hret
  obtain ⟨_, rfl, ja, t1, t2, t3, rfl, V⟩ := hR
  obtain ⟨jX, jY, jZ⟩ := d
  obtain ⟨b1, b2, b3⟩ := hok
  dsimp only at V b1 b2 b3 hd hu
  refine wpAny_call ?_
  k_dflt ktr_enter
  k_steps
  · refine hret _ _ _ _ (by k_asm) (by k_asm) (by walk_at "my sub") ?_
    rename jY ≠ 0 => hy
    simp only [jdbl, if_neg hy]
    exact T3.mk (by walk_at "my vis")
  · refine hret _ _ _ _ (by k_asm) (by k_asm) (by walk_at "my sub") ?_
    rename jY = 0 => hy
    simp only [jdbl, if_pos hy]
    exact T3.mk (by walk_at "my vis")
theorem dbl_use {prog : Program} {w : World} {p : Program} {loose : List Str} {mean : ExcName → Option Value} {mg mb : Str → Option Value} {dp un : Nat} {gd : Option (List Code)} {cn : Str} {cs : Scope} {a : Addr} {ccd : Value} {cl : List (Str × Addr)} {outer : List Env} {A₀ : Around} {base h₀ : Heap} {L : Addr} {m : Str → Option Value} {news : List (Addr × Obj)} {s : Shared} {Q E : Value → Shared → Prop} {j : Addr} {X Y Z : Int} {t1 t2 t3 : Tok} (B : Below A₀ base outer h₀) (F : Fr h₀ L s.heap m) (X0 : (K39 w.params).In h₀) (N : News h₀ L s.heap news) (T : Top p loose mean mg mb h₀) (hk : cs.kind = .function) (V1 : Vis (K39 w.params) news j [.int X t1, .int Y t2, .int Z t3]) (ok : B3 (X, Y, Z)) (hd9 : dp + 1 < recursionLimit) (hu9 : un + 8 * 1 < cLine) (ret : ∀ a9 u1 u2 u3 n' h' k', Fr h₀ L h' m → News h₀ L h' n' → Sub news n' → Vis (K39 w.params) n' a9 [.int (jdbl (X, Y, Z)).1 u1, .int (jdbl (X, Y, Z)).2.1 u2, .int (jdbl (X, Y, Z)).2.2 u3] → Q (.ref a9) { s with heap := h', toks := k' }) :
    wpAny (model prog w) (ktrTop dp un gd cn cs L a ccd cl outer) (call (.ref 50) [.ref j, .ref 22]) Q E s := by
  refine holds_use (dbl (X, Y, Z)) B F X0 N T hk (dblR V1) ok hd9 hu9 fun r n' h' k' F' N' hs ho => ?_
  obtain ⟨a9, u1, u2, u3, e, V9⟩ := ho; subst e; exact ret _ _ _ _ _ _ _ F' N' hs V9
end Mine
namespace Mine
open PySem.Builtin.Int (intBits)
local macro_rules | `(tactic| walk_at "call ref") => `(tactic| (k_here; (with_reducible show wpAny _ _ (PySem.call (Value.ref 50) _) _ _ _); k_dflt (refine' dbl_use ?_ ?_ ?_ ?_ ?_ ?_ ?_ ?_ ?_ ?_ ?_ <;> walk_at "my prem")))
theorem jadd_p {jX jY jZ kX kY kZ : Int} (h : jY = 0) : jadd (jX, jY, jZ) (kX, kY, kZ) = (kX, kY, kZ) := by simp only [jadd, if_pos h]
theorem jadd_q {jX jY jZ kX kY kZ : Int} (h : jY ≠ 0) (h2 : kY = 0) : jadd (jX, jY, jZ) (kX, kY, kZ) = (jX, jY, jZ) := by simp only [jadd, if_neg h, if_pos h2]
theorem jadd_o {jX jY jZ kX kY kZ : Int} (h : jY ≠ 0) (h2 : kY ≠ 0) (hU : (jX * kZ ^ 2).fmod PI = (kX * jZ ^ 2).fmod PI) (hS : (jY * kZ ^ 3).fmod PI ≠ (kY * jZ ^ 3).fmod PI) : jadd (jX, jY, jZ) (kX, kY, kZ) = (0, 0, 1) := by simp only [jadd, if_neg h, if_neg h2, if_pos hU, if_neg hS]
theorem jadd_d {jX jY jZ kX kY kZ : Int} (h : jY ≠ 0) (h2 : kY ≠ 0) (hU : (jX * kZ ^ 2).fmod PI = (kX * jZ ^ 2).fmod PI) (hS : (jY * kZ ^ 3).fmod PI = (kY * jZ ^ 3).fmod PI) : jadd (jX, jY, jZ) (kX, kY, kZ) = jdbl (jX, jY, jZ) := by simp only [jadd, if_neg h, if_neg h2, if_pos hU, if_pos hS]
noncomputable abbrev addC (K : Frag) : Con ((Int × Int × Int) × (Int × Int × Int)) where
  Rel := fun news vs d => ∃ v u, vs = [v, u, .ref 22] ∧ T3 K news v d.1 ∧ T3 K news u d.2
  Ok := fun d => B3 d.1 ∧ B3 d.2
  size := fun _ => 2
  Out := fun news r d => T3 K news r (jadd d.1 d.2)

theorem addR {K : Frag} {news : List (Addr × Obj)} {a b : Addr} {X Y Z X' Y' Z' : Int} {t1 t2 t3 u1 u2 u3 : Tok} (h : Vis K news a [.int X t1, .int Y t2, .int Z t3]) (h' : Vis K news b [.int X' u1, .int Y' u2, .int Z' u3]) : (addC K).Rel news [.ref a, .ref b, .ref 22] ((X, Y, Z), (X', Y', Z')) := ⟨_, _, rfl, T3.mk h, T3.mk h'⟩
theorem add3 {prog : Program} {w : World} {p : Program} {loose : List Str} {mean : ExcName → Option Value} {mg mb : Str → Option Value} : ∀ d, Holds prog w (K39 w.params) p loose mean mg mb 57 (addC (K39 w.params)) d := by
  walk_at "my head"
  refine holds_of fun d IH => ?_
  clear IH
  unfold Holds
  intro dp un gd cn cs a ccd cl outer A₀ base h₀ L m news s vs Q E B F X N T hk hR hok hd hu hret
  obtain ⟨_, _, rfl, ⟨ja, t1, t2, t3, rfl, V⟩, ⟨ka, u1, u2, u3, rfl, W⟩⟩ := hR
  obtain ⟨⟨jX, jY, jZ⟩, ⟨kX, kY, kZ⟩⟩ := d
  obtain ⟨⟨b1, b2, b3⟩, ⟨c1, c2, c3⟩⟩ := hok
  dsimp only at V W b1 b2 b3 c1 c2 c3 hd hu
  refine wpAny_call ?_
  k_dflt ktr_enter
  k_steps
  all_goals refine hret _ _ _ _ (by k_asm) (by k_asm) (by walk_at "my sub") ?_
  all_goals show T3 _ _ _ (jadd (jX, jY, jZ) (kX, kY, kZ))
  · rw [jadd_o (by assumption) (by assumption) (by assumption) (by assumption)]
    exact T3.mk (by walk_at "my vis")
  · rw [jadd_d (by assumption) (by assumption) (by assumption) (by assumption)]
    exact ⟨_, _, _, _, rfl, by walk_at "my vis"⟩
  · rename _ ≠ _ => hU
    simp only [jadd, if_neg (show jY ≠ 0 by assumption), if_neg (show kY ≠ 0 by assumption), if_neg (show ¬ (jX * kZ ^ 2).fmod PI = (kX * jZ ^ 2).fmod PI from hU)]
    exact T3.mk (by walk_at "my vis")
  · rw [jadd_q (by assumption) (by assumption)]
    exact T3.mk (by walk_at "my vis")
  · rw [jadd_p (by assumption)]
    exact T3.mk (by walk_at "my vis")
theorem add3_use {prog : Program} {w : World} {p : Program} {loose : List Str} {mean : ExcName → Option Value} {mg mb : Str → Option Value} {dp un : Nat} {gd : Option (List Code)} {cn : Str} {cs : Scope} {a : Addr} {ccd : Value} {cl : List (Str × Addr)} {outer : List Env} {A₀ : Around} {base h₀ : Heap} {L : Addr} {m : Str → Option Value} {news : List (Addr × Obj)} {s : Shared} {Q E : Value → Shared → Prop} {j k : Addr} {X Y Z : Int} {t1 t2 t3 : Tok} {X' Y' Z' : Int} {t1' t2' t3' : Tok} (B : Below A₀ base outer h₀) (F : Fr h₀ L s.heap m) (X0 : (K39 w.params).In h₀) (N : News h₀ L s.heap news) (T : Top p loose mean mg mb h₀) (hk : cs.kind = .function) (V1 : Vis (K39 w.params) news j [.int X t1, .int Y t2, .int Z t3]) (V2 : Vis (K39 w.params) news k [.int X' t1', .int Y' t2', .int Z' t3']) (ok : B3 (X, Y, Z) ∧ B3 (X', Y', Z')) (hd9 : dp + 2 < recursionLimit) (hu9 : un + 8 * 2 < cLine) (ret : ∀ a9 u1 u2 u3 n' h' k', Fr h₀ L h' m → News h₀ L h' n' → Sub news n' → Vis (K39 w.params) n' a9 [.int (jadd (X, Y, Z) (X', Y', Z')).1 u1, .int (jadd (X, Y, Z) (X', Y', Z')).2.1 u2, .int (jadd (X, Y, Z) (X', Y', Z')).2.2 u3] → Q (.ref a9) { s with heap := h', toks := k' }) :
    wpAny (model prog w) (ktrTop dp un gd cn cs L a ccd cl outer) (call (.ref 57) [.ref j, .ref k, .ref 22]) Q E s := by
  refine holds_use (add3 ((X, Y, Z), (X', Y', Z'))) B F X0 N T hk (addR V1 V2) ok hd9 hu9 fun r n' h' k' F' N' hs ho => ?_
  obtain ⟨a9, u1, u2, u3, e, V9⟩ := ho; subst e; exact ret _ _ _ _ _ _ _ F' N' hs V9
end Mine
namespace Mine
open PySem.Builtin.Int (intBits)
noncomputable def invJ (a n : Int) (news : List (Addr × Obj)) (k : Nat) (m₁ : Str → Option Value) (news₁ : List (Addr × Obj)) : Prop :=
  ∃ lm hm low high t1 t2 t3 t4 t5, m₁ (Str.ofString "lm") = some (.int lm t1) ∧ m₁ (Str.ofString "hm") = some (.int hm t2) ∧ m₁ (Str.ofString "low") = some (.int low t3) ∧ m₁ (Str.ofString "high") = some (.int high t4) ∧ m₁ (Str.ofString "n") = some (.int n t5) ∧
    Sub news news₁ ∧ k = low.toNat ∧ 0 ≤ low ∧ low < high ∧ high ≤ n ∧ lm.natAbs * high.natAbs + hm.natAbs * low.natAbs ≤ n.natAbs ∧ invLoop lm hm low high = invLoop 1 0 (a.fmod n) n
theorem bits_le_of {a n : Int} {k : Nat} (hn : intBits n ≤ k) (h : a.natAbs ≤ n.natAbs) : intBits a ≤ k := bits_of_natAbs_le h hn
theorem inv_step {lm hm low high n : Int} (l0 : 0 ≤ low) (h0 : 0 < high) (hl : 1 < low) (l3 : lm.natAbs * high.natAbs + hm.natAbs * low.natAbs ≤ n.natAbs) :
    (hm - lm * high.fdiv low).natAbs * low.natAbs + lm.natAbs * (high - low * high.fdiv low).natAbs ≤ n.natAbs := by
  have f := fdiv_fmod_facts high low
  have f2 := f.2.2.1 (by omega)
  have q0 : 0 ≤ high.fdiv low := Int.fdiv_nonneg (by omega) (by omega)
  have e : low * high.fdiv low = high.fdiv low * low := Int.mul_comm _ _
  have e1 : (high - low * high.fdiv low).natAbs = (high.fmod low).natAbs := by
    have : high - low * high.fdiv low = high.fmod low := by omega
    rw [this]
  have e2 : high.natAbs = (high.fdiv low).natAbs * low.natAbs + (high.fmod low).natAbs := by
    have h1 : high = ((high.fdiv low).natAbs * low.natAbs + (high.fmod low).natAbs : Nat) := by
      rw [Int.natCast_add, Int.natCast_mul, Int.natAbs_of_nonneg q0, Int.natAbs_of_nonneg l0, Int.natAbs_of_nonneg f2.1]
      exact f.1.symm
    omega
  have e3 : (hm - lm * high.fdiv low).natAbs ≤ hm.natAbs + lm.natAbs * (high.fdiv low).natAbs := by
    have := Int.natAbs_sub_le hm (lm * high.fdiv low)
    rw [Int.natAbs_mul] at this
    exact this
  rw [e1]
  rw [e2] at l3
  have k1 : (hm - lm * high.fdiv low).natAbs * low.natAbs ≤ (hm.natAbs + lm.natAbs * (high.fdiv low).natAbs) * low.natAbs := Nat.mul_le_mul_right _ e3
  rw [Nat.add_mul, Nat.mul_assoc] at k1
  rw [Nat.mul_add] at l3
  omega
noncomputable abbrev invC : Con (Int × Int) where
  Rel := fun _ vs d => ∃ t u, vs = [.int d.1 t, .int d.2 u]
  Ok := fun d => 1 < d.2 ∧ intBits d.2 ≤ 300
  size := fun _ => 1
  Out := fun _ r d => ∃ t, r = .int (invF d.1 d.2) t

theorem invW {prog : Program} {w : World} {p : Program} {loose : List Str} {mean : ExcName → Option Value} {mg mb : Str → Option Value} : ∀ d, Holds prog w (K39 w.params) p loose mean mg mb 36 invC d := by
  walk_at "my head"
  refine holds_of fun d IH => ?_
  clear IH
  unfold Holds
  intro dp un gd cn cs a ccd cl outer A₀ base h₀ L m news s vs Q E B F X N T hk hR hok hd hu hret
  obtain ⟨t, u, rfl⟩ := hR
  obtain ⟨ja, jn⟩ := d
  obtain ⟨b1, b2⟩ := hok
  dsimp only at b1 b2 hd hu
  refine wpAny_call ?_
  k_dflt ktr_enter
  k_steps
  · refine hret _ _ _ _ (by k_asm) (by k_asm) (by walk_at "my sub") ?_
    rename ja = 0 => h0
    exact ⟨_, congrArg (fun x => Value.int x _) (show 0 = invF ja jn by rw [invF, if_pos h0])⟩
  · refine ⟨?_⟩
    rename ja ≠ 0 => h0
    rename Fr _ _ _ _ => F1
    rename News _ _ _ _ => N1
    have hf := fdiv_fmod_facts ja jn
    have hf2 := hf.2.2.1 (by omega)
    refine While_inv2 (invJ ja jn news) F1 N1 (n₀ := (ja.fmod jn).toNat) ?_ ?_
    · exact ⟨_, _, _, _, _, _, _, _, _, rfl, rfl, rfl, rfl, rfl, by walk_at "my sub", rfl, hf2.1, hf2.2, Int.le_refl _, by simp, rfl⟩
    · clear F1 N1
      intro k m₁ news₁ h₁ tk₁ F₁ N₁ hJ
      obtain ⟨lm, hm, low, high, t1, t2, t3, t4, t5, e1, e2, e3, e4, e5, hs, hk0, l0, l1, l2, l3, l4⟩ := hJ
      have F₁ := fr_set (x := Str.ofString "lm") (v := .int lm t1) e1 F₁
      have F₁ := fr_set (x := Str.ofString "hm") (v := .int hm t2) (by with_unfolding_all exact e2) F₁
      have F₁ := fr_set (x := Str.ofString "low") (v := .int low t3) (by with_unfolding_all exact e3) F₁
      have F₁ := fr_set (x := Str.ofString "high") (v := .int high t4) (by with_unfolding_all exact e4) F₁
      have F₁ := fr_set (x := Str.ofString "n") (v := .int jn t5) (by with_unfolding_all exact e5) F₁
      clear e1 e2 e3 e4 e5
      have c1 : intBits lm ≤ 300 := bits_le_of b2 (by
        have : lm.natAbs * 1 ≤ lm.natAbs * high.natAbs := Nat.mul_le_mul_left _ (by omega)
        omega)
      have c2 : intBits high ≤ 300 := bits_le_of b2 (by omega)
      have c3 : intBits low ≤ 300 := bits_le_of b2 (by omega)
      try k_fold
      k_steps
      · rename 1 < low => hl
        have fh := fdiv_fmod_facts high low
        have fh2 := fh.2.2.1 (by omega)
        have e : low * high.fdiv low = high.fdiv low * low := Int.mul_comm _ _
        refine ⟨_, _, _, _, (high - low * high.fdiv low).toNat, rfl, (by k_asm), (by k_asm), by omega, ?_⟩
        refine ⟨hm - lm * high.fdiv low, lm, high - low * high.fdiv low, low, _, _, _, _, _, rfl, rfl, rfl, rfl, rfl, by walk_at "my sub", rfl, by omega, by omega, by omega, ?_, ?_⟩
        · exact inv_step l0 (by omega) hl l3
        · rw [← l4]
          conv => rhs; rw [invLoop]
          rw [dif_pos hl]
      · rename ¬ 1 < low => hl
        refine hret _ _ _ _ (by k_asm) (by k_asm) (by walk_at "my sub") ?_
        refine ⟨_, congrArg (fun x => Value.int x _) ?_⟩
        show lm.fmod jn = invF ja jn
        rw [invF, if_neg h0, ← l4, invLoop, dif_neg hl]
end Mine
namespace Mine
open PySem.Builtin.Int (intBits)
theorem invOkP {a : Int} : invC.Ok (a, 115792089237316195423570985008687907853269984665640564039457584007908834671663) := ⟨show (1 : Int) < 115792089237316195423570985008687907853269984665640564039457584007908834671663 by decide, bitsP3⟩
theorem invOkN {a : Int} : invC.Ok (a, 115792089237316195423570985008687907852837564279074904382605163141518161494337) := ⟨show (1 : Int) < 115792089237316195423570985008687907852837564279074904382605163141518161494337 by decide, bitsN3⟩
theorem invR {news : List (Addr × Obj)} {a n : Int} {t u : Tok} : invC.Rel news [.int a t, .int n u] (a, n) := ⟨t, u, rfl⟩
theorem invP_use {prog : Program} {w : World} {p : Program} {loose : List Str} {mean : ExcName → Option Value} {mg mb : Str → Option Value} {dp un : Nat} {gd : Option (List Code)} {cn : Str} {cs : Scope} {a : Addr} {ccd : Value} {cl : List (Str × Addr)} {outer : List Env} {A₀ : Around} {base h₀ : Heap} {L : Addr} {m : Str → Option Value} {news : List (Addr × Obj)} {s : Shared} {Q E : Value → Shared → Prop} {x : Int} {t1 t2 : Tok} (B : Below A₀ base outer h₀) (F : Fr h₀ L s.heap m) (X0 : (K39 w.params).In h₀) (N : News h₀ L s.heap news) (T : Top p loose mean mg mb h₀) (hk : cs.kind = .function) (hd9 : dp + 1 < recursionLimit) (hu9 : un + 8 * 1 < cLine) (ret : ∀ u1 n' h' k', Fr h₀ L h' m → News h₀ L h' n' → Sub news n' → Q (.int (invF x PI) u1) { s with heap := h', toks := k' }) :
    wpAny (model prog w) (ktrTop dp un gd cn cs L a ccd cl outer) (call (.ref 36) [.int x t1, .int 115792089237316195423570985008687907853269984665640564039457584007908834671663 t2]) Q E s := by
  refine holds_use (invW (x, PI)) B F X0 N T hk invR invOkP hd9 hu9 fun r n' h' k' F' N' hs ho => ?_
  obtain ⟨u1, e⟩ := ho; subst e; exact ret _ _ _ _ F' N' hs
theorem invN_use {prog : Program} {w : World} {p : Program} {loose : List Str} {mean : ExcName → Option Value} {mg mb : Str → Option Value} {dp un : Nat} {gd : Option (List Code)} {cn : Str} {cs : Scope} {a : Addr} {ccd : Value} {cl : List (Str × Addr)} {outer : List Env} {A₀ : Around} {base h₀ : Heap} {L : Addr} {m : Str → Option Value} {news : List (Addr × Obj)} {s : Shared} {Q E : Value → Shared → Prop} {x : Int} {t1 t2 : Tok} (B : Below A₀ base outer h₀) (F : Fr h₀ L s.heap m) (X0 : (K39 w.params).In h₀) (N : News h₀ L s.heap news) (T : Top p loose mean mg mb h₀) (hk : cs.kind = .function) (hd9 : dp + 1 < recursionLimit) (hu9 : un + 8 * 1 < cLine) (ret : ∀ u1 n' h' k', Fr h₀ L h' m → News h₀ L h' n' → Sub news n' → Q (.int (invF x NI) u1) { s with heap := h', toks := k' }) :
    wpAny (model prog w) (ktrTop dp un gd cn cs L a ccd cl outer) (call (.ref 36) [.int x t1, .int 115792089237316195423570985008687907852837564279074904382605163141518161494337 t2]) Q E s := by
  refine holds_use (invW (x, NI)) B F X0 N T hk invR invOkN hd9 hu9 fun r n' h' k' F' N' hs ho => ?_
  obtain ⟨u1, e⟩ := ho; subst e; exact ret _ _ _ _ F' N' hs
local macro_rules | `(tactic| walk_at "call ref") => `(tactic| (k_here; (with_reducible show wpAny _ _ (PySem.call (Value.ref 36) _) _ _ _); k_dflt (refine' invP_use ?_ ?_ ?_ ?_ ?_ ?_ ?_ ?_ ?_ <;> walk_at "my prem")))
local macro_rules | `(tactic| walk_at "call ref") => `(tactic| (k_here; (with_reducible show wpAny _ _ (PySem.call (Value.ref 36) _) _ _ _); k_dflt (refine' invN_use ?_ ?_ ?_ ?_ ?_ ?_ ?_ ?_ ?_ <;> walk_at "my prem")))
noncomputable abbrev fromC (K : Frag) : Con (Int × Int × Int) where
  Rel := fun news vs d => ∃ v, vs = [v, .ref 22] ∧ T3 K news v d
  Ok := B3
  size := fun _ => 2
  Out := fun news r d => T2 K news r (fromJac d)
theorem fromR {K : Frag} {news : List (Addr × Obj)} {a : Addr} {X Y Z : Int} {t1 t2 t3 : Tok} (h : Vis K news a [.int X t1, .int Y t2, .int Z t3]) : (fromC K).Rel news [.ref a, .ref 22] (X, Y, Z) := ⟨_, rfl, T3.mk h⟩
local macro_rules | `(tactic| bits_by_make) => `(tactic| exact invF_bits _ (by decide) bitsP3)

theorem fromW {prog : Program} {w : World} {p : Program} {loose : List Str} {mean : ExcName → Option Value} {mg mb : Str → Option Value} : ∀ d, Holds prog w (K39 w.params) p loose mean mg mb 64 (fromC (K39 w.params)) d := by
  walk_at "my head"
  refine holds_of fun d IH => ?_
  clear IH
  unfold Holds
  intro dp un gd cn cs a ccd cl outer A₀ base h₀ L m news s vs Q E B F X N T hk hR hok hd hu hret
  obtain ⟨jX, jY, jZ⟩ := d
  obtain ⟨b1, b2, b3⟩ := hok
  dsimp only [fromC] at hR b1 b2 b3 hd hu
  obtain ⟨_, rfl, ja, t1, t2, t3, rfl, V⟩ := hR
  dsimp only at V
  refine wpAny_call ?_
  k_dflt ktr_enter
  k_steps
  all_goals refine hret _ _ _ _ (by k_asm) (by k_asm) (by walk_at "my sub") ?_
  exact T2.mk (by walk_at "my vis")
theorem frm_use {prog : Program} {w : World} {p : Program} {loose : List Str} {mean : ExcName → Option Value} {mg mb : Str → Option Value} {dp un : Nat} {gd : Option (List Code)} {cn : Str} {cs : Scope} {a : Addr} {ccd : Value} {cl : List (Str × Addr)} {outer : List Env} {A₀ : Around} {base h₀ : Heap} {L : Addr} {m : Str → Option Value} {news : List (Addr × Obj)} {s : Shared} {Q E : Value → Shared → Prop} {j : Addr} {X Y Z : Int} {t1 t2 t3 : Tok} (B : Below A₀ base outer h₀) (F : Fr h₀ L s.heap m) (X0 : (K39 w.params).In h₀) (N : News h₀ L s.heap news) (T : Top p loose mean mg mb h₀) (hk : cs.kind = .function) (V1 : Vis (K39 w.params) news j [.int X t1, .int Y t2, .int Z t3]) (ok : B3 (X, Y, Z)) (hd9 : dp + 2 < recursionLimit) (hu9 : un + 8 * 2 < cLine) (ret : ∀ a9 u1 u2 n' h' k', Fr h₀ L h' m → News h₀ L h' n' → Sub news n' → Vis (K39 w.params) n' a9 [.int (fromJac (X, Y, Z)).1 u1, .int (fromJac (X, Y, Z)).2 u2] → Q (.ref a9) { s with heap := h', toks := k' }) :
    wpAny (model prog w) (ktrTop dp un gd cn cs L a ccd cl outer) (call (.ref 64) [.ref j, .ref 22]) Q E s := by
  refine holds_use (fromW (X, Y, Z)) B F X0 N T hk (fromR V1) ok hd9 hu9 fun r n' h' k' F' N' hs ho => ?_
  obtain ⟨a9, u1, u2, e, V9⟩ := ho; subst e; exact ret _ _ _ _ _ _ F' N' hs V9
end Mine
namespace Mine
open PySem.Builtin.Int (intBits)
local macro_rules | `(tactic| walk_at "call ref") => `(tactic| (k_here; (with_reducible show wpAny _ _ (PySem.call (Value.ref 57) _) _ _ _); k_dflt (refine' add3_use ?_ ?_ ?_ ?_ ?_ ?_ ?_ ?_ ?_ ?_ ?_ ?_ <;> walk_at "my prem")))
local macro_rules | `(tactic| walk_at "call ref") => `(tactic| (k_here; (with_reducible show wpAny _ _ (PySem.call (Value.ref 50) _) _ _ _); k_dflt (refine' dbl_use ?_ ?_ ?_ ?_ ?_ ?_ ?_ ?_ ?_ ?_ ?_ <;> walk_at "my prem")))
noncomputable abbrev mulC (K : Frag) : Con ((Int × Int × Int) × Int) where
  Rel := fun news vs d => ∃ v t, vs = [v, .int d.2 t, .ref 22] ∧ T3 K news v d.1
  Ok := fun d => B3 d.1
  size := fun d => msz d.2
  Out := fun news r d => T3 K news r (jmul d.1 d.2)
theorem mulR {K : Frag} {news : List (Addr × Obj)} {a : Addr} {X Y Z n : Int} {t t1 t2 t3 : Tok} (h : Vis K news a [.int X t1, .int Y t2, .int Z t3]) : (mulC K).Rel news [.ref a, .int n t, .ref 22] ((X, Y, Z), n) := ⟨_, t, rfl, T3.mk h⟩

local macro_rules | `(tactic| walk_at "call ref") => `(tactic| (k_here; (with_reducible show wpAny _ _ (PySem.call (Value.ref 71) _) _ _ _); k_dflt (refine' holds_use ((show ∀ d' : (Int × Int × Int) × Int, msz d'.2 < _ → Holds _ _ _ _ _ _ _ _ 71 (mulC _) d' by assumption) ((_, _, _), _) ?klt) ?k1 ?k2 ?k3 ?k4 ?k5 ?kK ?kR ?ko ?kd ?ku ?_; (case k1 => k_asm); (case k2 => k_asm); (case k3 => k_asm); (case k4 => k_asm); (case k5 => k_asm); (case kK => first | exact rfl | assumption); (case kR => (refine' mulR ?hh; (case hh => walk_at "my vis"))); (case ko => walk_at "my ok"); (case kd => exact room_of (by assumption) (by walk_at "my klt") (by decide)); (case klt => walk_at "my klt"); (case ku => exact units_of (by assumption) (by walk_at "my klt") (by decide))); intro r9 news9 h9 tk9 F9 N9 hs9 ho9; (obtain ⟨a9, t9, u9, w9, e9, V9⟩ := ho9); subst e9; (try dsimp only); (try k_fold)))
theorem mulW {prog : Program} {w : World} {p : Program} {loose : List Str} {mean : ExcName → Option Value} {mg mb : Str → Option Value} : ∀ d, Holds prog w (K39 w.params) p loose mean mg mb 71 (mulC (K39 w.params)) d := by
  walk_at "my head"
  refine holds_of fun d IH => ?_
  unfold Holds
  intro dp un gd cn cs a ccd cl outer A₀ base h₀ L m news s vs Q E B F X N T hk hR hok hd hu hret
  obtain ⟨⟨jX, jY, jZ⟩, jn⟩ := d
  dsimp only [mulC] at hR hok hd hu IH
  obtain ⟨_, t, rfl, ja, t1, t2, t3, rfl, V⟩ := hR
  dsimp only at V
  have hz := msz_ge jn
  refine wpAny_call ?_
  k_dflt ktr_enter
  k_steps
  all_goals try (refine hret _ _ _ _ (by k_asm) (by k_asm) (by walk_at "my sub") ?_)
  all_goals try show T3 _ _ _ (jmul (jX, jY, jZ) jn)
  · rw [jmul_y (by assumption)]; exact T3.mk (by walk_at "my vis")
  · rw [jmul_0 (by assumption)]; exact T3.mk (by walk_at "my vis")
  · rw [jmul_1 (by assumption) (by assumption)]; exact T3.mk (by walk_at "my vis")
  · rw [← jmul_mod]; exact ⟨_, _, _, _, rfl, by walk_at "my vis"⟩
  · rw [← jmul_mod]; exact ⟨_, _, _, _, rfl, by walk_at "my vis"⟩
  · rw [jmul_even (by assumption) (by assumption) (by assumption) (Int.not_lt.mp (by assumption)) (Int.not_le.mp (by assumption)) (by assumption)]; exact ⟨_, _, _, _, rfl, by walk_at "my vis"⟩
  · rw [jmul_odd (by assumption) (by assumption) (by assumption) (Int.not_lt.mp (by assumption)) (Int.not_le.mp (by assumption)) (by assumption)]; exact ⟨_, _, _, _, rfl, by walk_at "my vis"⟩
  · exfalso
    have f := (fdiv_fmod_facts jn 2).2.2.1 (by decide)
    rename ¬ jn.fmod 2 = 1 => h1
    rename ¬ jn.fmod 2 = 0 => h0
    omega
theorem mul_use {prog : Program} {w : World} {p : Program} {loose : List Str} {mean : ExcName → Option Value} {mg mb : Str → Option Value} {dp un : Nat} {gd : Option (List Code)} {cn : Str} {cs : Scope} {a : Addr} {ccd : Value} {cl : List (Str × Addr)} {outer : List Env} {A₀ : Around} {base h₀ : Heap} {L : Addr} {m : Str → Option Value} {news : List (Addr × Obj)} {s : Shared} {Q E : Value → Shared → Prop} {j : Addr} {n : Int} {tn : Tok} {X Y Z : Int} {t1 t2 t3 : Tok} (B : Below A₀ base outer h₀) (F : Fr h₀ L s.heap m) (X0 : (K39 w.params).In h₀) (N : News h₀ L s.heap news) (T : Top p loose mean mg mb h₀) (hk : cs.kind = .function) (V1 : Vis (K39 w.params) news j [.int X t1, .int Y t2, .int Z t3]) (ok : B3 (X, Y, Z)) (hd9 : dp + 270 < recursionLimit) (hu9 : un + 8 * 270 < cLine) (ret : ∀ a9 u1 u2 u3 n' h' k', Fr h₀ L h' m → News h₀ L h' n' → Sub news n' → Vis (K39 w.params) n' a9 [.int (jmul (X, Y, Z) n).1 u1, .int (jmul (X, Y, Z) n).2.1 u2, .int (jmul (X, Y, Z) n).2.2 u3] → Q (.ref a9) { s with heap := h', toks := k' }) :
    wpAny (model prog w) (ktrTop dp un gd cn cs L a ccd cl outer) (call (.ref 71) [.ref j, .int n tn, .ref 22]) Q E s := by
  refine holds_use (mulW ((X, Y, Z), n)) B F X0 N T hk (mulR V1) ok (Nat.lt_of_le_of_lt (Nat.add_le_add_left (msz_le _) _) hd9) (Nat.lt_of_le_of_lt (Nat.add_le_add_left (Nat.mul_le_mul_left _ (msz_le _)) _) hu9) fun r n' h' k' F' N' hs ho => ?_
  obtain ⟨a9, u1, u2, u3, e, V9⟩ := ho; subst e; exact ret _ _ _ _ _ _ _ F' N' hs V9
end Mine
namespace Mine
open PySem.Builtin.Int (intBits)
local macro_rules | `(tactic| walk_at "exec For Name Name cons nil") => `(tactic| (k_here; refine Mine.stop_here ?_))
local macro_rules | `(tactic| walk_at "call ref") => `(tactic| (k_here; (with_reducible show wpAny _ _ (PySem.call (Value.ref 21) _) _ _ _); refine wpAny_call ?_; k_dflt (walk_at "my enter")))
noncomputable abbrev b2iC : Con (Array UInt8) where
  Rel := fun _ vs d => ∃ t, vs = [.bytes d t]
  Ok := fun d => d.size ≤ 64
  size := fun _ => 2
  Out := fun _ r d => ∃ t, r = .int (bytesInt d) t
theorem b2iR {news : List (Addr × Obj)} {d : Array UInt8} {t : Tok} : b2iC.Rel news [.bytes d t] d := ⟨t, rfl⟩
noncomputable def b2iJ (b : Array UInt8) (i : Nat) (m : Str → Option Value) (_ : List (Addr × Obj)) : Prop := ∃ t, m (Str.ofString "o") = some (.int (bytesUp b i) t)

theorem b2iW {prog : Program} {w : World} {p : Program} {loose : List Str} {mean : ExcName → Option Value} {mg mb : Str → Option Value} : ∀ d, Holds prog w (K39 w.params) p loose mean mg mb 29 b2iC d := by
  walk_at "my head"
  refine holds_of fun d IH => ?_
  clear IH
  unfold Holds
  intro dp un gd cn cs a ccd cl outer A₀ base h₀ L m news s vs Q E B F X N T hk hR hok hd hu hret
  dsimp only [b2iC] at hR hok hd hu
  obtain ⟨t, rfl⟩ := hR
  refine wpAny_call ?_
  k_dflt ktr_enter
  k_steps
  refine ⟨?_⟩
  rename Fr _ _ _ _ => F1
  rename News _ _ _ _ => N1
  with_unfolding_all refine' For_invVF F1 ?k1 ?k2 ?_
  case k1 => exact rfl
  case k2 => exact rfl
  walk1
  refine bytes_loop (b2iJ d) rfl F1 N1 ⟨_, rfl⟩ ?hJ ?turn ?done
  case hJ =>
    rintro i m n1 n2 h _
    exact h
  case turn =>
    clear F1 N1
    rintro i c t m₁ news₁ h₁ tk₁ hc ⟨to, e1⟩ hs F₁ N₁
    have F₁ := fr_set (x := Str.ofString "o") (v := .int (bytesUp d i) to) (by with_unfolding_all exact e1) F₁
    have hi : i < d.size := by
      rcases Nat.lt_or_ge i d.size with h | h
      · exact h
      · rw [Array.getElem?_eq_none h] at hc; cases hc
    have hb : intBits (bytesUp d i) ≤ 600 := bytesUp_bits d (by omega)
    clear e1
    try k_fold
    k_steps
    refine ⟨_, _, _, _, rfl, (by k_asm), (by k_asm), by walk_at "my sub", ?_⟩
    unfold b2iJ
    rw [bytesUp_succ hc]
    exact ⟨_, by with_unfolding_all rfl⟩
  case done =>
    clear F1 N1
    rintro m₁ news₁ h₁ tk₁ ⟨to, e1⟩ hs F₁ N₁
    have F₁ := fr_set (x := Str.ofString "o") (v := .int (bytesUp d d.size) to) (by with_unfolding_all exact e1) F₁
    clear e1
    try k_fold
    k_steps
    refine hret _ _ _ _ (by k_asm) (by k_asm) (by walk_at "my sub") ?_
    exact ⟨_, by rw [bytesUp_all]⟩
theorem b2i_use {prog : Program} {w : World} {p : Program} {loose : List Str} {mean : ExcName → Option Value} {mg mb : Str → Option Value} {dp un : Nat} {gd : Option (List Code)} {cn : Str} {cs : Scope} {a : Addr} {ccd : Value} {cl : List (Str × Addr)} {outer : List Env} {A₀ : Around} {base h₀ : Heap} {L : Addr} {m : Str → Option Value} {news : List (Addr × Obj)} {s : Shared} {Q E : Value → Shared → Prop} {b : Array UInt8} {t1 : Tok} (B : Below A₀ base outer h₀) (F : Fr h₀ L s.heap m) (X0 : (K39 w.params).In h₀) (N : News h₀ L s.heap news) (T : Top p loose mean mg mb h₀) (hk : cs.kind = .function) (ok : b.size ≤ 64) (hd9 : dp + 2 < recursionLimit) (hu9 : un + 8 * 2 < cLine) (ret : ∀ u1 n' h' k', Fr h₀ L h' m → News h₀ L h' n' → Sub news n' → Q (.int (bytesInt b) u1) { s with heap := h', toks := k' }) :
    wpAny (model prog w) (ktrTop dp un gd cn cs L a ccd cl outer) (call (.ref 29) [.bytes b t1]) Q E s := by
  refine holds_use (b2iW b) B F X0 N T hk b2iR ok hd9 hu9 fun r n' h' k' F' N' hs ho => ?_
  obtain ⟨u1, e⟩ := ho; subst e; exact ret _ _ _ _ F' N' hs
end Mine
namespace Mine
open PySem.Builtin.Int (intBits)
theorem kind_pow : builtinKind "pow" = none := by decide +kernel
theorem plain_pow : plainId "pow" = true := by decide +kernel
theorem entry_pow : entryFor table "pow" = some Builtin.«pow» := entryFor_of_fast (by kernel_rfl)
theorem args_pow (a b c : Value) : argsOk "pow" ⟨[a, b, c], []⟩ := by unfold argsOk; kernel_rfl
theorem args_intpow3 (a b c : Value) : argsOk "int.__pow__" ⟨[a, b, c], []⟩ := by unfold argsOk; kernel_rfl
noncomputable def powZ (b e m : Int) : Int := ((Builtin.powMod (b % m).toNat e.natAbs m.natAbs : Nat) : Int)
section
variable {prog : Program} {w : World} {A : Around} {E : Value → Shared → Prop} {s : Shared} {b e m : Int} {t u v : Tok} {Q : Value → Shared → Prop}
theorem pow3_slot (he : 0 ≤ e) (hm : 1 < m) (h : Q (.int (powZ b e m) s.toks) { s with toks := s.toks + 1 }) :
    wpAny (model prog w) A (call (.builtin "int.__pow__") [.int b t, .int e u, .int m v]) (fun v s' => v ≠ .notImplemented ∧ Q v s') E s := by
  refine wpAny_call_entry slot_int_pow (typeIs_int s b t) entry_int_pow ?_ (args_intpow3 _ _ _)
  have hm0 : m ≠ 0 := by omega
  have hma : m.natAbs ≠ 1 := by omega
  have hmn : ((m.natAbs : Nat) : Int) = m := by omega
  show wpAny _ _ (if (m == 0) = true then _ else _) _ _ s
  rw [if_neg (by simpa using hm0)]
  rw [if_neg (by simpa using hma)]
  dsimp only
  rw [if_neg (by omega), decide_eq_false (by omega), Bool.false_and, if_neg Bool.false_ne_true, hmn]
  exact wpAny_ret_mkInt ⟨by simp, h⟩
theorem pow3 (he : 0 ≤ e) (hm : 1 < m) (h : Q (.int (powZ b e m) s.toks) { s with toks := s.toks + 1 }) :
    wpAny (model prog w) A (call (.builtin "pow") [.int b t, .int e u, .int m v]) Q E s := by
  refine Calls.call_function_entry kind_pow plain_pow entry_pow (args_pow _ _ _) ?_
  unfold Builtin.«pow»
  refine wpAny_bind (wpAny_of_eq (a := [some (.int b t), some (.int e u), some (.int m v)]) rfl ?_)
  dsimp only [Option.getD]
  refine wpAny_bind (wpAny_rule ?_)
  refine wpAny_bind (wpAny_of_eq (a := .type "int") rfl ?_)
  dsimp only
  refine wpAny_bind (wpAny_of_eq slot_int_pow.lookup ?_)
  dsimp only
  refine wpAny_bind (wpAny_callSpecial?_slot (typeIs_int s b t) slot_int_pow (wpAny_mono (pow3_slot he hm h) (fun r s' hr => ?_) fun _ _ x => x))
  dsimp only
  rw [if_pos (by simpa using hr.1)]
  exact wpAny_pure ⟨_, rfl, hr.2⟩
end
noncomputable def octets (x : Int) : Array UInt8 := (KTBy.low x 32).reverse.toArray
theorem octets_size (x : Int) : (octets x).size = 32 := by
  unfold octets
  rw [List.size_toArray, List.length_reverse, KTBy.low_length]
theorem foldl_little : ∀ (n : Nat) (x : Int), 0 ≤ x → x < 256 ^ n → (KTBy.little n x).reverse.foldl (fun o d => o * 256 + d) 0 = x
  | 0, x, h0, h1 => by
    rw [Int.pow_zero] at h1
    show (0 : Int) = x
    omega
  | n + 1, x, h0, h1 => by
    rw [Int.pow_succ] at h1
    have e : KTBy.little (n + 1) x = x % 256 :: KTBy.little n (x / 256) := rfl
    have hq : 0 ≤ x / 256 := by omega
    have hl : x / 256 < 256 ^ n := by
      generalize (256 : Int) ^ n = q at h1
      omega
    rw [e, List.reverse_cons, List.foldl_append, foldl_little n (x / 256) hq hl]
    show x / 256 * 256 + x % 256 = x
    omega
theorem bytesInt_octets {x : Int} (h0 : 0 ≤ x) (h1 : x < 256 ^ 32) : bytesInt (octets x) = x := by
  have e := foldl_little 32 x h0 h1
  rw [KTBy.little_eq, ← KTBy.low_ints h0 h1, ← List.map_reverse, List.foldl_map] at e
  unfold bytesInt octets
  simpa using e
theorem octets_rule {prog : Program} {w : World} {A : Around} {E : Value → Shared → Prop} {s : Shared} {x : Int} {t u v : Tok} {Q : Value → Shared → Prop} (h0 : 0 ≤ x) (h1 : x < 256 ^ 32) (h : ∀ t' k', Q (.bytes (octets x) t') { s with toks := k' }) :
    wpAny (model prog w) A (call (.builtin "int.to_bytes") [.int x t, .int 32 u, .str (PySem.Str.ofString "big") v]) Q E s := by
  have hb : intBits x ≤ 256 := KTBy.bits_le (k := 32) rfl h0 h1
  refine wpAny_call_entry KTBy.slot (typeIs_int s x t) KTBy.entry ?_ (KTBy.args _ _ _)
  refine wpAny_bind (wpAny_of_eq (a := x) rfl ?_)
  refine wpAny_bind (wpAny_of_eq (a := [some (.int 32 u), some (.str (PySem.Str.ofString "big") v), none]) (by kernel_rfl) ?_)
  refine wpAny_bind (wpAny_of_eq (a := (32 : Int)) rfl ?_)
  refine KTBy.if_not (by decide) ?_
  refine wpAny_bind (wpAny_of_eq (a := PySem.Str.ofString "big") (by kernel_rfl) ?_)
  refine wpAny_bind (wpAny_of_eq (a := false) rfl ?_)
  refine wpAny_bind (wpAny_of_eq (a := false) (by kernel_rfl) ?_)
  refine wpAny_ite_false (by decide) ?_
  refine wpAny_ite_false (by decide) ?_
  refine wpAny_ite_false (by decide) ?_
  refine KTBy.if_not (by show (decide (x < 0) && !false) = false; rw [decide_eq_false (by omega)]; rfl) ?_
  refine KTBy.if_not (by show (_ && decide ((intBits x : Int) > 8 * (32 : Int))) = false; rw [decide_eq_false (by omega), Bool.and_false]) ?_
  refine wpAny_bind (wpAny_mkBytes (wpAny_pure ⟨_, rfl, h _ _⟩) ?_)
  show (KTBy.low x 32).reverse.length ≤ sizeLine
  rw [List.length_reverse, KTBy.low_length, sizeLine_eq]
  decide
local macro_rules | `(tactic| walk_at "call builtin:int.to_bytes") => `(tactic| (k_here; (with_unfolding_all refine octets_rule (by assumption) (by assumption) ?_); intro _ _))
noncomputable abbrev octC : Con Int where
  Rel := fun _ vs d => ∃ t, vs = [.int d t]
  Ok := fun d => 0 ≤ d ∧ d < 256 ^ 32
  size := fun _ => 1
  Out := fun _ r d => ∃ t, r = .bytes (octets d) t
theorem octR {news : List (Addr × Obj)} {d : Int} {t : Tok} : octC.Rel news [.int d t] d := ⟨t, rfl⟩
theorem octW {prog : Program} {w : World} {p : Program} {loose : List Str} {mean : ExcName → Option Value} {mg mb : Str → Option Value} : ∀ d, Holds prog w (K39 w.params) p loose mean mg mb 135 octC d := by
  walk_at "my head"
  refine holds_of fun d IH => ?_
  clear IH
  unfold Holds
  intro dp un gd cn cs a ccd cl outer A₀ base h₀ L m news s vs Q E B F X N T hk hR hok hd hu hret
  dsimp only [octC] at hR hok hd hu
  obtain ⟨t, rfl⟩ := hR
  obtain ⟨b1, b2⟩ := hok
  refine wpAny_call ?_
  k_dflt ktr_enter
  k_steps
  refine hret _ _ _ _ (by k_asm) (by k_asm) (by walk_at "my sub") ?_
  exact ⟨_, rfl⟩
noncomputable abbrev lpC : Con Unit where
  Rel := fun _ vs _ => vs = []
  Ok := fun _ => True
  size := fun _ => 1
  Out := fun _ r _ => ∃ t, r = .int PI t
theorem lpR {news : List (Addr × Obj)} : lpC.Rel news [] () := rfl
theorem lpW {prog : Program} {w : World} {p : Program} {loose : List Str} {mean : ExcName → Option Value} {mg mb : Str → Option Value} : ∀ d, Holds prog w (K39 w.params) p loose mean mg mb 113 lpC d := by
  walk_at "my head"
  refine holds_of fun d IH => ?_
  clear IH
  unfold Holds
  intro dp un gd cn cs a ccd cl outer A₀ base h₀ L m news s vs Q E B F X N T hk hR hok hd hu hret
  dsimp only [lpC] at hR hok hd hu
  subst hR
  refine wpAny_call ?_
  k_dflt ktr_enter
  k_steps
  refine hret _ _ _ _ (by k_asm) (by k_asm) (by walk_at "my sub") ?_
  exact ⟨_, congrArg (fun z => Value.int z _) (show (2 : Int) ^ Int.toNat 256 - 2 ^ Int.toNat 32 - 977 = PI by decide +kernel)⟩
theorem foldl_lt {α : Type} (m : Nat) (f : Nat → α → Nat) (hf : ∀ p i, f p i < m) : ∀ (l : List α) (p : Nat), p < m → l.foldl f p < m
  | [], _, h => h
  | i :: r, p, _ => foldl_lt m f hf r (f p i) (hf p i)
theorem powZ_lt {b e m : Int} (hm : 0 < m) : powZ b e m < m ∧ 0 ≤ powZ b e m := by
  unfold powZ Builtin.powMod
  have h0 : 0 < m.natAbs := by omega
  refine ⟨?_, Int.natCast_nonneg _⟩
  have h := foldl_lt m.natAbs (fun p i => if e.natAbs.testBit i then p * p % m.natAbs * (b % m).toNat % m.natAbs else p * p % m.natAbs) (fun p i => by split <;> exact Nat.mod_lt _ h0)
    (List.range (intBits (e.natAbs : Int))).reverse (1 % m.natAbs) (Nat.mod_lt _ h0)
  omega
theorem powZ_bits {b e m : Int} {k : Nat} (hm : 0 < m) (hk : intBits m ≤ k) : intBits (powZ b e m) ≤ k := by
  have h := powZ_lt (b := b) (e := e) hm
  exact bits_of_natAbs_le (by omega) hk
theorem powZ_bitsP {b e : Int} : intBits (powZ b e 115792089237316195423570985008687907853269984665640564039457584007908834671663) ≤ 256 := powZ_bits (by decide +kernel) bitsP
theorem powZ_bitsN {b e : Int} : intBits (powZ b e 115792089237316195423570985008687907852837564279074904382605163141518161494337) ≤ 256 := powZ_bits (by decide +kernel) bitsN
noncomputable def laddS (p q : Int × Int) : Option (Int × Int) :=
  if p.1 = q.1 then
    if (p.2 + q.2).fmod PI = 0 then none else
      let slope := (3 * p.1 * p.1 * powZ (2 * p.2) (PI - 2) PI).fmod PI
      let x := (slope * slope - p.1 - q.1).fmod PI
      some (x, (slope * (p.1 - x) - p.2).fmod PI)
  else
    let slope := ((q.2 - p.2) * powZ ((q.1 - p.1).fmod PI) (PI - 2) PI).fmod PI
    let x := (slope * slope - p.1 - q.1).fmod PI
    some (x, (slope * (p.1 - x) - p.2).fmod PI)
noncomputable def ladd : Option (Int × Int) → Option (Int × Int) → Option (Int × Int)
  | none, q => q
  | some p, none => some p
  | some p, some q => laddS p q
noncomputable def VOpt (K : Frag) (news : List (Addr × Obj)) (v : Value) : Option (Int × Int) → Prop
  | none => v = .none
  | some p => T2 K news v p
noncomputable def BO : Option (Int × Int) → Prop
  | none => True
  | some p => B2 p
theorem laddS_BO (p q : Int × Int) : BO (laddS p q) := by
  unfold laddS
  split
  · split
    · trivial
    · exact ⟨bits_modP _, bits_modP _⟩
  · exact ⟨bits_modP _, bits_modP _⟩
theorem ladd_BO {p q : Option (Int × Int)} (hp : BO p) (hq : BO q) : BO (ladd p q) := by
  cases p with
  | none => exact hq
  | some p =>
    cases q with
    | none => exact hp
    | some q => exact laddS_BO p q
theorem VOpt.sub {K : Frag} {news news' : List (Addr × Obj)} {v : Value} {d : Option (Int × Int)} (hs : Sub news news') (h : VOpt K news v d) : VOpt K news' v d := by
  cases d with
  | none => exact h
  | some p =>
    obtain ⟨a, t1, t2, e, V⟩ := h
    exact ⟨a, t1, t2, e, V.sub hs⟩
theorem VOpt.none {K : Frag} {news : List (Addr × Obj)} : VOpt K news .none none := rfl
theorem VOpt.some {K : Frag} {news : List (Addr × Obj)} {a : Addr} {X Y : Int} {t1 t2 : Tok} (h : Vis K news a [.int X t1, .int Y t2]) : VOpt K news (.ref a) (some (X, Y)) := T2.mk h
theorem VOpt.tail {K : Frag} {news : List (Addr × Obj)} {q : Addr × Obj} {v : Value} {d : Option (Int × Int)} (h : VOpt K news v d) : VOpt K (q :: news) v d := h.sub fun _ hp => .tail _ hp
theorem oct_use {prog : Program} {w : World} {p : Program} {loose : List Str} {mean : ExcName → Option Value} {mg mb : Str → Option Value} {dp un : Nat} {gd : Option (List Code)} {cn : Str} {cs : Scope} {a : Addr} {ccd : Value} {cl : List (Str × Addr)} {outer : List Env} {A₀ : Around} {base h₀ : Heap} {L : Addr} {m : Str → Option Value} {news : List (Addr × Obj)} {s : Shared} {Q E : Value → Shared → Prop} {x : Int} {t1 : Tok} (B : Below A₀ base outer h₀) (F : Fr h₀ L s.heap m) (X0 : (K39 w.params).In h₀) (N : News h₀ L s.heap news) (T : Top p loose mean mg mb h₀) (hk : cs.kind = .function) (ok : octC.Ok x) (hd9 : dp + 1 < recursionLimit) (hu9 : un + 8 * 1 < cLine) (ret : ∀ u1 n' h' k', Fr h₀ L h' m → News h₀ L h' n' → Sub news n' → Q (.bytes (octets x) u1) { s with heap := h', toks := k' }) :
    wpAny (model prog w) (ktrTop dp un gd cn cs L a ccd cl outer) (call (.ref 135) [.int x t1]) Q E s := by
  refine holds_use (octW x) B F X0 N T hk octR ok hd9 hu9 fun r n' h' k' F' N' hs ho => ?_
  obtain ⟨u1, e⟩ := ho; subst e; exact ret _ _ _ _ F' N' hs
theorem lp_use {prog : Program} {w : World} {p : Program} {loose : List Str} {mean : ExcName → Option Value} {mg mb : Str → Option Value} {dp un : Nat} {gd : Option (List Code)} {cn : Str} {cs : Scope} {a : Addr} {ccd : Value} {cl : List (Str × Addr)} {outer : List Env} {A₀ : Around} {base h₀ : Heap} {L : Addr} {m : Str → Option Value} {news : List (Addr × Obj)} {s : Shared} {Q E : Value → Shared → Prop}  (B : Below A₀ base outer h₀) (F : Fr h₀ L s.heap m) (X0 : (K39 w.params).In h₀) (N : News h₀ L s.heap news) (T : Top p loose mean mg mb h₀) (hk : cs.kind = .function) (hd9 : dp + 1 < recursionLimit) (hu9 : un + 8 * 1 < cLine) (ret : ∀ u1 n' h' k', Fr h₀ L h' m → News h₀ L h' n' → Sub news n' → Q (.int PI u1) { s with heap := h', toks := k' }) :
    wpAny (model prog w) (ktrTop dp un gd cn cs L a ccd cl outer) (call (.ref 113) []) Q E s := by
  refine holds_use (lpW ()) B F X0 N T hk lpR True.intro hd9 hu9 fun r n' h' k' F' N' hs ho => ?_
  obtain ⟨u1, e⟩ := ho; subst e; exact ret _ _ _ _ F' N' hs
end Mine
namespace Mine
open PySem.Builtin.Int (intBits)
local macro_rules | `(tactic| walk_at "call ref") => `(tactic| (k_here; (with_reducible show wpAny _ _ (PySem.call (Value.ref 113) _) _ _ _); k_dflt (refine' lp_use ?_ ?_ ?_ ?_ ?_ ?_ ?_ ?_ ?_ <;> walk_at "my prem")))
local macro_rules | `(tactic| walk_at "call builtin:pow") => `(tactic| (k_here; (with_reducible refine pow3 ?ha ?hb ?_); (case ha => decide +kernel); (case hb => decide +kernel)))
local macro_rules | `(tactic| bits_by_make) => `(tactic| first | with_reducible exact powZ_bitsP | with_reducible exact powZ_bitsN)
noncomputable abbrev laddC (K : Frag) : Con (Option (Int × Int) × Option (Int × Int)) where
  Rel := fun news vs d => ∃ v u, vs = [v, u] ∧ VOpt K news v d.1 ∧ VOpt K news u d.2
  Ok := fun d => BO d.1 ∧ BO d.2
  size := fun _ => 2
  Out := fun news r d => VOpt K news r (ladd d.1 d.2)
theorem laddR {K : Frag} {news : List (Addr × Obj)} {v u : Value} {p q : Option (Int × Int)} (h : VOpt K news v p) (h' : VOpt K news u q) : (laddC K).Rel news [v, u] (p, q) := ⟨v, u, rfl, h, h'⟩
theorem laddS_n {X Y X' Y' : Int} (h : X = X') (h2 : (Y + Y').fmod PI = 0) : laddS (X, Y) (X', Y') = none := by simp only [laddS, if_pos h, if_pos h2]

theorem laddW {prog : Program} {w : World} {p : Program} {loose : List Str} {mean : ExcName → Option Value} {mg mb : Str → Option Value} : ∀ d, Holds prog w (K39 w.params) p loose mean mg mb 121 (laddC (K39 w.params)) d := by
  walk_at "my head"
  refine holds_of fun d IH => ?_
  clear IH
  unfold Holds
  intro dp un gd cn cs a ccd cl outer A₀ base h₀ L m news s vs Q E B F X N T hk hR hok hd hu hret
  obtain ⟨jp, jq⟩ := d
  dsimp only [laddC] at hR hok hd hu
  obtain ⟨_, _, rfl, hp, hq⟩ := hR
  obtain ⟨bp, bq⟩ := hok
  cases jp with
  | none =>
    cases jq with
    | none =>
      obtain rfl := hp
      obtain rfl := hq
      refine wpAny_call ?_
      k_dflt ktr_enter
      k_steps
      refine hret _ _ _ _ (by k_asm) (by k_asm) (by walk_at "my sub") ?_
      exact rfl
    | some q =>
      obtain ⟨kX, kY⟩ := q
      obtain rfl := hp
      obtain ⟨ka, u1, u2, rfl, W⟩ := hq
      dsimp only at W
      refine wpAny_call ?_
      k_dflt ktr_enter
      k_steps
      refine hret _ _ _ _ (by k_asm) (by k_asm) (by walk_at "my sub") ?_
      exact VOpt.some (by walk_at "my vis")
  | some p =>
    obtain ⟨jX, jY⟩ := p
    obtain ⟨b1, b2⟩ := bp
    obtain ⟨ja, t1, t2, rfl, V⟩ := hp
    dsimp only at V b1 b2
    cases jq with
    | none =>
      obtain rfl := hq
      refine wpAny_call ?_
      k_dflt ktr_enter
      k_steps
      refine hret _ _ _ _ (by k_asm) (by k_asm) (by walk_at "my sub") ?_
      exact VOpt.some (by walk_at "my vis")
    | some q =>
      obtain ⟨kX, kY⟩ := q
      obtain ⟨c1, c2⟩ := bq
      obtain ⟨ka, u1, u2, rfl, W⟩ := hq
      dsimp only at W c1 c2
      refine wpAny_call ?_
      k_dflt ktr_enter
      k_steps
      all_goals refine hret _ _ _ _ (by k_asm) (by k_asm) (by walk_at "my sub") ?_
      all_goals show VOpt _ _ _ (laddS (jX, jY) (kX, kY))
      · rw [laddS_n (by assumption) (by assumption)]
        exact rfl
      · simp only [laddS, if_pos (show jX = kX by assumption), if_neg (show ¬ (jY + kY).fmod PI = 0 by assumption)]
        exact VOpt.some (by walk_at "my vis")
      · simp only [laddS, if_neg (show ¬ jX = kX by assumption)]
        exact VOpt.some (by walk_at "my vis")
noncomputable def ltimesLoop : Nat → Option (Int × Int) → Option (Int × Int) → Int → Option (Int × Int)
  | 0, found, _, _ => found
  | k + 1, found, point, number =>
    if number = 0 ∨ point = none then found else ltimesLoop k (if number.fmod 2 = 1 then ladd found point else found) (ladd point point) (number.fdiv 2)
noncomputable def ltimes (point : Option (Int × Int)) (number : Int) : Option (Int × Int) := ltimesLoop 257 none point number
theorem ltimesLoop_BO : ∀ (k : Nat) {f p : Option (Int × Int)} (n : Int), BO f → BO p → BO (ltimesLoop k f p n)
  | 0, _, _, _, hf, _ => hf
  | k + 1, f, p, n, hf, hp => by
    unfold ltimesLoop
    split
    · exact hf
    · refine ltimesLoop_BO k _ ?_ (ladd_BO hp hp)
      split
      · exact ladd_BO hf hp
      · exact hf
theorem ltimes_BO {p : Option (Int × Int)} (n : Int) (hp : BO p) : BO (ltimes p n) := ltimesLoop_BO _ _ True.intro hp
theorem Vis.tup {K : Frag} {n1 n2 : List (Addr × Obj)} {a : Addr} {vs : List Value} (hs : ∀ p ∈ n1, p.2.cls = .type "tuple" → p ∈ n2) (h : Vis K n1 a vs) : Vis K n2 a vs := by
  obtain ⟨o, n, h1, h2, h3⟩ := h
  exact ⟨o, n, h1.imp (fun h => hs _ h h2) id, h2, h3⟩
theorem VOpt.tup {K : Frag} {n1 n2 : List (Addr × Obj)} {v : Value} {d : Option (Int × Int)} (hs : ∀ p ∈ n1, p.2.cls = .type "tuple" → p ∈ n2) (h : VOpt K n1 v d) : VOpt K n2 v d := by
  cases d with
  | none => exact h
  | some p =>
    obtain ⟨a, t1, t2, e, V⟩ := h
    exact ⟨a, t1, t2, e, V.tup hs⟩
noncomputable def timesJ (K : Frag) (p0 : Option (Int × Int)) (n0 : Int) (i : Nat) (m : Str → Option Value) (news : List (Addr × Obj)) : Prop :=
  ∃ found point number v u t, m (Str.ofString "found") = some v ∧ m (Str.ofString "point") = some u ∧ m (Str.ofString "number") = some (.int number t) ∧
    VOpt K news v found ∧ VOpt K news u point ∧ BO found ∧ BO point ∧ ltimesLoop (257 - i) found point number = ltimes p0 n0
theorem ladd_use {prog : Program} {w : World} {p : Program} {loose : List Str} {mean : ExcName → Option Value} {mg mb : Str → Option Value} {dp un : Nat} {gd : Option (List Code)} {cn : Str} {cs : Scope} {a : Addr} {ccd : Value} {cl : List (Str × Addr)} {outer : List Env} {A₀ : Around} {base h₀ : Heap} {L : Addr} {m : Str → Option Value} {news : List (Addr × Obj)} {s : Shared} {Q E : Value → Shared → Prop} {v1 v2 : Value} {p1 p2 : Option (Int × Int)} (B : Below A₀ base outer h₀) (F : Fr h₀ L s.heap m) (X0 : (K39 w.params).In h₀) (N : News h₀ L s.heap news) (T : Top p loose mean mg mb h₀) (hk : cs.kind = .function) (V1 : VOpt (K39 w.params) news v1 p1) (V2 : VOpt (K39 w.params) news v2 p2) (ok : BO p1 ∧ BO p2) (hd9 : dp + 2 < recursionLimit) (hu9 : un + 8 * 2 < cLine) (ret : ∀ r n' h' k', Fr h₀ L h' m → News h₀ L h' n' → Sub news n' → VOpt (K39 w.params) n' r (ladd p1 p2) → Q r { s with heap := h', toks := k' }) :
    wpAny (model prog w) (ktrTop dp un gd cn cs L a ccd cl outer) (call (.ref 121) [v1, v2]) Q E s := by
  refine holds_use (laddW (p1, p2)) B F X0 N T hk (laddR V1 V2) ok hd9 hu9 fun r n' h' k' F' N' hs ho => ?_
  exact ret _ _ _ _ F' N' hs ho
theorem laddX_use {prog : Program} {w : World} {p : Program} {loose : List Str} {mean : ExcName → Option Value} {mg mb : Str → Option Value} {dp un : Nat} {gd : Option (List Code)} {cn : Str} {cs : Scope} {a : Addr} {ccd : Value} {cl : List (Str × Addr)} {outer : List Env} {A₀ : Around} {base h₀ : Heap} {L : Addr} {m : Str → Option Value} {news : List (Addr × Obj)} {s : Shared} {Q E : Value → Shared → Prop} {v1 v2 : Value} {p1 p2 : Option (Int × Int)} (B : Below A₀ base outer h₀) (F : Fr h₀ L s.heap m) (X0 : (K39 w.params).In h₀) (N : News h₀ L s.heap news) (T : Top p loose mean mg mb h₀) (hk : cs.kind = .function) (V1 : VOpt (K39 w.params) news v1 p1) (V2 : VOpt (K39 w.params) news v2 p2) (ok : BO p1 ∧ BO p2) (hd9 : dp + 2 < recursionLimit) (hu9 : un + 8 * 2 < cLine) (ret0 : ladd p1 p2 = none → ∀ n' h' k', Fr h₀ L h' m → News h₀ L h' n' → Sub news n' → Q .none { s with heap := h', toks := k' }) (ret1 : ∀ q1 q2, ladd p1 p2 = some (q1, q2) → ∀ a9 u1 u2 n' h' k', Fr h₀ L h' m → News h₀ L h' n' → Sub news n' → Vis (K39 w.params) n' a9 [.int q1 u1, .int q2 u2] → Q (.ref a9) { s with heap := h', toks := k' }) :
    wpAny (model prog w) (ktrTop dp un gd cn cs L a ccd cl outer) (call (.ref 121) [v1, v2]) Q E s := by
  refine holds_use (laddW (p1, p2)) B F X0 N T hk (laddR V1 V2) ok hd9 hu9 fun r n' h' k' F' N' hs ho => ?_
  dsimp only [laddC] at ho
  cases e : ladd p1 p2 with
  | none => rw [e] at ho; have e9 : r = .none := ho; subst e9; exact ret0 e _ _ _ F' N' hs
  | some q => rw [e] at ho; obtain ⟨a9, u1, u2, e9, V9⟩ := ho; subst e9; exact ret1 _ _ e _ _ _ _ _ _ F' N' hs V9
end Mine
namespace Mine
open PySem.Builtin.Int (intBits)
local macro_rules | `(tactic| walk_at "call ref") => `(tactic| (k_here; (with_reducible show wpAny _ _ (PySem.call (Value.ref 64) _) _ _ _); k_dflt (refine' frm_use ?_ ?_ ?_ ?_ ?_ ?_ ?_ ?_ ?_ ?_ ?_ <;> walk_at "my prem")))
local macro_rules | `(tactic| walk_at "call ref") => `(tactic| (k_here; (with_reducible show wpAny _ _ (PySem.call (Value.ref 71) _) _ _ _); k_dflt (refine' mul_use ?_ ?_ ?_ ?_ ?_ ?_ ?_ ?_ ?_ ?_ ?_ <;> walk_at "my prem")))
local macro_rules | `(tactic| walk_at "call ref") => `(tactic| (k_here; (with_reducible show wpAny _ _ (PySem.call (Value.ref 57) _) _ _ _); k_dflt (refine' add3_use ?_ ?_ ?_ ?_ ?_ ?_ ?_ ?_ ?_ ?_ ?_ ?_ <;> walk_at "my prem")))
local macro_rules | `(tactic| walk_at "call ref") => `(tactic| (k_here; (with_reducible show wpAny _ _ (PySem.call (Value.ref 43) _) _ _ _); refine wpAny_call ?_; k_dflt (walk_at "my enter")))
noncomputable abbrev maffC (K : Frag) : Con ((Int × Int) × Int) where
  Rel := fun news vs d => ∃ v t, vs = [v, .int d.2 t, .ref 22] ∧ T2 K news v d.1
  Ok := fun d => B2 d.1
  size := fun _ => 272
  Out := fun news r d => T2 K news r (fromJac (jmul (d.1.1, d.1.2, 1) d.2))
theorem maffR {K : Frag} {news : List (Addr × Obj)} {a : Addr} {X Y n : Int} {t t1 t2 : Tok} (h : Vis K news a [.int X t1, .int Y t2]) : (maffC K).Rel news [.ref a, .int n t, .ref 22] ((X, Y), n) := ⟨_, t, rfl, T2.mk h⟩

theorem maffW {prog : Program} {w : World} {p : Program} {loose : List Str} {mean : ExcName → Option Value} {mg mb : Str → Option Value} : ∀ d, Holds prog w (K39 w.params) p loose mean mg mb 78 (maffC (K39 w.params)) d := by
  walk_at "my head"
  refine holds_of fun d IH => ?_
  clear IH
  unfold Holds
  intro dp un gd cn cs a ccd cl outer A₀ base h₀ L m news s vs Q E B F X N T hk hR hok hd hu hret
  obtain ⟨⟨jX, jY⟩, jn⟩ := d
  obtain ⟨b1, b2⟩ := hok
  dsimp only [maffC] at hR b1 b2 hd hu
  obtain ⟨_, t, rfl, ja, t1, t2, rfl, V⟩ := hR
  dsimp only at V
  refine wpAny_call ?_
  k_dflt ktr_enter
  k_steps
  all_goals refine hret _ _ _ _ (by k_asm) (by k_asm) (by walk_at "my sub") ?_
  exact ⟨_, _, _, rfl, by walk_at "my vis"⟩

noncomputable abbrev aaffC (K : Frag) : Con ((Int × Int) × (Int × Int)) where
  Rel := fun news vs d => ∃ v u, vs = [v, u, .ref 22] ∧ T2 K news v d.1 ∧ T2 K news u d.2
  Ok := fun d => B2 d.1 ∧ B2 d.2
  size := fun _ => 4
  Out := fun news r d => T2 K news r (fromJac (jadd (d.1.1, d.1.2, 1) (d.2.1, d.2.2, 1)))
theorem aaffR {K : Frag} {news : List (Addr × Obj)} {a b : Addr} {X Y X' Y' : Int} {t1 t2 u1 u2 : Tok} (h : Vis K news a [.int X t1, .int Y t2]) (h' : Vis K news b [.int X' u1, .int Y' u2]) : (aaffC K).Rel news [.ref a, .ref b, .ref 22] ((X, Y), (X', Y')) := ⟨_, _, rfl, T2.mk h, T2.mk h'⟩

theorem aaffW {prog : Program} {w : World} {p : Program} {loose : List Str} {mean : ExcName → Option Value} {mg mb : Str → Option Value} : ∀ d, Holds prog w (K39 w.params) p loose mean mg mb 85 (aaffC (K39 w.params)) d := by
  walk_at "my head"
  refine holds_of fun d IH => ?_
  clear IH
  unfold Holds
  intro dp un gd cn cs a ccd cl outer A₀ base h₀ L m news s vs Q E B F X N T hk hR hok hd hu hret
  obtain ⟨⟨jX, jY⟩, ⟨kX, kY⟩⟩ := d
  obtain ⟨⟨b1, b2⟩, ⟨c1, c2⟩⟩ := hok
  dsimp only [aaffC] at hR b1 b2 c1 c2 hd hu
  obtain ⟨_, _, rfl, ⟨ja, t1, t2, rfl, V⟩, ⟨ka, u1, u2, rfl, W⟩⟩ := hR
  dsimp only at V W
  refine wpAny_call ?_
  k_dflt ktr_enter
  k_steps
  all_goals refine hret _ _ _ _ (by k_asm) (by k_asm) (by walk_at "my sub") ?_
  exact ⟨_, _, _, rfl, by walk_at "my vis"⟩
theorem maff_use {prog : Program} {w : World} {p : Program} {loose : List Str} {mean : ExcName → Option Value} {mg mb : Str → Option Value} {dp un : Nat} {gd : Option (List Code)} {cn : Str} {cs : Scope} {a : Addr} {ccd : Value} {cl : List (Str × Addr)} {outer : List Env} {A₀ : Around} {base h₀ : Heap} {L : Addr} {m : Str → Option Value} {news : List (Addr × Obj)} {s : Shared} {Q E : Value → Shared → Prop} {j : Addr} {n : Int} {tn : Tok} {X Y : Int} {t1 t2 : Tok} (B : Below A₀ base outer h₀) (F : Fr h₀ L s.heap m) (X0 : (K39 w.params).In h₀) (N : News h₀ L s.heap news) (T : Top p loose mean mg mb h₀) (hk : cs.kind = .function) (V1 : Vis (K39 w.params) news j [.int X t1, .int Y t2]) (ok : B2 (X, Y)) (hd9 : dp + 272 < recursionLimit) (hu9 : un + 8 * 272 < cLine) (ret : ∀ a9 u1 u2 n' h' k', Fr h₀ L h' m → News h₀ L h' n' → Sub news n' → Vis (K39 w.params) n' a9 [.int (fromJac (jmul (X, Y, 1) n)).1 u1, .int (fromJac (jmul (X, Y, 1) n)).2 u2] → Q (.ref a9) { s with heap := h', toks := k' }) :
    wpAny (model prog w) (ktrTop dp un gd cn cs L a ccd cl outer) (call (.ref 78) [.ref j, .int n tn, .ref 22]) Q E s := by
  refine holds_use (maffW ((X, Y), n)) B F X0 N T hk (maffR V1) ok hd9 hu9 fun r n' h' k' F' N' hs ho => ?_
  obtain ⟨a9, u1, u2, e, V9⟩ := ho; subst e; exact ret _ _ _ _ _ _ F' N' hs V9
theorem aaff_use {prog : Program} {w : World} {p : Program} {loose : List Str} {mean : ExcName → Option Value} {mg mb : Str → Option Value} {dp un : Nat} {gd : Option (List Code)} {cn : Str} {cs : Scope} {a : Addr} {ccd : Value} {cl : List (Str × Addr)} {outer : List Env} {A₀ : Around} {base h₀ : Heap} {L : Addr} {m : Str → Option Value} {news : List (Addr × Obj)} {s : Shared} {Q E : Value → Shared → Prop} {j k : Addr} {X Y X' Y' : Int} {t1 t2 t1' t2' : Tok} (B : Below A₀ base outer h₀) (F : Fr h₀ L s.heap m) (X0 : (K39 w.params).In h₀) (N : News h₀ L s.heap news) (T : Top p loose mean mg mb h₀) (hk : cs.kind = .function) (V1 : Vis (K39 w.params) news j [.int X t1, .int Y t2]) (V2 : Vis (K39 w.params) news k [.int X' t1', .int Y' t2']) (ok : B2 (X, Y) ∧ B2 (X', Y')) (hd9 : dp + 4 < recursionLimit) (hu9 : un + 8 * 4 < cLine) (ret : ∀ a9 u1 u2 n' h' k', Fr h₀ L h' m → News h₀ L h' n' → Sub news n' → Vis (K39 w.params) n' a9 [.int (fromJac (jadd (X, Y, 1) (X', Y', 1))).1 u1, .int (fromJac (jadd (X, Y, 1) (X', Y', 1))).2 u2] → Q (.ref a9) { s with heap := h', toks := k' }) :
    wpAny (model prog w) (ktrTop dp un gd cn cs L a ccd cl outer) (call (.ref 85) [.ref j, .ref k, .ref 22]) Q E s := by
  refine holds_use (aaffW ((X, Y), (X', Y'))) B F X0 N T hk (aaffR V1 V2) ok hd9 hu9 fun r n' h' k' F' N' hs ho => ?_
  obtain ⟨a9, u1, u2, e, V9⟩ := ho; subst e; exact ret _ _ _ _ _ _ F' N' hs V9
end Mine
namespace Mine
open PySem.Builtin.Int (intBits)
local macro_rules | `(tactic| walk_at "my vopt") => `(tactic| first
  | with_reducible assumption
  | with_reducible exact VOpt.none
  | ((with_reducible refine' VOpt.some ?hv); (case hv => walk_at "my vis"))
  | ((with_reducible refine' VOpt.tail ?hv); (case hv => walk_at "my vopt"))
  | ((with_reducible refine' VOpt.sub ?hw ?hv); (case hw => assumption); (case hv => walk_at "my vopt")))
local macro_rules | `(tactic| walk_at "call ref") => `(tactic| (k_here; (with_reducible show wpAny _ _ (PySem.call (Value.ref 121) _) _ _ _); k_dflt (refine' ladd_use ?_ ?_ ?_ ?_ ?_ ?_ ?_ ?_ ?_ ?_ ?_ ?_ <;> walk_at "my prem")))
local macro_rules | `(tactic| walk_at "exec For Name Call cons nil") => `(tactic| (k_here; refine Mine.stop_here ?_))
noncomputable abbrev timesC (K : Frag) : Con (Option (Int × Int) × Int) where
  Rel := fun news vs d => ∃ v t, vs = [v, .int d.2 t] ∧ VOpt K news v d.1
  Ok := fun d => BO d.1
  size := fun _ => 3
  Out := fun news r d => VOpt K news r (ltimes d.1 d.2)
theorem timesR {K : Frag} {news : List (Addr × Obj)} {v : Value} {p : Option (Int × Int)} {n : Int} {t : Tok} (h : VOpt K news v p) : (timesC K).Rel news [v, .int n t] (p, n) := ⟨v, t, rfl, h⟩

theorem timesW {prog : Program} {w : World} {p : Program} {loose : List Str} {mean : ExcName → Option Value} {mg mb : Str → Option Value} : ∀ d, Holds prog w (K39 w.params) p loose mean mg mb 128 (timesC (K39 w.params)) d := by
  walk_at "my head"
  refine holds_of fun d IH => ?_
  clear IH
  unfold Holds
  intro dp un gd cn cs a ccd cl outer A₀ base h₀ L m news s vs Q E B F X N T hk hR hok hd hu hret
  obtain ⟨jp, jn⟩ := d
  dsimp only [timesC] at hR hok hd hu
  obtain ⟨v0, t, rfl, hp⟩ := hR
  refine wpAny_call ?_
  k_dflt ktr_enter
  k_steps
  refine ⟨?_⟩
  rename Fr _ _ _ _ => F1
  rename News _ _ _ _ => N1
  with_unfolding_all refine' For_invVF F1 ?k1 ?k2 ?_
  case k1 => exact rfl
  case k2 => exact rfl
  iterate 7 walk1
  (try clear F1)
  (try clear N1)
  rename (IsRange _ _ _ _ _ _ _ _) => hr
  rename Fr _ _ _ _ => F1
  rename News _ _ _ _ => N1
  refine range_loop (k := 257) (timesJ (K39 w.params) jp jn) hr (by decide +kernel) (by decide +kernel) rfl F1 N1 ?hj ?hJ ?turn ?done
  case hj => exact ⟨none, jp, jn, _, _, _, rfl, rfl, rfl, VOpt.none, hp, True.intro, hok, rfl⟩
  case hJ =>
    rintro i m n1 n2 ⟨found, point, number, v, u, t, e1, e2, e3, h1, h2, h3⟩ hs
    exact ⟨found, point, number, v, u, t, e1, e2, e3, h1.tup hs, h2.tup hs, h3⟩
  case turn =>
    clear F1 N1 hr
    rintro i tt m₁ news₁ h₁ tk₁ hi ⟨found, point, number, v, u, tn, e1, e2, e3, hf, hq, bf, bq, hl⟩ hs F₁ N₁
    have F₁ := fr_set (x := Str.ofString "found") (v := v) (by with_unfolding_all exact e1) F₁
    have F₁ := fr_set (x := Str.ofString "point") (v := u) (by with_unfolding_all exact e2) F₁
    have F₁ := fr_set (x := Str.ofString "number") (v := .int number tn) (by with_unfolding_all exact e3) F₁
    clear e1 e2 e3
    rw [show 257 - i = (257 - (i + 1)) + 1 by omega] at hl
    cases point with
    | none =>
      obtain rfl := hq
      rw [ltimesLoop, if_pos (Or.inr rfl)] at hl
      try k_fold
      k_steps
      all_goals (dsimp only [ForPost])
      all_goals (try k_fold)
      all_goals k_steps
      all_goals refine hret _ _ _ _ (by k_asm) (by k_asm) (by walk_at "my sub") ?_
      all_goals (show VOpt _ _ _ (ltimes jp jn); rw [← hl]; walk_at "my vopt")
    | some q =>
      obtain ⟨kX, kY⟩ := q
      obtain ⟨ka, u1, u2, rfl, W⟩ := hq
      dsimp only at W
      try k_fold
      k_steps
      · rename number = 0 => h0
        rw [ltimesLoop, if_pos (Or.inl h0)] at hl
        dsimp only [ForPost]
        try k_fold
        k_steps
        refine hret _ _ _ _ (by k_asm) (by k_asm) (by walk_at "my sub") ?_
        show VOpt _ _ _ (ltimes jp jn)
        rw [← hl]
        walk_at "my vopt"
      · rename number.fmod 2 = 1 => h1
        rename ¬ number = 0 => h0
        rw [ltimesLoop, if_neg (fun h => h.elim h0 fun h => nomatch h), if_pos h1] at hl
        refine ⟨_, _, _, _, rfl, (by k_asm), (by k_asm), by walk_at "my sub", ?_⟩
        exact ⟨_, _, _, _, _, _, rfl, rfl, rfl, by walk_at "my vopt", by walk_at "my vopt", ladd_BO bf bq, ladd_BO bq bq, hl⟩
      · rename ¬ number.fmod 2 = 1 => h1
        rename ¬ number = 0 => h0
        rw [ltimesLoop, if_neg (fun h => h.elim h0 fun h => nomatch h), if_neg h1] at hl
        refine ⟨_, _, _, _, rfl, (by k_asm), (by k_asm), by walk_at "my sub", ?_⟩
        exact ⟨_, _, _, _, _, _, rfl, rfl, rfl, by walk_at "my vopt", by walk_at "my vopt", bf, ladd_BO bq bq, hl⟩
  case done =>
    clear F1 N1 hr
    rintro m₁ news₁ h₁ tk₁ ⟨found, point, number, v, u, tn, e1, e2, e3, hf, hq, bf, bq, hl⟩ hs F₁ N₁
    have F₁ := fr_set (x := Str.ofString "found") (v := v) (by with_unfolding_all exact e1) F₁
    clear e1 e2 e3
    try k_fold
    k_steps
    refine hret _ _ _ _ (by k_asm) (by k_asm) (by walk_at "my sub") ?_
    show VOpt _ _ _ (ltimes jp jn)
    rw [← hl]
    exact hf
theorem times_use {prog : Program} {w : World} {p : Program} {loose : List Str} {mean : ExcName → Option Value} {mg mb : Str → Option Value} {dp un : Nat} {gd : Option (List Code)} {cn : Str} {cs : Scope} {a : Addr} {ccd : Value} {cl : List (Str × Addr)} {outer : List Env} {A₀ : Around} {base h₀ : Heap} {L : Addr} {m : Str → Option Value} {news : List (Addr × Obj)} {s : Shared} {Q E : Value → Shared → Prop} {v1 : Value} {p1 : Option (Int × Int)} {n : Int} {tn : Tok} (B : Below A₀ base outer h₀) (F : Fr h₀ L s.heap m) (X0 : (K39 w.params).In h₀) (N : News h₀ L s.heap news) (T : Top p loose mean mg mb h₀) (hk : cs.kind = .function) (V1 : VOpt (K39 w.params) news v1 p1) (ok : BO p1) (hd9 : dp + 3 < recursionLimit) (hu9 : un + 8 * 3 < cLine) (ret : ∀ r n' h' k', Fr h₀ L h' m → News h₀ L h' n' → Sub news n' → VOpt (K39 w.params) n' r (ltimes p1 n) → Q r { s with heap := h', toks := k' }) :
    wpAny (model prog w) (ktrTop dp un gd cn cs L a ccd cl outer) (call (.ref 128) [v1, .int n tn]) Q E s := by
  refine holds_use (timesW (p1, n)) B F X0 N T hk (timesR V1) ok hd9 hu9 fun r n' h' k' F' N' hs ho => ?_
  exact ret _ _ _ _ F' N' hs ho
theorem timesS_use {prog : Program} {w : World} {p : Program} {loose : List Str} {mean : ExcName → Option Value} {mg mb : Str → Option Value} {dp un : Nat} {gd : Option (List Code)} {cn : Str} {cs : Scope} {a : Addr} {ccd : Value} {cl : List (Str × Addr)} {outer : List Env} {A₀ : Around} {base h₀ : Heap} {L : Addr} {m : Str → Option Value} {news : List (Addr × Obj)} {s : Shared} {Q E : Value → Shared → Prop} {v1 : Value} {p1 : Option (Int × Int)} {n : Int} {tn : Tok} {q : Int × Int} (B : Below A₀ base outer h₀) (F : Fr h₀ L s.heap m) (X0 : (K39 w.params).In h₀) (N : News h₀ L s.heap news) (T : Top p loose mean mg mb h₀) (hk : cs.kind = .function) (V1 : VOpt (K39 w.params) news v1 p1) (hp : ltimes p1 n = some q) (ok : BO p1) (hd9 : dp + 3 < recursionLimit) (hu9 : un + 8 * 3 < cLine) (ret : ∀ a9 u1 u2 n' h' k', Fr h₀ L h' m → News h₀ L h' n' → Sub news n' → Vis (K39 w.params) n' a9 [.int q.1 u1, .int q.2 u2] → Q (.ref a9) { s with heap := h', toks := k' }) :
    wpAny (model prog w) (ktrTop dp un gd cn cs L a ccd cl outer) (call (.ref 128) [v1, .int n tn]) Q E s := by
  refine holds_use (timesW (p1, n)) B F X0 N T hk (timesR V1) ok hd9 hu9 fun r n' h' k' F' N' hs ho => ?_
  dsimp only [timesC] at ho; rw [hp] at ho; obtain ⟨a9, u1, u2, e, V9⟩ := ho; subst e; exact ret _ _ _ _ _ _ F' N' hs V9
theorem timesX_use {prog : Program} {w : World} {p : Program} {loose : List Str} {mean : ExcName → Option Value} {mg mb : Str → Option Value} {dp un : Nat} {gd : Option (List Code)} {cn : Str} {cs : Scope} {a : Addr} {ccd : Value} {cl : List (Str × Addr)} {outer : List Env} {A₀ : Around} {base h₀ : Heap} {L : Addr} {m : Str → Option Value} {news : List (Addr × Obj)} {s : Shared} {Q E : Value → Shared → Prop} {v1 : Value} {p1 : Option (Int × Int)} {n : Int} {tn : Tok} (B : Below A₀ base outer h₀) (F : Fr h₀ L s.heap m) (X0 : (K39 w.params).In h₀) (N : News h₀ L s.heap news) (T : Top p loose mean mg mb h₀) (hk : cs.kind = .function) (V1 : VOpt (K39 w.params) news v1 p1) (ok : BO p1) (hd9 : dp + 3 < recursionLimit) (hu9 : un + 8 * 3 < cLine) (ret0 : ltimes p1 n = none → ∀ n' h' k', Fr h₀ L h' m → News h₀ L h' n' → Sub news n' → Q .none { s with heap := h', toks := k' }) (ret1 : ∀ q1 q2, ltimes p1 n = some (q1, q2) → intBits q1 ≤ 300 → intBits q2 ≤ 300 → ∀ a9 u1 u2 n' h' k', Fr h₀ L h' m → News h₀ L h' n' → Sub news n' → Vis (K39 w.params) n' a9 [.int q1 u1, .int q2 u2] → Q (.ref a9) { s with heap := h', toks := k' }) :
    wpAny (model prog w) (ktrTop dp un gd cn cs L a ccd cl outer) (call (.ref 128) [v1, .int n tn]) Q E s := by
  refine holds_use (timesW (p1, n)) B F X0 N T hk (timesR V1) ok hd9 hu9 fun r n' h' k' F' N' hs ho => ?_
  dsimp only [timesC] at ho
  have bo := ltimes_BO n ok
  cases e : ltimes p1 n with
  | none => rw [e] at ho; have e9 : r = .none := ho; subst e9; exact ret0 e _ _ _ F' N' hs
  | some q => rw [e] at ho bo; obtain ⟨a9, u1, u2, e9, V9⟩ := ho; subst e9; exact ret1 _ _ e bo.1 bo.2 _ _ _ _ _ _ F' N' hs V9
end Mine
namespace Mine
open PySem.Builtin.Int (intBits)
theorem bytesInt_bits {b : Array UInt8} (h : b.size ≤ 64) : intBits (bytesInt b) ≤ 600 := by rw [← bytesUp_all]; exact bytesUp_bits b h
theorem fromJac_b1 (d : Int × Int × Int) : intBits (fromJac d).1 ≤ 300 := (fromJac_B2 d).1
theorem fromJac_b2 (d : Int × Int × Int) : intBits (fromJac d).2 ≤ 300 := (fromJac_B2 d).2
theorem invF_bitsN (a : Int) : intBits (invF a 115792089237316195423570985008687907852837564279074904382605163141518161494337) ≤ 300 := invF_bits _ (by decide +kernel) bitsN3
local macro_rules | `(tactic| bits_by_make) => `(tactic| first | with_reducible exact bytesInt_bits (by assumption) | with_reducible exact fromJac_b1 _ | with_reducible exact fromJac_b2 _ | with_reducible exact invF_bitsN _)
theorem bitsGX : intBits 55066263022277343669578718895168534326250603453777594175500187360389116729240 ≤ 300 := by decide +kernel
theorem bitsGY : intBits 32670510020758816978083085130507043184471273380659243275938904335757337482424 ≤ 300 := by decide +kernel
local macro_rules | `(tactic| bits_by_make) => `(tactic| first | with_reducible exact bitsGX | with_reducible exact bitsGY)
local macro_rules | `(tactic| walk_at "call ref") => `(tactic| (k_here; (with_reducible show wpAny _ _ (PySem.call (Value.ref 78) _) _ _ _); k_dflt (refine' maff_use ?_ ?_ ?_ ?_ ?_ ?_ ?_ ?_ ?_ ?_ ?_ <;> walk_at "my prem")))
local macro_rules | `(tactic| walk_at "call ref") => `(tactic| (k_here; (with_reducible show wpAny _ _ (PySem.call (Value.ref 29) _) _ _ _); k_dflt (refine' b2i_use ?_ ?_ ?_ ?_ ?_ ?_ ?_ ?_ ?_ ?_ <;> walk_at "my prem")))
local macro_rules | `(tactic| walk_at "call ref") => `(tactic| (k_here; (with_reducible show wpAny _ _ (PySem.call (Value.ref 36) _) _ _ _); k_dflt (refine' invP_use ?_ ?_ ?_ ?_ ?_ ?_ ?_ ?_ ?_ <;> walk_at "my prem")))
local macro_rules | `(tactic| walk_at "call ref") => `(tactic| (k_here; (with_reducible show wpAny _ _ (PySem.call (Value.ref 36) _) _ _ _); k_dflt (refine' invN_use ?_ ?_ ?_ ?_ ?_ ?_ ?_ ?_ ?_ <;> walk_at "my prem")))
noncomputable abbrev privC (K : Frag) : Con (Array UInt8) where
  Rel := fun _ vs d => ∃ t, vs = [.bytes d t, .ref 22]
  Ok := fun d => d.size ≤ 64
  size := fun _ => 274
  Out := fun news r d => T2 K news r (fromJac (jmul (GX, GY, 1) (bytesInt d)))
theorem privR {K : Frag} {news : List (Addr × Obj)} {d : Array UInt8} {t : Tok} : (privC K).Rel news [.bytes d t, .ref 22] d := ⟨t, rfl⟩
theorem privW {prog : Program} {w : World} {p : Program} {loose : List Str} {mean : ExcName → Option Value} {mg mb : Str → Option Value} : ∀ d, Holds prog w (K39 w.params) p loose mean mg mb 92 (privC (K39 w.params)) d := by
  walk_at "my head"
  refine holds_of fun d IH => ?_
  clear IH
  unfold Holds
  intro dp un gd cn cs a ccd cl outer A₀ base h₀ L m news s vs Q E B F X N T hk hR hok hd hu hret
  dsimp only [privC] at hR hok hd hu
  obtain ⟨t, rfl⟩ := hR
  refine wpAny_call ?_
  k_dflt ktr_enter
  k_steps
  refine hret _ _ _ _ (by k_asm) (by k_asm) (by walk_at "my sub") ?_
  exact ⟨_, _, _, rfl, by walk_at "my vis"⟩
noncomputable def rsign (z x k : Int) : Int × Int × Int :=
  let g := fromJac (jmul (GX, GY, 1) k)
  let s := (invF k NI * (z + g.1 * x)).fmod NI
  if s * 2 < NI then (27 + Builtin.bitXor (g.2.fmod 2) 0, g.1, s) else (27 + Builtin.bitXor (g.2.fmod 2) 1, g.1, NI - s)
noncomputable abbrev signC (K : Frag) : Con (Array UInt8 × Array UInt8 × Int) where
  Rel := fun _ vs d => ∃ t u v, vs = [.bytes d.1 t, .bytes d.2.1 u, .int d.2.2 v, .ref 22]
  Ok := fun d => d.1.size ≤ 64 ∧ d.2.1.size ≤ 64
  size := fun _ => 275
  Out := fun news r d => T3 K news r (rsign (bytesInt d.1) (bytesInt d.2.1) d.2.2)
theorem signR {K : Frag} {news : List (Addr × Obj)} {b c : Array UInt8} {k : Int} {t u v : Tok} : (signC K).Rel news [.bytes b t, .bytes c u, .int k v, .ref 22] (b, c, k) := ⟨t, u, v, rfl⟩
theorem signW {prog : Program} {w : World} {p : Program} {loose : List Str} {mean : ExcName → Option Value} {mg mb : Str → Option Value} : ∀ d, Holds prog w (K39 w.params) p loose mean mg mb 99 (signC (K39 w.params)) d := by
  walk_at "my head"
  refine holds_of fun d IH => ?_
  clear IH
  unfold Holds
  intro dp un gd cn cs a ccd cl outer A₀ base h₀ L m news s vs Q E B F X N T hk hR hok hd hu hret
  obtain ⟨jb, jc, jk⟩ := d
  dsimp only [signC] at hR hok hd hu
  obtain ⟨t, u, v, rfl⟩ := hR
  obtain ⟨b1, b2⟩ := hok
  refine wpAny_call ?_
  k_dflt ktr_enter
  k_steps
  all_goals refine hret _ _ _ _ (by k_asm) (by k_asm) (by walk_at "my sub") ?_
  all_goals show T3 _ _ _ (rsign (bytesInt jb) (bytesInt jc) jk)
  all_goals unfold rsign
  all_goals dsimp only
  · rw [if_pos (by assumption)]
    exact ⟨_, _, _, _, rfl, by walk_at "my vis"⟩
  · rw [if_neg (by assumption)]
    exact ⟨_, _, _, _, rfl, by walk_at "my vis"⟩
theorem priv_use {prog : Program} {w : World} {p : Program} {loose : List Str} {mean : ExcName → Option Value} {mg mb : Str → Option Value} {dp un : Nat} {gd : Option (List Code)} {cn : Str} {cs : Scope} {a : Addr} {ccd : Value} {cl : List (Str × Addr)} {outer : List Env} {A₀ : Around} {base h₀ : Heap} {L : Addr} {m : Str → Option Value} {news : List (Addr × Obj)} {s : Shared} {Q E : Value → Shared → Prop} {b : Array UInt8} {t1 : Tok} (B : Below A₀ base outer h₀) (F : Fr h₀ L s.heap m) (X0 : (K39 w.params).In h₀) (N : News h₀ L s.heap news) (T : Top p loose mean mg mb h₀) (hk : cs.kind = .function) (ok : b.size ≤ 64) (hd9 : dp + 274 < recursionLimit) (hu9 : un + 8 * 274 < cLine) (ret : ∀ a9 u1 u2 n' h' k', Fr h₀ L h' m → News h₀ L h' n' → Sub news n' → Vis (K39 w.params) n' a9 [.int (fromJac (jmul (GX, GY, 1) (bytesInt b))).1 u1, .int (fromJac (jmul (GX, GY, 1) (bytesInt b))).2 u2] → Q (.ref a9) { s with heap := h', toks := k' }) :
    wpAny (model prog w) (ktrTop dp un gd cn cs L a ccd cl outer) (call (.ref 92) [.bytes b t1, .ref 22]) Q E s := by
  refine holds_use (privW b) B F X0 N T hk privR ok hd9 hu9 fun r n' h' k' F' N' hs ho => ?_
  obtain ⟨a9, u1, u2, e, V9⟩ := ho; subst e; exact ret _ _ _ _ _ _ F' N' hs V9
theorem sign_use {prog : Program} {w : World} {p : Program} {loose : List Str} {mean : ExcName → Option Value} {mg mb : Str → Option Value} {dp un : Nat} {gd : Option (List Code)} {cn : Str} {cs : Scope} {a : Addr} {ccd : Value} {cl : List (Str × Addr)} {outer : List Env} {A₀ : Around} {base h₀ : Heap} {L : Addr} {m : Str → Option Value} {news : List (Addr × Obj)} {s : Shared} {Q E : Value → Shared → Prop} {b c : Array UInt8} {x : Int} {t1 t2 t3 : Tok} (B : Below A₀ base outer h₀) (F : Fr h₀ L s.heap m) (X0 : (K39 w.params).In h₀) (N : News h₀ L s.heap news) (T : Top p loose mean mg mb h₀) (hk : cs.kind = .function) (ok : b.size ≤ 64 ∧ c.size ≤ 64) (hd9 : dp + 275 < recursionLimit) (hu9 : un + 8 * 275 < cLine) (ret : ∀ a9 u1 u2 u3 n' h' k', Fr h₀ L h' m → News h₀ L h' n' → Sub news n' → Vis (K39 w.params) n' a9 [.int (rsign (bytesInt b) (bytesInt c) x).1 u1, .int (rsign (bytesInt b) (bytesInt c) x).2.1 u2, .int (rsign (bytesInt b) (bytesInt c) x).2.2 u3] → Q (.ref a9) { s with heap := h', toks := k' }) :
    wpAny (model prog w) (ktrTop dp un gd cn cs L a ccd cl outer) (call (.ref 99) [.bytes b t1, .bytes c t2, .int x t3, .ref 22]) Q E s := by
  refine holds_use (signW (b, c, x)) B F X0 N T hk signR ok hd9 hu9 fun r n' h' k' F' N' hs ho => ?_
  obtain ⟨a9, u1, u2, u3, e, V9⟩ := ho; subst e; exact ret _ _ _ _ _ _ _ F' N' hs V9
end Mine
namespace Mine
open PySem.Builtin.Int (intBits)
theorem isi_meta_tuple : typeOf (.type "tuple") = pure (.type "type") := by kernel_rfl
theorem isi_self_tuple : isSubtype (.type "tuple") (.type "tuple") = pure true := by rw [isSubtype_type]; kernel_rfl
section
variable {prog : Program} {w : World} {A : Around} {E : Value → Shared → Prop} {s : Shared} {h₀ : Heap} {L : Addr} {m : Str → Option Value} {K : Frag} {news : List (Addr × Obj)} {a b : Addr} {Q : Value → Shared → Prop}
theorem isi_vis {vs : List Value} (F : Fr h₀ L s.heap m) (X : K.In h₀) (N : News h₀ L s.heap news) (v : Vis K news a vs) (h : Q (.bool true) s) : wpAny (model prog w) A (call (.builtin "isinstance") [.ref a, .type "tuple"]) Q E s :=
  call_isinstance (isinstance_true isi_meta_tuple isi_self_tuple) ⟨(v.isTup F X N).typeIs, h⟩
theorem reads_vis {vs : List Value} {ds : List PyData} (F : Fr h₀ L s.heap m) (X : K.In h₀) (N : News h₀ L s.heap news) (v : Vis K news a vs) (h : ReadsAll s.heap vs ds []) : Reads s.heap (.ref a) (.tuple ds) [] := by
  obtain ⟨o, ho, hc, n, hd⟩ := v.isTup F X N
  exact reads_tuple_at ho hc hd (by simpa using h)
theorem eq_vis2 {x y x' y' : Int} {t1 t2 u1 u2 : Tok} (F : Fr h₀ L s.heap m) (X : K.In h₀) (N : News h₀ L s.heap news) (v : Vis K news a [.int x t1, .int y t2]) (v' : Vis K news b [.int x' u1, .int y' u2]) (hu : A.units + 64 < cLine)
    (h : Q (.bool (decide ((x, y) = (x', y')))) s) : wpAny (model prog w) A (compareOp .Eq (.ref a) (.ref b)) Q E s := by
  refine eq_dataH (reads_vis F X N v (.cons (.int _ _) (.cons (.int _ _) .nil))) (reads_vis F X N v' (.cons (.int _ _) (.cons (.int _ _) .nil))) rfl rfl hu ?_
  have e : PyData.eqv (.tuple [.int x, .int y]) (.tuple [.int x', .int y']) = decide ((x, y) = (x', y')) := by
    simp only [PyData.eqv, PyData.eqvAll, Prod.mk.injEq, Bool.and_true]
    by_cases h1 : x = x' <;> by_cases h2 : y = y' <;> simp [h1, h2]
  rw [e]; exact h
theorem eq_vis3 {x y z x' y' z' : Int} {t1 t2 t3 u1 u2 u3 : Tok} (F : Fr h₀ L s.heap m) (X : K.In h₀) (N : News h₀ L s.heap news) (v : Vis K news a [.int x t1, .int y t2, .int z t3]) (v' : Vis K news b [.int x' u1, .int y' u2, .int z' u3]) (hu : A.units + 64 < cLine)
    (h : Q (.bool (decide ((x, y, z) = (x', y', z')))) s) : wpAny (model prog w) A (compareOp .Eq (.ref a) (.ref b)) Q E s := by
  refine eq_dataH (reads_vis F X N v (.cons (.int _ _) (.cons (.int _ _) (.cons (.int _ _) .nil)))) (reads_vis F X N v' (.cons (.int _ _) (.cons (.int _ _) (.cons (.int _ _) .nil)))) rfl rfl hu ?_
  have e : PyData.eqv (.tuple [.int x, .int y, .int z]) (.tuple [.int x', .int y', .int z']) = decide ((x, y, z) = (x', y', z')) := by
    simp only [PyData.eqv, PyData.eqvAll, Prod.mk.injEq, Bool.and_true]
    by_cases h1 : x = x' <;> by_cases h2 : y = y' <;> by_cases h3 : z = z' <;> simp [h1, h2, h3]
  rw [e]; exact h
theorem ne_vis2 {x y x' y' : Int} {t1 t2 u1 u2 : Tok} (F : Fr h₀ L s.heap m) (X : K.In h₀) (N : News h₀ L s.heap news) (v : Vis K news a [.int x t1, .int y t2]) (v' : Vis K news b [.int x' u1, .int y' u2]) (hu : A.units + 64 < cLine)
    (h : Q (.bool (!decide ((x, y) = (x', y')))) s) : wpAny (model prog w) A (compareOp .NotEq (.ref a) (.ref b)) Q E s := by
  refine ne_dataH (reads_vis F X N v (.cons (.int _ _) (.cons (.int _ _) .nil))) (reads_vis F X N v' (.cons (.int _ _) (.cons (.int _ _) .nil))) rfl rfl hu ?_
  have e : PyData.eqv (.tuple [.int x, .int y]) (.tuple [.int x', .int y']) = decide ((x, y) = (x', y')) := by
    simp only [PyData.eqv, PyData.eqvAll, Prod.mk.injEq, Bool.and_true]
    by_cases h1 : x = x' <;> by_cases h2 : y = y' <;> simp [h1, h2]
  rw [e]; exact h
theorem eq_visI {x y n : Int} {t1 t2 u : Tok} (F : Fr h₀ L s.heap m) (X : K.In h₀) (N : News h₀ L s.heap news) (v : Vis K news a [.int x t1, .int y t2]) (hu : A.units + 64 < cLine)
    (h : Q (.bool false) s) : wpAny (model prog w) A (compareOp .Eq (.ref a) (.int n u)) Q E s :=
  eq_dataH (reads_vis F X N v (.cons (.int _ _) (.cons (.int _ _) .nil))) (.int _ _) rfl rfl hu h
theorem ne_visI {x y n : Int} {t1 t2 u : Tok} (F : Fr h₀ L s.heap m) (X : K.In h₀) (N : News h₀ L s.heap news) (v : Vis K news a [.int x t1, .int y t2]) (hu : A.units + 64 < cLine)
    (h : Q (.bool true) s) : wpAny (model prog w) A (compareOp .NotEq (.ref a) (.int n u)) Q E s :=
  ne_dataH (reads_vis F X N v (.cons (.int _ _) (.cons (.int _ _) .nil))) (.int _ _) rfl rfl hu h
end
theorem two256_ne : (2 : Int) ^ Int.toNat 256 ≠ 0 := by decide +kernel
theorem two256_eq : (2 : Int) ^ Int.toNat 256 = 115792089237316195423570985008687907853269984665640564039457584007913129639936 := by decide +kernel
theorem mod256_lt (a : Int) : 0 ≤ a.fmod (2 ^ Int.toNat 256) ∧ a.fmod (2 ^ Int.toNat 256) < 256 ^ 32 := by
  have h := (fdiv_fmod_facts a (2 ^ Int.toNat 256)).2.2.1 (by decide +kernel)
  refine ⟨h.1, Int.lt_of_lt_of_le h.2 (by decide +kernel)⟩
theorem mod256_bits (a : Int) : intBits (a.fmod (2 ^ Int.toNat 256)) ≤ 300 := bits_fmod_by two256_ne (by decide +kernel)
theorem oct_ok (a : Int) : octC.Ok (a.fmod (2 ^ Int.toNat 256)) := mod256_lt a
theorem oct_ok2 (a b : Int) : (octets a).size ≤ 64 ∧ (octets b).size ≤ 64 := by rw [octets_size, octets_size]; decide
theorem oct_ok1 (a : Int) : (octets a).size ≤ 64 := by rw [octets_size]; decide
/-- a cut in a block: the first part ends in P (or leaves as it may), the rest goes on from P -/
noncomputable def CutPost (P : Shared → Prop) (Q : Flow → Shared → Prop) (f : Flow) (s : Shared) : Prop := match f with
  | .next => P s
  | f => Q f s
theorem wp_append {M : Model} {Γ : Ctx} {env : Env} {post : Flow → Pos → Shared → Prop} {exc : Value → Pos → Shared → Prop} (l2 : List Stmt) : ∀ (l1 : List Stmt) (p : Pos) (s : Shared),
    Sem.wp M Γ (execs (l1 ++ l2) env) post exc p s = Sem.wp M Γ (execs l1 env) (fun f p' s' => match f with | .next => Sem.wp M Γ (execs l2 env) post exc p' s' | f => post f p' s') exc p s
  | [], _, _ => rfl
  | st :: r, p, s => by
    show Sem.wp M Γ (execs (st :: (r ++ l2)) env) post exc p s = _
    rw [execs_cons, execs_cons, Sem.wp_bind', Sem.wp_bind']
    congr 1
    funext f p' s'
    cases f with
    | next => exact wp_append l2 r p' s'
    | _ => rfl
theorem cut {M : Model} {A : Around} {env : Env} {E : Value → Shared → Prop} {Q : Flow → Shared → Prop} {s : Shared} (P : Shared → Prop) (l1 l2 : List Stmt)
    (h1 : wpAny M A (execs l1 env) (CutPost P Q) E s) (h2 : ∀ s', P s' → wpAny M A (execs l2 env) Q E s') : wpAny M A (execs (l1 ++ l2) env) Q E s := fun Γ p hΓ => by
  rw [wp_append]
  refine Sem.wp_mono M Γ _ (fun f p' s' h => ?_) (fun _ _ _ h => h) _ _ (h1 Γ p hΓ)
  cases f with
  | next => exact h2 s' h Γ p' hΓ
  | _ => exact h
theorem cut_at {M : Model} {A : Around} {env : Env} {E : Value → Shared → Prop} {Q : Flow → Shared → Prop} {s : Shared} {l : List Stmt} (P : Shared → Prop) (n : Nat)
    (h1 : wpAny M A (execs (l.take n) env) (CutPost P Q) E s) (h2 : ∀ s', P s' → wpAny M A (execs (l.drop n) env) Q E s') : wpAny M A (execs l env) Q E s := by
  have h := cut P (l.take n) (l.drop n) h1 h2
  rwa [List.take_append_drop] at h
theorem VisL.head {news : List (Addr × Obj)} {a : Addr} {vs : List Value} {n : Nat} {dd : Option Addr} {sl : Array (Option Value)} : VisL ((a, { cls := .type "list", dict := dd, data := .seq vs.toArray n, slots := sl }) :: news) a vs := ⟨_, n, .head _, rfl, rfl⟩
theorem item_pick2 {prog : Program} {w : World} {A : Around} {E : Value → Shared → Prop} {s : Shared} {h₀ : Heap} {L : Addr} {news : List (Addr × Obj)} {value slice : Expr} {t : Addr} {x y : Value} {n : Int} {u : Tok} {Q : Value → Shared → Prop}
    (N : News h₀ L s.heap news) (v : VisL news t [x, y]) (hx : n.fmod 2 = 0 → Q x s) (hy : n.fmod 2 = 1 → Q y s)
    (hs : ∀ k : Int, subscripted slice false (.ref t) (.int k u) = operate [.ref t, .int k u] (getItem (.ref t) (.int k u)) := by intro k; with_unfolding_all rfl) :
    wpAny (model prog w) A (subscriptTail value slice (.ref t) (.int (n.fmod 2) u)) Q E s := by
  have f := (fdiv_fmod_facts n 2).2.2.1 (by decide)
  rcases (show n.fmod 2 = 0 ∨ n.fmod 2 = 1 by omega) with e | e
  · have h := hx e
    rw [e]
    exact item_visL N v (by decide) (by decide) rfl h (hs 0)
  · have h := hy e
    rw [e]
    exact item_visL N v (by decide) (by decide) rfl h (hs 1)
theorem invF_bitsN' (a : Int) : intBits (invF a 115792089237316195423570985008687907852837564279074904382605163141518161494337) ≤ 300 := invF_bits _ (by decide +kernel) bitsN3
end Mine
namespace Mine
open PySem.Builtin.Int (intBits)
local macro_rules | `(tactic| walk_at "my vopt") => `(tactic| first
  | with_reducible assumption
  | with_reducible exact VOpt.none
  | ((with_reducible refine' VOpt.some ?hv); (case hv => walk_at "my vis"))
  | ((with_reducible refine' VOpt.tail ?hv); (case hv => walk_at "my vopt"))
  | ((with_reducible refine' VOpt.sub ?hw ?hv); (case hw => assumption); (case hv => walk_at "my vopt")))
theorem BO.mk {X Y : Int} (h1 : intBits X ≤ 300) (h2 : intBits Y ≤ 300) : BO (some (X, Y)) := ⟨h1, h2⟩
theorem bits_of_256 {a : Int} (h : intBits a ≤ 256) : intBits a ≤ 300 := Nat.le_trans h (by decide)
theorem bits_of_257 {a : Int} (h : intBits a ≤ 257) : intBits a ≤ 300 := Nat.le_trans h (by decide)
theorem bits_subP {a : Int} (h : intBits a ≤ 256) : intBits (115792089237316195423570985008687907853269984665640564039457584007908834671663 - a) ≤ 300 := Nat.le_trans (bits_sub bitsP h) (by decide)
theorem bitsGY' : intBits 32670510020758816978083085130507043184471273380659243275938904335757337482424 ≤ 256 := by decide +kernel
theorem BO_pt1 {x z e : Int} : BO (some (x.fmod PI, PI - powZ z e PI)) := ⟨bits_modP _, bits_subP powZ_bitsP⟩
theorem BO_pt2 {x z e : Int} : BO (some (x.fmod PI, powZ z e PI)) := ⟨bits_modP _, bits_of_256 powZ_bitsP⟩
theorem BO_g1 : BO (some (55066263022277343669578718895168534326250603453777594175500187360389116729240, 32670510020758816978083085130507043184471273380659243275938904335757337482424)) := ⟨bitsGX, bitsGY⟩
theorem BO_g2 : BO (some (55066263022277343669578718895168534326250603453777594175500187360389116729240, PI - 32670510020758816978083085130507043184471273380659243275938904335757337482424)) := ⟨bitsGX, bits_subP bitsGY'⟩
local macro_rules | `(tactic| walk_at "my ok") => `(tactic| first
  | with_reducible assumption
  | with_reducible exact True.intro
  | with_reducible exact BO_pt1
  | with_reducible exact BO_pt2
  | with_reducible exact BO_g1
  | with_reducible exact BO_g2
  | ((with_reducible refine' ladd_BO ?h1 ?h2); (case h1 => walk_at "my ok"); (case h2 => walk_at "my ok"))
  | ((with_reducible refine' ltimes_BO _ ?h1); (case h1 => walk_at "my ok"))
  | ((with_reducible refine' And.intro ?h1 ?h2); (case h1 => walk_at "my ok"); (case h2 => walk_at "my ok")))
local macro_rules | `(tactic| walk_at "call ref") => `(tactic| (k_here; (with_reducible show wpAny _ _ (PySem.call (Value.ref 121) _) _ _ _); k_dflt (refine' ladd_use ?_ ?_ ?_ ?_ ?_ ?_ ?_ ?_ ?_ ?_ ?_ ?_ <;> walk_at "my prem")))
local macro_rules | `(tactic| walk_at "call ref") => `(tactic| (k_here; (with_reducible show wpAny _ _ (PySem.call (Value.ref 128) _) _ _ _); k_dflt (refine' times_use ?_ ?_ ?_ ?_ ?_ ?_ ?_ ?_ ?_ ?_ ?_ <;> walk_at "my prem")))
local macro_rules | `(tactic| walk_at "call ref") => `(tactic| (k_here; (with_reducible show wpAny _ _ (PySem.call (Value.ref 113) _) _ _ _); k_dflt (refine' lp_use ?_ ?_ ?_ ?_ ?_ ?_ ?_ ?_ ?_ <;> walk_at "my prem")))
local macro_rules | `(tactic| walk_at "call builtin:pow") => `(tactic| (k_here; (with_reducible refine pow3 ?ha ?hb ?_); (case ha => decide +kernel); (case hb => decide +kernel)))
local macro_rules | `(tactic| bits_by_make) => `(tactic| first | with_reducible exact powZ_bitsP | with_reducible exact powZ_bitsN)
noncomputable def lkey (v r s told : Int) : Option (Option (Int × Int)) :=
  if (v ≠ 27 ∧ v ≠ 28) ∨ r.fmod NI = 0 ∨ s.fmod NI = 0 then none else
    let square := (r * r * r + 7).fmod PI
    let y := powZ square ((PI + 1).fdiv 4) PI
    if (y * y).fmod PI ≠ square then none else
      let point := ltimes (some (r.fmod PI, if y.fmod 2 ≠ v - 27 then PI - y else y)) (s.fmod NI)
      let number := told.fmod NI
      let other := if NI.fdiv 2 < number then ltimes (some (GX, GY)) (NI - number) else ltimes (some (GX, PI - GY)) number
      some (ltimes (ladd point other) (powZ r (NI - 2) NI))
theorem any_27 {v : Int} (h : ([27, 28].any fun x => x == v) = true) : ¬ (v ≠ 27 ∧ v ≠ 28) := by
  simp at h
  omega
theorem any_28 {v : Int} (h : ([27, 28].any fun x => x == v) = false) : v ≠ 27 ∧ v ≠ 28 := by
  simp at h
  omega
theorem lkey_0 {v r s told : Int} (h : ([27, 28].any fun x => x == v) = false) : lkey v r s told = none := by
  unfold lkey; rw [if_pos (Or.inl (any_28 h))]
theorem lkey_1 {v r s told : Int} (h : ([27, 28].any fun x => x == v) = true) (h1 : r.fmod NI = 0) : lkey v r s told = none := by
  unfold lkey; rw [if_pos (Or.inr (Or.inl h1))]
theorem lkey_2 {v r s told : Int} (h1 : s.fmod NI = 0) : lkey v r s told = none := by
  unfold lkey; rw [if_pos (Or.inr (Or.inr h1))]
theorem lkey_3 {v r s told : Int} (h : (powZ ((r * r * r + 7).fmod PI) ((PI + 1).fdiv 4) PI * powZ ((r * r * r + 7).fmod PI) ((PI + 1).fdiv 4) PI).fmod PI ≠ (r * r * r + 7).fmod PI) : lkey v r s told = none := by
  unfold lkey
  split
  · rfl
  · dsimp only; rw [if_pos h]
theorem lkey_4 {v r s told : Int} (h : ([27, 28].any fun x => x == v) = true) (h1 : ¬ r.fmod NI = 0) (h2 : ¬ s.fmod NI = 0) (h3 : (powZ ((r * r * r + 7).fmod PI) ((PI + 1).fdiv 4) PI * powZ ((r * r * r + 7).fmod PI) ((PI + 1).fdiv 4) PI).fmod PI = (r * r * r + 7).fmod PI) :
    lkey v r s told = some (ltimes (ladd (ltimes (some (r.fmod PI, if (powZ ((r * r * r + 7).fmod PI) ((PI + 1).fdiv 4) PI).fmod 2 ≠ v - 27 then PI - powZ ((r * r * r + 7).fmod PI) ((PI + 1).fdiv 4) PI else powZ ((r * r * r + 7).fmod PI) ((PI + 1).fdiv 4) PI)) (s.fmod NI))
      (if NI.fdiv 2 < told.fmod NI then ltimes (some (GX, GY)) (NI - told.fmod NI) else ltimes (some (GX, PI - GY)) (told.fmod NI))) (powZ r (NI - 2) NI)) := by
  unfold lkey
  rw [if_neg (fun x => x.elim (any_27 h) (fun x => x.elim h1 h2))]
  dsimp only
  rw [if_neg (fun x => x h3)]
noncomputable def KeyOut (K : Frag) (news : List (Addr × Obj)) (v : Value) : Option (Option (Int × Int)) → Prop
  | none => ∃ t, v = .int 0 t
  | some o => VOpt K news v o
noncomputable abbrev keyC (K : Frag) : Con (Int × Int × Int × Int) where
  Rel := fun _ vs d => ∃ t1 t2 t3 t4, vs = [.int d.1 t1, .int d.2.1 t2, .int d.2.2.1 t3, .int d.2.2.2 t4]
  Ok := fun d => intBits d.2.1 ≤ 300
  size := fun _ => 5
  Out := fun news r d => KeyOut K news r (lkey d.1 d.2.1 d.2.2.1 d.2.2.2)
theorem keyR {K : Frag} {news : List (Addr × Obj)} {v r s told : Int} {t1 t2 t3 t4 : Tok} : (keyC K).Rel news [.int v t1, .int r t2, .int s t3, .int told t4] (v, r, s, told) := ⟨t1, t2, t3, t4, rfl⟩
theorem keyW {prog : Program} {w : World} {p : Program} {loose : List Str} {mean : ExcName → Option Value} {mg mb : Str → Option Value} : ∀ d, Holds prog w (K39 w.params) p loose mean mg mb 149 (keyC (K39 w.params)) d := by
  walk_at "my head"
  refine holds_of fun d IH => ?_
  clear IH
  unfold Holds
  intro dp un gd cn cs a ccd cl outer A₀ base h₀ L m news s vs Q E B F X N T hk hR hok hd hu hret
  obtain ⟨jv, jr, js, jt⟩ := d
  dsimp only [keyC] at hR hok hd hu
  obtain ⟨t1, t2, t3, t4, rfl⟩ := hR
  refine wpAny_call ?_
  k_dflt ktr_enter
  k_steps
  all_goals refine hret _ _ _ _ (by k_asm) (by k_asm) (by walk_at "my sub") ?_
  all_goals show KeyOut _ _ _ (lkey jv jr js jt)
  · rw [lkey_1 (by assumption) (by assumption)]; exact ⟨_, rfl⟩
  · rw [lkey_2 (by assumption)]; exact ⟨_, rfl⟩
  · rw [lkey_3 (by assumption)]; exact ⟨_, rfl⟩
  · rw [lkey_4 (by assumption) (by assumption) (by assumption) (by assumption), if_pos (by assumption), if_pos (by assumption)]; (show VOpt _ _ _ (ltimes _ _)); walk_at "my vopt"
  · rw [lkey_4 (by assumption) (by assumption) (by assumption) (by assumption), if_pos (by assumption), if_neg (by assumption)]; (show VOpt _ _ _ (ltimes _ _)); walk_at "my vopt"
  · rw [lkey_4 (by assumption) (by assumption) (by assumption) (by assumption), if_neg (by simpa using (by assumption : (powZ ((jr * jr * jr + 7).fmod PI) ((PI + 1).fdiv 4) PI).fmod 2 = jv - 27)), if_pos (by assumption)]; (show VOpt _ _ _ (ltimes _ _)); walk_at "my vopt"
  · rw [lkey_4 (by assumption) (by assumption) (by assumption) (by assumption), if_neg (by simpa using (by assumption : (powZ ((jr * jr * jr + 7).fmod PI) ((PI + 1).fdiv 4) PI).fmod 2 = jv - 27)), if_neg (by assumption)]; (show VOpt _ _ _ (ltimes _ _)); walk_at "my vopt"
  · rw [lkey_0 (by assumption)]; exact ⟨_, rfl⟩
theorem keyX_use {prog : Program} {w : World} {p : Program} {loose : List Str} {mean : ExcName → Option Value} {mg mb : Str → Option Value} {dp un : Nat} {gd : Option (List Code)} {cn : Str} {cs : Scope} {a : Addr} {ccd : Value} {cl : List (Str × Addr)} {outer : List Env} {A₀ : Around} {base h₀ : Heap} {L : Addr} {m : Str → Option Value} {news : List (Addr × Obj)} {s : Shared} {Q E : Value → Shared → Prop} {v r s9 told : Int} {t1 t2 t3 t4 : Tok} (B : Below A₀ base outer h₀) (F : Fr h₀ L s.heap m) (X0 : (K39 w.params).In h₀) (N : News h₀ L s.heap news) (T : Top p loose mean mg mb h₀) (hk : cs.kind = .function) (ok : intBits r ≤ 300) (hd9 : dp + 5 < recursionLimit) (hu9 : un + 8 * 5 < cLine) (ret0 : lkey v r s9 told = none → ∀ u1 n' h' k', Fr h₀ L h' m → News h₀ L h' n' → Sub news n' → Q (.int 0 u1) { s with heap := h', toks := k' }) (ret1 : lkey v r s9 told = some none → ∀ n' h' k', Fr h₀ L h' m → News h₀ L h' n' → Sub news n' → Q .none { s with heap := h', toks := k' }) (ret2 : ∀ q1 q2, lkey v r s9 told = some (some (q1, q2)) → ∀ a9 u1 u2 n' h' k', Fr h₀ L h' m → News h₀ L h' n' → Sub news n' → Vis (K39 w.params) n' a9 [.int q1 u1, .int q2 u2] → Q (.ref a9) { s with heap := h', toks := k' }) :
    wpAny (model prog w) (ktrTop dp un gd cn cs L a ccd cl outer) (call (.ref 149) [.int v t1, .int r t2, .int s9 t3, .int told t4]) Q E s := by
  refine holds_use (keyW (v, r, s9, told)) B F X0 N T hk keyR ok hd9 hu9 fun r9 n' h' k' F' N' hs ho => ?_
  dsimp only [keyC] at ho
  rcases e : lkey v r s9 told with _ | _ | q
  · rw [e] at ho; obtain ⟨u1, e9⟩ := ho; subst e9; exact ret0 e _ _ _ _ F' N' hs
  · rw [e] at ho; have e9 : r9 = .none := ho; subst e9; exact ret1 e _ _ _ F' N' hs
  · rw [e] at ho; obtain ⟨a9, u1, u2, e9, V9⟩ := ho; subst e9; exact ret2 _ _ e _ _ _ _ _ _ F' N' hs V9
end Mine
namespace Mine
open PySem.Builtin.Int (intBits)
local macro_rules | `(tactic| walk_at "my vopt") => `(tactic| first
  | with_reducible assumption
  | with_reducible exact VOpt.none
  | ((with_reducible refine' VOpt.some ?hv); (case hv => walk_at "my vis"))
  | ((with_reducible refine' VOpt.tail ?hv); (case hv => walk_at "my vopt"))
  | ((with_reducible refine' VOpt.sub ?hw ?hv); (case hw => assumption); (case hv => walk_at "my vopt")))
local macro_rules | `(tactic| walk_at "my visl") => `(tactic| first
  | with_reducible assumption
  | exact VisL.head
  | ((with_reducible refine' VisL.tail ?hv); (case hv => walk_at "my visl"))
  | ((with_reducible refine' VisL.sub ?hw ?hv); (case hw => assumption); (case hv => walk_at "my visl")))
local macro_rules | `(tactic| walk_at "my ok") => `(tactic| first
  | with_reducible assumption
  | with_reducible exact True.intro
  | with_reducible exact BO_pt1
  | with_reducible exact BO_pt2
  | with_reducible exact BO_g1
  | with_reducible exact BO_g2
  | with_reducible exact oct_ok _
  | ((with_reducible refine' ladd_BO ?h1 ?h2); (case h1 => walk_at "my ok"); (case h2 => walk_at "my ok"))
  | ((with_reducible refine' ltimes_BO _ ?h1); (case h1 => walk_at "my ok"))
  | (exact oct_ok2 _ _)
  | ((with_reducible refine' And.intro ?h1 ?h2); (case h1 => walk_at "my ok"); (case h2 => walk_at "my ok")))
local macro_rules | `(tactic| walk_at "subscriptTail") => `(tactic| (k_here; (with_reducible show wpAny _ _ (subscriptTail _ _ (Value.ref _) (Value.int _ _)) _ _ _); k_dflt (refine' Mine.item_visL ?N ?v ?a ?b ?d ?_; (case N => k_asm); (case v => walk_at "my visl"); (case a => decide); (case b => decide); (case d => rfl); k_whole)))
local macro_rules | `(tactic| walk_at "call builtin:isinstance") => `(tactic| (k_here; (with_reducible show wpAny _ _ (PySem.call _ [Value.ref _, Value.type "tuple"]) _ _ _); k_dflt (refine' isi_vis ?F ?X ?N ?v ?_; (case F => k_asm); (case X => k_asm); (case N => k_asm); (case v => walk_at "my vis"); k_whole)))
local macro_rules | `(tactic| walk_at "my units") => `(tactic| first | exact Nat.le_of_ble_eq_true rfl | ktr_units)
local macro_rules | `(tactic| walk_at "compareOp Eq ref ref") => `(tactic| (k_here; (with_reducible show wpAny _ _ (compareOp CmpOp.Eq (Value.ref _) (Value.ref _)) _ _ _); k_dflt (first
  | (refine' eq_vis2 ?F ?X ?N ?v ?v2 ?u ?_; (case F => k_asm); (case X => k_asm); (case N => k_asm); (case v => walk_at "my vis"); (case v2 => walk_at "my vis"); (case u => walk_at "my units"); k_whole)
  | (refine' eq_vis3 ?F ?X ?N ?v ?v2 ?u ?_; (case F => k_asm); (case X => k_asm); (case N => k_asm); (case v => walk_at "my vis"); (case v2 => walk_at "my vis"); (case u => walk_at "my units"); k_whole))))
local macro_rules | `(tactic| walk_at "compareOp NotEq ref ref") => `(tactic| (k_here; (with_reducible show wpAny _ _ (compareOp CmpOp.NotEq (Value.ref _) (Value.ref _)) _ _ _); k_dflt (refine' ne_vis2 ?F ?X ?N ?v ?v2 ?u ?_; (case F => k_asm); (case X => k_asm); (case N => k_asm); (case v => walk_at "my vis"); (case v2 => walk_at "my vis"); (case u => walk_at "my units"); k_whole)))
local macro_rules | `(tactic| walk_at "compareOp Eq ref int") => `(tactic| (k_here; k_dflt (refine' eq_visI ?F ?X ?N ?v ?u ?_; (case F => k_asm); (case X => k_asm); (case N => k_asm); (case v => walk_at "my vis"); (case u => walk_at "my units"); k_whole)))
local macro_rules | `(tactic| walk_at "compareOp NotEq ref int") => `(tactic| (k_here; k_dflt (refine' ne_visI ?F ?X ?N ?v ?u ?_; (case F => k_asm); (case X => k_asm); (case N => k_asm); (case v => walk_at "my vis"); (case u => walk_at "my units"); k_whole)))
local macro_rules | `(tactic| walk_at "call builtin:pow") => `(tactic| (k_here; (with_reducible refine pow3 ?ha ?hb ?_); (case ha => decide +kernel); (case hb => decide +kernel)))
local macro_rules | `(tactic| bits_by_make) => `(tactic| first | with_reducible exact powZ_bitsP | with_reducible exact powZ_bitsN | with_reducible exact mod256_bits _ | with_reducible exact invF_bitsN' _)
local macro_rules | `(tactic| walk_at "binaryOp Mod int int") => `(tactic| (k_here; (with_reducible refine mod_int' two256_ne ?_)))
local macro_rules | `(tactic| walk_at "subscriptTail") => `(tactic| (k_here; (with_reducible show wpAny _ _ (subscriptTail _ _ (Value.ref _) (Value.int (Int.fmod _ 2) _)) _ _ _); k_dflt (refine' item_pick2 ?N ?v ?_ ?_; (case N => k_asm); (case v => walk_at "my visl")); intro hpick))
local macro_rules | `(tactic| walk_at "call ref") => `(tactic| (k_here; (with_reducible show wpAny _ _ (PySem.call (Value.ref 128) _) _ _ _); k_dflt (refine' timesS_use ?_ ?_ ?_ ?_ ?_ ?_ ?_ ?_ ?_ ?_ ?_ ?_ <;> walk_at "my prem")))
local macro_rules | `(tactic| walk_at "call ref") => `(tactic| (k_here; (with_reducible show wpAny _ _ (PySem.call (Value.ref 135) _) _ _ _); k_dflt (refine' oct_use ?_ ?_ ?_ ?_ ?_ ?_ ?_ ?_ ?_ ?_ <;> walk_at "my prem")))
local macro_rules | `(tactic| walk_at "call ref") => `(tactic| (k_here; (with_reducible show wpAny _ _ (PySem.call (Value.ref 99) _) _ _ _); k_dflt (refine' sign_use ?_ ?_ ?_ ?_ ?_ ?_ ?_ ?_ ?_ ?_ <;> walk_at "my prem")))
noncomputable def lsigned (g1 g3 once : Int) (p : Int × Int) : Bool :=
  let secret := g1.fmod (2 ^ 256)
  let told := g3.fmod (2 ^ 256)
  let s := (powZ once (NI - 2) NI * (told + p.1 * secret)).fmod NI
  let t := if NI ≤ 2 * s then (27 + (1 - p.2.fmod 2), p.1, NI - s) else (27 + p.2.fmod 2, p.1, s)
  decide (rsign told secret once = t)
theorem lsigned_1 {g1 g3 once pX pY : Int} (h : NI ≤ 2 * (powZ once (NI - 2) NI * (g3.fmod (2 ^ Int.toNat 256) + pX * g1.fmod (2 ^ Int.toNat 256))).fmod NI) : lsigned g1 g3 once (pX, pY) =
    decide (rsign (g3.fmod (2 ^ Int.toNat 256)) (g1.fmod (2 ^ Int.toNat 256)) once = (27 + (1 - pY.fmod 2), pX, NI - (powZ once (NI - 2) NI * (g3.fmod (2 ^ Int.toNat 256) + pX * g1.fmod (2 ^ Int.toNat 256))).fmod NI)) := by
  refine decide_eq_decide.mpr ?_
  show (_ = if NI ≤ 2 * (powZ once (NI - 2) NI * (g3.fmod (2 ^ Int.toNat 256) + pX * g1.fmod (2 ^ Int.toNat 256))).fmod NI then _ else _) ↔ _
  rw [if_pos h]
  exact Iff.rfl
theorem lsigned_2 {g1 g3 once pX pY : Int} (h : ¬ NI ≤ 2 * (powZ once (NI - 2) NI * (g3.fmod (2 ^ Int.toNat 256) + pX * g1.fmod (2 ^ Int.toNat 256))).fmod NI) : lsigned g1 g3 once (pX, pY) =
    decide (rsign (g3.fmod (2 ^ Int.toNat 256)) (g1.fmod (2 ^ Int.toNat 256)) once = (27 + pY.fmod 2, pX, (powZ once (NI - 2) NI * (g3.fmod (2 ^ Int.toNat 256) + pX * g1.fmod (2 ^ Int.toNat 256))).fmod NI)) := by
  refine decide_eq_decide.mpr ?_
  show (_ = if NI ≤ 2 * (powZ once (NI - 2) NI * (g3.fmod (2 ^ Int.toNat 256) + pX * g1.fmod (2 ^ Int.toNat 256))).fmod NI then _ else _) ↔ _
  rw [if_neg h]
  exact Iff.rfl
noncomputable abbrev signedC (K : Frag) : Con ((Int × Int × Int) × (Int × Int)) where
  Rel := fun news vs d => ∃ a g0 g4 g5 t0 t1 t2 t3 t4 t5, vs = [.ref a] ∧ VisL news a [.int g0 t0, .int d.1.1 t1, .int d.1.2.1 t2, .int d.1.2.2 t3, .int g4 t4, .int g5 t5]
  Ok := fun d => ltimes (some (GX, GY)) (1 + d.1.2.1.fmod (NI - 1)) = some d.2 ∧ intBits d.2.1 ≤ 300
  size := fun _ => 277
  Out := fun news r d => r = .bool (lsigned d.1.1 d.1.2.2 (1 + d.1.2.1.fmod (NI - 1)) d.2)
theorem signedW {prog : Program} {w : World} {p : Program} {loose : List Str} {mean : ExcName → Option Value} {mg mb : Str → Option Value} : ∀ d, Holds prog w (K39 w.params) p loose mean mg mb 142 (signedC (K39 w.params)) d := by
  walk_at "my head"
  refine holds_of fun d IH => ?_
  clear IH
  unfold Holds
  intro dp un gd cn cs a ccd cl outer A₀ base h₀ L m news s vs Q E B F X N T hk hR hok hd hu hret
  obtain ⟨⟨g1, g2, g3⟩, ⟨pX, pY⟩⟩ := d
  dsimp only [signedC] at hR hok hd hu
  obtain ⟨ja, g0, g4, g5, t0, t1, t2, t3, t4, t5, rfl, V⟩ := hR
  obtain ⟨hok, hbx⟩ := hok
  refine wpAny_call ?_
  k_dflt ktr_enter
  k_steps
  all_goals refine hret _ _ _ _ (by k_asm) (by k_asm) (by walk_at "my sub") ?_
  all_goals show Value.bool (decide (rsign (bytesInt (octets (g3.fmod (2 ^ Int.toNat 256)))) (bytesInt (octets (g1.fmod (2 ^ Int.toNat 256)))) (1 + g2.fmod (NI - 1)) = _)) = Value.bool (lsigned g1 g3 (1 + g2.fmod (NI - 1)) (pX, pY))
  all_goals rw [bytesInt_octets (mod256_lt g3).1 (mod256_lt g3).2, bytesInt_octets (mod256_lt g1).1 (mod256_lt g1).2]
  · rw [lsigned_1 (by assumption)]
  · rw [lsigned_2 (by assumption)]
end Mine
namespace Mine
open PySem.Builtin.Int (intBits)
local macro_rules | `(tactic| walk_at "my vopt") => `(tactic| first
  | with_reducible assumption
  | with_reducible exact VOpt.none
  | ((with_reducible refine' VOpt.some ?hv); (case hv => walk_at "my vis"))
  | ((with_reducible refine' VOpt.tail ?hv); (case hv => walk_at "my vopt"))
  | ((with_reducible refine' VOpt.sub ?hw ?hv); (case hw => assumption); (case hv => walk_at "my vopt")))
local macro_rules | `(tactic| walk_at "my visl") => `(tactic| first
  | with_reducible assumption
  | exact VisL.head
  | ((with_reducible refine' VisL.tail ?hv); (case hv => walk_at "my visl"))
  | ((with_reducible refine' VisL.sub ?hw ?hv); (case hw => assumption); (case hv => walk_at "my visl")))
local macro_rules | `(tactic| walk_at "my ok") => `(tactic| first
  | with_reducible assumption
  | with_reducible exact True.intro
  | with_reducible exact BO_pt1
  | with_reducible exact BO_pt2
  | with_reducible exact BO_g1
  | with_reducible exact BO_g2
  | with_reducible exact oct_ok _
  | ((with_reducible refine' ladd_BO ?h1 ?h2); (case h1 => walk_at "my ok"); (case h2 => walk_at "my ok"))
  | ((with_reducible refine' ltimes_BO _ ?h1); (case h1 => walk_at "my ok"))
  | (exact oct_ok2 _ _)
  | ((with_reducible refine' And.intro ?h1 ?h2); (case h1 => walk_at "my ok"); (case h2 => walk_at "my ok")))
local macro_rules | `(tactic| walk_at "subscriptTail") => `(tactic| (k_here; (with_reducible show wpAny _ _ (subscriptTail _ _ (Value.ref _) (Value.int _ _)) _ _ _); k_dflt (refine' Mine.item_visL ?N ?v ?a ?b ?d ?_; (case N => k_asm); (case v => walk_at "my visl"); (case a => decide); (case b => decide); (case d => rfl); k_whole)))
local macro_rules | `(tactic| walk_at "call builtin:isinstance") => `(tactic| (k_here; (with_reducible show wpAny _ _ (PySem.call _ [Value.ref _, Value.type "tuple"]) _ _ _); k_dflt (refine' isi_vis ?F ?X ?N ?v ?_; (case F => k_asm); (case X => k_asm); (case N => k_asm); (case v => walk_at "my vis"); k_whole)))
local macro_rules | `(tactic| walk_at "my units") => `(tactic| first | exact Nat.le_of_ble_eq_true rfl | ktr_units)
local macro_rules | `(tactic| walk_at "compareOp Eq ref ref") => `(tactic| (k_here; (with_reducible show wpAny _ _ (compareOp CmpOp.Eq (Value.ref _) (Value.ref _)) _ _ _); k_dflt (first
  | (refine' eq_vis2 ?F ?X ?N ?v ?v2 ?u ?_; (case F => k_asm); (case X => k_asm); (case N => k_asm); (case v => walk_at "my vis"); (case v2 => walk_at "my vis"); (case u => walk_at "my units"); k_whole)
  | (refine' eq_vis3 ?F ?X ?N ?v ?v2 ?u ?_; (case F => k_asm); (case X => k_asm); (case N => k_asm); (case v => walk_at "my vis"); (case v2 => walk_at "my vis"); (case u => walk_at "my units"); k_whole))))
local macro_rules | `(tactic| walk_at "compareOp NotEq ref ref") => `(tactic| (k_here; (with_reducible show wpAny _ _ (compareOp CmpOp.NotEq (Value.ref _) (Value.ref _)) _ _ _); k_dflt (refine' ne_vis2 ?F ?X ?N ?v ?v2 ?u ?_; (case F => k_asm); (case X => k_asm); (case N => k_asm); (case v => walk_at "my vis"); (case v2 => walk_at "my vis"); (case u => walk_at "my units"); k_whole)))
local macro_rules | `(tactic| walk_at "compareOp Eq ref int") => `(tactic| (k_here; k_dflt (refine' eq_visI ?F ?X ?N ?v ?u ?_; (case F => k_asm); (case X => k_asm); (case N => k_asm); (case v => walk_at "my vis"); (case u => walk_at "my units"); k_whole)))
local macro_rules | `(tactic| walk_at "compareOp NotEq ref int") => `(tactic| (k_here; k_dflt (refine' ne_visI ?F ?X ?N ?v ?u ?_; (case F => k_asm); (case X => k_asm); (case N => k_asm); (case v => walk_at "my vis"); (case u => walk_at "my units"); k_whole)))
local macro_rules | `(tactic| walk_at "call builtin:pow") => `(tactic| (k_here; (with_reducible refine pow3 ?ha ?hb ?_); (case ha => decide +kernel); (case hb => decide +kernel)))
local macro_rules | `(tactic| bits_by_make) => `(tactic| first | with_reducible exact powZ_bitsP | with_reducible exact powZ_bitsN | with_reducible exact mod256_bits _ | with_reducible exact invF_bitsN' _)
local macro_rules | `(tactic| walk_at "binaryOp Mod int int") => `(tactic| (k_here; (with_reducible refine mod_int' two256_ne ?_)))
local macro_rules | `(tactic| walk_at "subscriptTail") => `(tactic| (k_here; (with_reducible show wpAny _ _ (subscriptTail _ _ (Value.ref _) (Value.int (Int.fmod _ 2) _)) _ _ _); k_dflt (refine' item_pick2 ?N ?v ?_ ?_; (case N => k_asm); (case v => walk_at "my visl")); intro hpick))
theorem vopt_none {K : Frag} {news : List (Addr × Obj)} {r : Value} (h : VOpt K news r none) : r = .none := h
theorem vopt_bo {K : Frag} {news : List (Addr × Obj)} {r : Value} {p : Option (Int × Int)} {n : Int} (h : VOpt K news r (ltimes p n)) (hp : BO p) : VOpt K news r (ltimes p n) ∧ BO (ltimes p n) := ⟨h, ltimes_BO n hp⟩
theorem BO.mk' {X Y : Int} (h1 : intBits X ≤ 300) (h2 : intBits Y ≤ 300) : BO (some (X, Y)) := ⟨h1, h2⟩
noncomputable def Can : Option (Int × Int) → Prop
  | none => True
  | some p => (0 ≤ p.1 ∧ p.1 < PI) ∧ (0 ≤ p.2 ∧ p.2 < PI)
theorem can_mod (a : Int) : 0 ≤ a.fmod PI ∧ a.fmod PI < PI := ⟨Int.fmod_nonneg_of_pos _ (by decide +kernel), Int.fmod_lt_of_pos _ (by decide +kernel)⟩
theorem laddS_Can (p q : Int × Int) : Can (laddS p q) := by
  unfold laddS
  split
  · split
    · trivial
    · exact ⟨can_mod _, can_mod _⟩
  · exact ⟨can_mod _, can_mod _⟩
theorem ladd_Can {p q : Option (Int × Int)} (hp : Can p) (hq : Can q) : Can (ladd p q) := by
  cases p with
  | none => exact hq
  | some p => cases q with
    | none => exact hp
    | some q => exact laddS_Can p q
theorem ltimesLoop_Can : ∀ (k : Nat) {f p : Option (Int × Int)} (n : Int), Can f → Can p → Can (ltimesLoop k f p n)
  | 0, _, _, _, hf, _ => hf
  | k + 1, f, p, n, hf, hp => by
    unfold ltimesLoop
    split
    · exact hf
    · refine ltimesLoop_Can k _ ?_ (ladd_Can hp hp)
      split
      · exact ladd_Can hf hp
      · exact hf
theorem ltimes_Can {p : Option (Int × Int)} (n : Int) (hp : Can p) : Can (ltimes p n) := ltimesLoop_Can _ _ True.intro hp
theorem can_g : Can (some (GX, GY)) := by unfold Can; decide +kernel
theorem neg_bits {n X Y : Int} (h : ltimes (some (GX, GY)) n = some (X, Y)) : intBits (PI - Y) ≤ 300 := by
  have c := ltimes_Can n can_g
  rw [h] at c
  have c1 := c.2.1
  have c2 := c.2.2
  exact bits_le_of bitsP3 (by dsimp only at c1 c2; have hp : (0 : Int) < PI := by decide +kernel
                              omega)
local macro_rules | `(tactic| walk_at "my ok") => `(tactic| first | ((with_reducible refine' BO.mk' ?h1 ?h2); (case h1 => with_reducible assumption); (case h2 => (first | (with_reducible assumption) | ((with_reducible refine' neg_bits ?h); (case h => with_reducible assumption))))) | with_reducible exact oct_ok1 _)
local macro_rules | `(tactic| bits_by_make) => `(tactic| ((with_reducible refine' neg_bits ?h); (case h => with_reducible assumption)))
local macro_rules | `(tactic| walk_at "call ref") => `(tactic| (k_here; (with_reducible show wpAny _ _ (PySem.call (Value.ref 121) _) _ _ _); k_dflt (refine' laddX_use ?_ ?_ ?_ ?_ ?_ ?_ ?_ ?_ ?_ ?_ ?_ ?_ ?_ <;> walk_at "my prem")))
local macro_rules | `(tactic| walk_at "call ref") => `(tactic| (k_here; (with_reducible show wpAny _ _ (PySem.call (Value.ref 113) _) _ _ _); k_dflt (refine' lp_use ?_ ?_ ?_ ?_ ?_ ?_ ?_ ?_ ?_ <;> walk_at "my prem")))
local macro_rules | `(tactic| walk_at "call ref") => `(tactic| (k_here; (with_reducible show wpAny _ _ (PySem.call (Value.ref 135) _) _ _ _); k_dflt (refine' oct_use ?_ ?_ ?_ ?_ ?_ ?_ ?_ ?_ ?_ ?_ <;> walk_at "my prem")))
local macro_rules | `(tactic| walk_at "call ref") => `(tactic| (k_here; (with_reducible show wpAny _ _ (PySem.call (Value.ref 36) _) _ _ _); k_dflt (refine' invP_use ?_ ?_ ?_ ?_ ?_ ?_ ?_ ?_ ?_ <;> walk_at "my prem")))
local macro_rules | `(tactic| walk_at "call ref") => `(tactic| (k_here; (with_reducible show wpAny _ _ (PySem.call (Value.ref 36) _) _ _ _); k_dflt (refine' invN_use ?_ ?_ ?_ ?_ ?_ ?_ ?_ ?_ ?_ <;> walk_at "my prem")))
local macro_rules | `(tactic| walk_at "call ref") => `(tactic| (k_here; (with_reducible show wpAny _ _ (PySem.call (Value.ref 78) _) _ _ _); k_dflt (refine' maff_use ?_ ?_ ?_ ?_ ?_ ?_ ?_ ?_ ?_ ?_ ?_ <;> walk_at "my prem")))
local macro_rules | `(tactic| walk_at "call ref") => `(tactic| (k_here; (with_reducible show wpAny _ _ (PySem.call (Value.ref 85) _) _ _ _); k_dflt (refine' aaff_use ?_ ?_ ?_ ?_ ?_ ?_ ?_ ?_ ?_ ?_ ?_ ?_ <;> walk_at "my prem")))
local macro_rules | `(tactic| walk_at "call ref") => `(tactic| (k_here; (with_reducible show wpAny _ _ (PySem.call (Value.ref 92) _) _ _ _); k_dflt (refine' priv_use ?_ ?_ ?_ ?_ ?_ ?_ ?_ ?_ ?_ ?_ <;> walk_at "my prem")))
local macro_rules | `(tactic| walk_at "call ref") => `(tactic| (k_here; (with_reducible show wpAny _ _ (PySem.call (Value.ref 128) _) _ _ _); k_dflt (refine' timesX_use ?_ ?_ ?_ ?_ ?_ ?_ ?_ ?_ ?_ ?_ ?_ ?_ <;> walk_at "my prem")))
noncomputable def HoldsL {D : Type} (prog : Program) (w : World) (K : Frag) (p : Program) (loose : List Str) (mean : ExcName → Option Value) (mg mb : Str → Option Value) (f : Addr) (c : Con D) (rl : Addr) (its : Array Value) (d : D) : Prop :=
  ∀ (dp un : Nat) (gd : Option (List Code)) (cn : Str) (cs : Scope) (a : Addr) (ccd : Value) (cl : List (Str × Addr)) (outer : List Env) (A₀ : Around) (base h₀ : Heap) (L : Addr) (m : Str → Option Value) (news : List (Addr × Obj)) (s : Shared) (vs : List Value)
    (Q E : Value → Shared → Prop),
    Below A₀ base outer h₀ → h₀.IsList rl its → base.IsList rl its → Fr h₀ L s.heap m → K.In h₀ → News h₀ L s.heap news → Top p loose mean mg mb h₀ → cs.kind = .function → c.Rel news vs d → c.Ok d → dp + c.size d < recursionLimit → un + 8 * c.size d < cLine →
    (∀ r news' h' tk', Fr h₀ L h' m → News h₀ L h' news' → Sub news news' → c.Out news' r d → Q r { s with heap := h', toks := tk' }) →
    wpAny (model prog w) (ktrTop dp un gd cn cs L a ccd cl outer) (call (.ref f) vs) Q E s
noncomputable def num1 (ns : List Int) : Int := if 1 < ns.length then ns.getD 1 0 else 5
theorem num1_1 {ns : List Int} (h : (1 : Int) < (ns.length : Int)) : num1 ns = ns.getD (Int.toNat 1) 0 := by unfold num1; rw [if_pos (by omega)]; rfl
theorem num1_2 {ns : List Int} (h : ¬ (1 : Int) < (ns.length : Int)) : num1 ns = 5 := by unfold num1; rw [if_neg (by omega)]

structure MultOk (g1 g2 g3 g4 g5 n : Int) : Prop where
  h1 : ltimes (some (GX, GY)) (1 + g2.fmod 500) ≠ none
  h2 : ltimes (some (GX, GY)) (1 + g4.fmod 60) ≠ none
  h3 : ltimes (some (GX, GY)) (1 + g5.fmod 60) ≠ none
  e1 : fromJac (jmul (GX, GY, 1) (g1.fmod (2 ^ Int.toNat 256))) = (ltimes (some (GX, GY)) ((g1.fmod (2 ^ Int.toNat 256)).fmod NI)).getD (0, 0)
  e2 : ∀ p, ltimes (some (GX, GY)) (1 + g2.fmod 500) = some p → fromJac (jmul (p.1, p.2, 1) n) = (ltimes (some p) (n.fmod NI)).getD (0, 0)
  e3 : ∀ one two t, ltimes (some (GX, GY)) (1 + g4.fmod 60) = some one → ltimes (some (GX, GY)) (1 + g5.fmod 60) = some two → (t = two ∨ t = one ∨ t = (one.1, PI - one.2)) →
    fromJac (jadd (one.1, one.2, 1) (t.1, t.2, 1)) = (ladd (some one) (some t)).getD (0, 0)
  e4 : 0 ≤ invF g1 NI ∧ invF g1 NI < NI
  e5 : (invF g1 NI * g1).fmod NI = if g1.fmod NI = 0 then 0 else 1
theorem fin5 {g1 : Int} (h : (invF g1 NI * g1).fmod NI = if g1.fmod NI = 0 then 0 else 1) : Value.bool ((invF g1 115792089237316195423570985008687907852837564279074904382605163141518161494337 * g1).fmod 115792089237316195423570985008687907852837564279074904382605163141518161494337 == if (g1.fmod 115792089237316195423570985008687907852837564279074904382605163141518161494337 != 0) = true then (1 : Int) else 0) = Value.bool true := by
  have e : (if (g1.fmod NI != 0) = true then (1 : Int) else 0) = if g1.fmod NI = 0 then 0 else 1 := by
    by_cases h0 : g1.fmod NI = 0
    · rw [if_pos h0, h0]; rfl
    · rw [if_neg h0, if_pos (by simpa using h0)]
  show Value.bool ((invF g1 NI * g1).fmod NI == if (g1.fmod NI != 0) = true then (1 : Int) else 0) = _
  rw [e, h, beq_self_eq_true]
theorem fin4 {g1 : Int} (h : 0 ≤ invF g1 NI ∧ invF g1 NI < NI) : Value.bool (decide (invF g1 115792089237316195423570985008687907852837564279074904382605163141518161494337 < 115792089237316195423570985008687907852837564279074904382605163141518161494337)) = Value.bool true := congrArg Value.bool (decide_eq_true h.2)
theorem fin3 {g1 : Int} (h : 0 ≤ invF g1 NI ∧ invF g1 NI < NI) : Value.bool (decide (0 ≤ invF g1 115792089237316195423570985008687907852837564279074904382605163141518161494337)) = Value.bool true := congrArg Value.bool (decide_eq_true h.1)
noncomputable abbrev multC (rl : Addr) (n : Int) : Con (Int × Int × Int × Int × Int) where
  Rel := fun news vs d => ∃ a g0 t0 t1 t2 t3 t4 t5, vs = [.ref a, .ref rl] ∧ VisL news a [.int g0 t0, .int d.1 t1, .int d.2.1 t2, .int d.2.2.1 t3, .int d.2.2.2.1 t4, .int d.2.2.2.2 t5]
  Ok := fun d => MultOk d.1 d.2.1 d.2.2.1 d.2.2.2.1 d.2.2.2.2 n ∧ intBits d.1 ≤ 2000000
  size := fun _ => 278
  Out := fun _ r _ => r = .bool true
theorem multW {rl : Addr} {ws : List Value} {ns : List Int} (hI : IntsAre ws ns) (hlen : ns.length ≤ 63) (hlay : PyData.layable0 (.list (ns.map .int)) = true) {prog : Program} {w : World} {p : Program} {loose : List Str} {mean : ExcName → Option Value} {mg mb : Str → Option Value} : ∀ d, HoldsL prog w (K39 w.params) p loose mean mg mb 163 (multC rl (num1 ns)) rl ws.toArray d := by
  walk_at "my head"
  intro d
  unfold HoldsL
  intro dp un gd cn cs a ccd cl outer A₀ base h₀ L m news s vs Q E B hL₀ hL F X N T hk hR hok hd hu hret
  obtain ⟨g1, g2, g3, g4, g5⟩ := d
  dsimp only [multC] at hR hok hd hu
  obtain ⟨hok, hbg⟩ := hok
  obtain ⟨ja, g0, t0, t1, t2, t3, t4, t5, rfl, V⟩ := hR
  refine wpAny_call ?_
  k_dflt ktr_enter
  rename_i g9 L9 h9 FG9 F9 N9 B9 X9 T9
  have hl9 := stays_list B9.stays hL
  refine cut_at (fun s' => ∃ (h' : Heap) (m' : Str → Option Value) (tn tk : Nat), s' = { s with heap := h', toks := tk } ∧ Fr g9 L9 h' m' ∧ m' (Str.ofString "given") = some (.ref ja) ∧ m' (Str.ofString "number") = some (.int (num1 ns) tn) ∧ News g9 L9 h' news) 1 ?_ ?_
  · dsimp only [List.take]
    try k_fold
    k_steps
    · exact ⟨_, _, _, _, rfl, (by k_asm), rfl, by rw [num1_1 (by assumption)]; rfl, (by k_asm)⟩
    · exact ⟨_, _, _, _, rfl, (by k_asm), rfl, by rw [num1_2 (by assumption)]; rfl, (by k_asm)⟩
  · rintro s' ⟨h1, m1, tn, tk, rfl, F1, e1, e2, N1⟩
    have F1 := fr_set (x := Str.ofString "given") (v := .ref ja) e1 F1
    have F1 := fr_set (x := Str.ofString "number") (v := .int (num1 ns) tn) (by with_unfolding_all exact e2) F1
    clear e1 e2 F9 N9
    dsimp only [List.drop]
    refine cut_at (fun s' => ∃ (h' : Heap) (m' : Str → Option Value) (news' : List (Addr × Obj)) (tk : Nat), s' = { s with heap := h', toks := tk } ∧ Fr g9 L9 h' m' ∧ m' (Str.ofString "given") = some (.ref ja) ∧ News g9 L9 h' news' ∧ Sub news news') 2 ?_ ?_
    · have M1 := hok.h1
      dsimp only [List.take]
      try k_fold
      k_steps
      · exact ⟨_, _, _, _, rfl, (by k_asm), rfl, (by k_asm), by walk_at "my sub"⟩
      · exfalso
        rename ¬ _ = ((0 : Int), (0 : Int)) => hne
        rename ltimes _ _ = none => hl
        have E := hok.e1
        rw [hl] at E
        apply hne
        rw [bytesInt_octets (mod256_lt g1).1 (mod256_lt g1).2]
        exact E
      · exact ⟨_, _, _, _, rfl, (by k_asm), rfl, (by k_asm), by walk_at "my sub"⟩
      · exfalso
        rename ¬ ((fromJac _).1, (fromJac _).2) = _ => hne
        rename ltimes _ _ = some _ => hl
        have E := hok.e1
        rw [hl] at E
        apply hne
        rw [bytesInt_octets (mod256_lt g1).1 (mod256_lt g1).2]
        exact E
      · exact ⟨_, _, _, _, rfl, (by k_asm), rfl, (by k_asm), by walk_at "my sub"⟩
      · exfalso
        rename ¬ _ = ((0 : Int), (0 : Int)) => hne
        rename ltimes _ _ = none => hl
        rename ltimes _ (1 + _) = some _ => hp
        have E := hok.e2 _ hp
        rw [hl] at E
        exact hne E
      · exact ⟨_, _, _, _, rfl, (by k_asm), rfl, (by k_asm), by walk_at "my sub"⟩
      · exfalso
        rename ¬ ((fromJac _).1, (fromJac _).2) = _ => hne
        rename ltimes _ (Int.fmod (num1 ns) _) = some _ => hl
        rename ltimes _ (1 + _) = some _ => hp
        have E := hok.e2 _ hp
        rw [hl] at E
        exact hne E
    · clear F1 N1
      rintro s' ⟨h2, m2, news2, tk2, rfl, F1, e1, N1, hs1⟩
      have F1 := fr_set (x := Str.ofString "given") (v := .ref ja) e1 F1
      clear e1
      have M2 := hok.h2
      have M3 := hok.h3
      dsimp only [List.drop]
      try k_fold
      k_steps
      all_goals refine hret _ _ _ _ (by k_asm) (by k_asm) (by walk_at "my sub") ?_
      all_goals first
        | exact fin5 hok.e5
        | exact fin4 hok.e4
        | exact fin3 hok.e4
        | skip
      all_goals exfalso
      all_goals rename ltimes _ (1 + Int.fmod g4 _) = some _ => hp1
      all_goals rename ltimes _ (1 + Int.fmod g5 _) = some _ => hp2
      all_goals rename ladd _ _ = _ => hl
      all_goals rename ¬ _ = _ => hne
      all_goals first
        | (have E := hok.e3 _ _ _ hp1 hp2 (.inl rfl); rw [hl] at E; exact hne E)
        | (have E := hok.e3 _ _ _ hp1 hp2 (.inr (.inl rfl)); rw [hl] at E; exact hne E)
        | (have E := hok.e3 _ _ _ hp1 hp2 (.inr (.inr rfl)); rw [hl] at E; exact hne E)
        | skip
end Mine
namespace Mine
structure Ev (F : Type) [Lean.Grind.CommRing F] [DecidableEq F] (inv : F → F) : Prop where
  fld : IsFld F inv
  cf : ∀ x : Int, ca F (x.fmod PI) = ca F x
  ceq : ∀ x y : Int, ca F x = ca F y ↔ x.fmod PI = y.fmod PI
  cp : ∀ b : Int, ca F (powZ b (PI - 2) PI) = inv (ca F b)
section
variable {F : Type} [Lean.Grind.CommRing F] [DecidableEq F] {inv : F → F}
noncomputable def toF (F : Type) [Lean.Grind.CommRing F] : Option (Int × Int) → Option (F × F)
  | none => none
  | some p => some (ca F p.1, ca F p.2)
theorem fmodP_of {n : Int} (h : 0 ≤ n ∧ n < PI) : n.fmod PI = n := by
  rw [Int.fmod_eq_emod_of_nonneg _ (by decide)]; exact Int.emod_eq_of_lt h.1 h.2
theorem Ev.inj (E : Ev F inv) {x y : Int} (h : ca F x = ca F y) (hx : 0 ≤ x ∧ x < PI) (hy : 0 ≤ y ∧ y < PI) : x = y := by
  rw [E.ceq, fmodP_of hx, fmodP_of hy] at h
  exact h
theorem Ev.zero (E : Ev F inv) (x : Int) : ca F x = 0 ↔ x.fmod PI = 0 := by
  rw [← ca_0, E.ceq, show Int.fmod 0 PI = 0 from Int.zero_fmod _]
theorem toF_inj (E : Ev F inv) {p q : Option (Int × Int)} (h : toF F p = toF F q) (hp : Can p) (hq : Can q) : p = q := by
  cases p with
  | none => cases q with
    | none => rfl
    | some q => cases h
  | some p => cases q with
    | none => cases h
    | some q =>
      dsimp only [toF] at h
      injection h with h
      injection h with h1 h2
      congr 1
      exact Prod.ext (E.inj h1 hp.1 hq.1) (E.inj h2 hp.2 hq.2)
theorem ladd_toF (E : Ev F inv) {p q : Option (Int × Int)} (hp : Can p) (hq : Can q) : toF F (ladd p q) = gadd inv (toF F p) (toF F q) := by
  cases p with
  | none => rfl
  | some p => cases q with
    | none => rfl
    | some q =>
      obtain ⟨X, Y⟩ := p
      obtain ⟨X', Y'⟩ := q
      show toF F (laddS (X, Y) (X', Y')) = _
      unfold laddS
      dsimp only [toF]
      unfold gadd
      dsimp only
      by_cases hx : X = X'
      · rw [if_pos hx, if_pos (show ca F X = ca F X' by rw [hx])]
        by_cases hy : (Y + Y').fmod PI = 0
        · rw [if_pos hy, if_pos (by rw [← ca_add, E.zero]; exact hy)]
        · rw [if_neg hy, if_neg (by rw [← ca_add, E.zero]; exact hy)]
          dsimp only
          simp only [E.cf, ca_sub, ca_mul, E.cp, ca_3, ca_2]
      · rw [if_neg hx, if_neg (fun h => hx (E.inj h hp.1 hq.1))]
        dsimp only
        simp only [E.cf, ca_sub, ca_mul, E.cp]
theorem ltimesLoop_toF (E : Ev F inv) : ∀ (k : Nat) {f p : Option (Int × Int)} {n : Int}, Can f → Can p → On (toF F f) → On (toF F p) → 0 ≤ n → n < 2 ^ k → toF F (ltimesLoop k f p n) = gadd inv (toF F f) (gmul inv n.toNat (toF F p))
  | 0, f, p, n, hf, hp, of, op, h0, h1 => by
    have : n = 0 := by rw [Int.pow_zero] at h1; omega
    subst this
    exact (gadd_none_r _).symm
  | k + 1, f, p, n, hf, hp, of, op, h0, h1 => by
    unfold ltimesLoop
    by_cases h : n = 0 ∨ p = none
    · rw [if_pos h]
      rcases h with h | h
      · subst h; exact (gadd_none_r _).symm
      · subst h
        show _ = gadd inv _ (gmul inv _ none)
        rw [gmul_none, gadd_none_r]
    · rw [if_neg h]
      have H := E.fld
      have f2 := fdiv_fmod_facts n 2
      have g2 := f2.2.2.1 (by decide)
      have ih := @ltimesLoop_toF E k (if n.fmod 2 = 1 then ladd f p else f) (ladd p p) (n.fdiv 2) (by split; exact ladd_Can hf hp; exact hf) (ladd_Can hp hp)
        (by split; (rw [ladd_toF E hf hp]; exact gadd_on H of op); exact of) (by rw [ladd_toF E hp hp]; exact gadd_on H op op) (by omega) (by rw [Int.pow_succ] at h1; omega)
      rw [ih, ladd_toF E hp hp, ← gmul_dbl' H op]
      by_cases h2 : n.fmod 2 = 1
      · rw [if_pos h2, ladd_toF E hf hp, gadd_assoc H of op (gmul_on H op _)]
        congr 1
        rw [gadd_comm H op (gmul_on H op _)]
        show gmul inv (2 * (n.fdiv 2).toNat + 1) (toF F p) = _
        congr 1
        omega
      · rw [if_neg h2]
        congr 2
        omega
theorem ltimes_toF (E : Ev F inv) {p : Option (Int × Int)} {n : Int} (hp : Can p) (op : On (toF F p)) (h0 : 0 ≤ n) (h1 : n < 2 ^ 257) : toF F (ltimes p n) = gmul inv n.toNat (toF F p) := by
  unfold ltimes
  rw [ltimesLoop_toF E 257 (f := none) trivial hp trivial op h0 h1]
  rfl
/-- a triple of Jacobi's stands for a point -/
noncomputable def JR (F : Type) [Lean.Grind.CommRing F] (d : Int × Int × Int) : Option (F × F) → Prop
  | none => d.1 = 0 ∧ d.2.1 = 0
  | some p => ca F d.2.2 ≠ 0 ∧ ca F d.2.1 ≠ 0 ∧ ca F d.1 = p.1 * (ca F d.2.2 * ca F d.2.2) ∧ ca F d.2.1 = p.2 * (ca F d.2.2 * ca F d.2.2 * ca F d.2.2)
theorem JR_none : JR F (0, 0, 1) (none : Option (F × F)) := ⟨rfl, rfl⟩
theorem JR.y0 {d : Int × Int × Int} {p : F × F} (h : JR F d (some p)) : d.2.1 ≠ 0 := by
  intro h0
  apply h.2.1
  rw [h0, ca_0]
theorem JR_dbl (E : Ev F inv) {d : Int × Int × Int} {p : Option (F × F)} (h : JR F d p) (o : On p) : JR F (jdbl d) (gadd inv p p) := by
  have H := E.fld
  cases p with
  | none => unfold jdbl; rw [if_pos h.2]; exact ⟨rfl, rfl⟩
  | some p =>
    have hy := h.y0
    obtain ⟨X, Y, Z⟩ := d
    obtain ⟨x, y⟩ := p
    obtain ⟨hz, hY, eX, eY⟩ := h
    have y0 := On.y H o
    have o2 := gadd_on H o o
    dsimp only at hz hY eX eY hy
    have h2y := H.mul H.two y0
    have hl := H.hinv _ h2y
    unfold gadd at o2 ⊢
    dsimp only at o2 ⊢
    rw [if_pos rfl, if_neg (fun h => h2y (by grind))] at o2 ⊢
    unfold jdbl
    dsimp only
    rw [if_neg hy]
    have el : (3 * x * x * inv (2 * y)) * (2 * y) = 3 * x * x := lc1 (3 * x * x) hl (by grind)
    generalize 3 * x * x * inv (2 * y) = l at el o2 ⊢
    have hnz : ca F ((2 * Y * Z).fmod PI) = 2 * y * (ca F Z * ca F Z * ca F Z * ca F Z) := by
      rw [E.cf, ca_mul, ca_mul, ca_2, eY]; grind
    have hnz0 : ca F ((2 * Y * Z).fmod PI) ≠ 0 := by
      rw [hnz]; exact H.mul h2y (H.mul (H.mul (H.mul hz hz) hz) hz)
    have e1 : ca F (((((3 * X ^ 2 + 0 * Z ^ 4).fmod PI) ^ 2 - 2 * (4 * X * (Y ^ 2).fmod PI).fmod PI)).fmod PI) = (l * l - x - x) * (ca F ((2 * Y * Z).fmod PI) * ca F ((2 * Y * Z).fmod PI)) := by
      rw [hnz]
      simp only [E.cf, ca_sub, ca_mul, ca_add, ca_pow, ca_2, ca_3, ca_4, ca_0]
      rw [eX, eY]
      generalize ca F Z = z at *
      clear hnz hnz0 hl h2y o o2 eX eY hY hz y0
      have e2 : 3 * x * x * (3 * x * x) = l * l * (2 * y) * (2 * y) := by rw [← el]; grind
      exact lc1 (z ^ 8) e2 (by grind)
    have e2 : ca F ((((3 * X ^ 2 + 0 * Z ^ 4).fmod PI) * ((4 * X * (Y ^ 2).fmod PI).fmod PI - ((((3 * X ^ 2 + 0 * Z ^ 4).fmod PI) ^ 2 - 2 * (4 * X * (Y ^ 2).fmod PI).fmod PI)).fmod PI) - 8 * ((Y ^ 2).fmod PI) ^ 2).fmod PI) =
        (l * (x - (l * l - x - x)) - y) * (ca F ((2 * Y * Z).fmod PI) * ca F ((2 * Y * Z).fmod PI) * ca F ((2 * Y * Z).fmod PI)) := by
      rw [E.cf, ca_sub, ca_mul, ca_sub, e1, hnz]
      simp only [E.cf, ca_sub, ca_mul, ca_add, ca_pow, ca_2, ca_3, ca_4, ca_0, ca_8]
      rw [eX, eY]
      generalize ca F Z = z at *
      clear hnz hnz0 hl h2y o o2 eX eY hY hz y0 e1
      exact lc1 (-(z ^ 12) * (4 * y * y) * (3 * x - l * l)) el (by grind)
    refine ⟨hnz0, ?_, e1, e2⟩
    show ca F _ ≠ 0
    rw [e2]
    exact H.mul (On.y H o2) (H.mul (H.mul hnz0 hnz0) hnz0)
theorem JR_add (E : Ev F inv) {d e : Int × Int × Int} {p q : Option (F × F)} (hd : JR F d p) (he : JR F e q) (op : On p) (oq : On q) : JR F (jadd d e) (gadd inv p q) := by
  have H := E.fld
  cases p with
  | none => unfold jadd; rw [if_pos hd.2]; exact he
  | some p => cases q with
    | none => unfold jadd; rw [if_neg hd.y0, if_pos he.2]; exact hd
    | some q =>
      have hy := hd.y0
      have hy' := he.y0
      have hdbl := JR_dbl E hd op
      have hd' := hd
      obtain ⟨X, Y, Z⟩ := d
      obtain ⟨X', Y', Z'⟩ := e
      obtain ⟨x, y⟩ := p
      obtain ⟨x', y'⟩ := q
      obtain ⟨hz, hY, eX, eY⟩ := hd
      obtain ⟨hz', hY', eX', eY'⟩ := he
      have o2 := gadd_on H op oq
      dsimp only at hz hY eX eY hy hz' hY' eX' eY' hy'
      have hw := H.mul hz hz'
      have eU1 : ca F ((X * Z' ^ 2).fmod PI) = x * (ca F Z * ca F Z' * (ca F Z * ca F Z')) := by
        rw [E.cf, ca_mul, ca_pow, eX]; grind
      have eU2 : ca F ((X' * Z ^ 2).fmod PI) = x' * (ca F Z * ca F Z' * (ca F Z * ca F Z')) := by
        rw [E.cf, ca_mul, ca_pow, eX']; grind
      have eS1 : ca F ((Y * Z' ^ 3).fmod PI) = y * (ca F Z * ca F Z' * (ca F Z * ca F Z') * (ca F Z * ca F Z')) := by
        rw [E.cf, ca_mul, ca_pow, eY]; grind
      have eS2 : ca F ((Y' * Z ^ 3).fmod PI) = y' * (ca F Z * ca F Z' * (ca F Z * ca F Z') * (ca F Z * ca F Z')) := by
        rw [E.cf, ca_mul, ca_pow, eY']; grind
      unfold jadd
      dsimp only
      rw [if_neg hy, if_neg hy']
      by_cases hU : (X * Z' ^ 2).fmod PI = (X' * Z ^ 2).fmod PI
      · rw [if_pos hU]
        have hx : x = x' := by
          rw [hU, eU2] at eU1
          exact H.canc (a := ca F Z * ca F Z' * (ca F Z * ca F Z')) (by grind) (H.mul hw hw)
        by_cases hS : (Y * Z' ^ 3).fmod PI = (Y' * Z ^ 3).fmod PI
        · rw [if_pos hS]
          have hyy : y = y' := by
            rw [hS, eS2] at eS1
            exact H.canc (a := ca F Z * ca F Z' * (ca F Z * ca F Z') * (ca F Z * ca F Z')) (by grind) (H.mul (H.mul hw hw) hw)
          rw [← hx, ← hyy]
          exact hdbl
        · rw [if_neg hS]
          have hyy : y ≠ y' := by
            intro h
            apply hS
            refine E.inj ?_ (can_mod _) (can_mod _)
            rw [eS1, eS2, h]
          have e0 : gadd inv (some (x, y)) (some (x', y')) = none := by
            rw [gadd_eq_none H op oq]
            show some (x', y') = some (x, -y)
            have h1 : y * y = x * x * x + 7 := op
            have h2 : y' * y' = x' * x' * x' + 7 := oq
            have h3 : (y' - y) * (y' + y) = 0 := by rw [← hx] at h2; exact lc2 1 (-1) h2 h1 (by grind)
            have h4 := H.dom h3 (fun h => hyy (lc1 (-1) h (by grind)))
            rw [hx]
            congr 2
            exact lc1 1 h4 (by grind)
          rw [e0]
          exact JR_none
      · rw [if_neg hU]
        have hx : x ≠ x' := by
          intro h
          apply hU
          refine E.inj ?_ (can_mod _) (can_mod _)
          rw [eU1, eU2, h]
        have hd0 : x' - x ≠ 0 := fun h => hx (lc1 (-1) h (by grind))
        have hl := H.hinv _ hd0
        unfold gadd at o2 ⊢
        dsimp only at o2 ⊢
        rw [if_neg hx] at o2 ⊢
        have el : ((y' - y) * inv (x' - x)) * (x' - x) = y' - y := lc1 (y' - y) hl (by grind)
        generalize (y' - y) * inv (x' - x) = l at el o2 ⊢
        generalize (X * Z' ^ 2).fmod PI = U1 at *
        generalize (X' * Z ^ 2).fmod PI = U2 at *
        generalize (Y * Z' ^ 3).fmod PI = S1 at *
        generalize (Y' * Z ^ 3).fmod PI = S2 at *
        generalize hwe : ca F Z * ca F Z' = w at *
        have hnz : ca F (((U2 - U1) * Z * Z').fmod PI) = (x' - x) * (w * w * w) := by
          rw [E.cf, ca_mul, ca_mul, ca_sub, eU1, eU2, Lean.Grind.Semiring.mul_assoc, hwe]; clear hd' eX eY eX' eY' eU1 eU2 eS1 eS2 op oq o2 el hwe hl; grind
        have hnz0 : ca F (((U2 - U1) * Z * Z').fmod PI) ≠ 0 := by
          rw [hnz]; exact H.mul hd0 (H.mul (H.mul hw hw) hw)
        have e1 : ca F (((S2 - S1) ^ 2 - ((U2 - U1) * ((U2 - U1) * (U2 - U1)).fmod PI).fmod PI - 2 * (U1 * ((U2 - U1) * (U2 - U1)).fmod PI).fmod PI).fmod PI) = (l * l - x - x') * (ca F (((U2 - U1) * Z * Z').fmod PI) * ca F (((U2 - U1) * Z * Z').fmod PI)) := by
          rw [hnz]
          simp only [E.cf, ca_sub, ca_mul, ca_add, ca_pow, ca_2]
          rw [eU1, eU2, eS1, eS2]
          have e2 : (y' - y) * (y' - y) = l * (x' - x) * (l * (x' - x)) := by rw [el]
          clear hd' eX eY eX' eY' eU1 eU2 eS1 eS2 op oq o2 el hwe hl hw hd0 hnz hnz0 hz hY hz' hY' hx hdbl
          exact lc1 (w ^ 6) e2 (by grind)
        have e2 : ca F (((S2 - S1) * ((U1 * ((U2 - U1) * (U2 - U1)).fmod PI).fmod PI - ((S2 - S1) ^ 2 - ((U2 - U1) * ((U2 - U1) * (U2 - U1)).fmod PI).fmod PI - 2 * (U1 * ((U2 - U1) * (U2 - U1)).fmod PI).fmod PI).fmod PI) - S1 * ((U2 - U1) * ((U2 - U1) * (U2 - U1)).fmod PI).fmod PI).fmod PI) =
            (l * (x - (l * l - x - x')) - y) * (ca F (((U2 - U1) * Z * Z').fmod PI) * ca F (((U2 - U1) * Z * Z').fmod PI) * ca F (((U2 - U1) * Z * Z').fmod PI)) := by
          rw [E.cf, ca_sub, ca_mul, ca_sub _ (Int.fmod _ _), e1, hnz]
          simp only [E.cf, ca_sub, ca_mul, ca_add, ca_pow, ca_2]
          rw [eU1, eU2, eS1, eS2]
          clear hd' eX eY eX' eY' eU1 eU2 eS1 eS2 op oq o2 hwe hl hw hd0 hnz hnz0 hz hY hz' hY' hx e1 hdbl
          exact lc1 (-(w ^ 9) * (x' - x) * (x' - x) * (2 * x + x' - l * l)) el (by grind)
        refine ⟨hnz0, ?_, e1, e2⟩
        show ca F _ ≠ 0
        rw [e2]
        exact H.mul (On.y H o2) (H.mul (H.mul hnz0 hnz0) hnz0)
theorem JR_mulN (E : Ev F inv) {a : Int × Int × Int} {p : Option (F × F)} (h : JR F a p) (o : On p) (n : Nat) : JR F (jmulN a n) (gmul inv n p) := by
  have H := E.fld
  induction n using Nat.strongRecOn with
  | _ n ih =>
    rw [jmulN]
    split
    · rename_i h0; subst h0; exact JR_none
    split
    · rename_i h1; subst h1; rw [gmul_one]; exact h
    rename_i h0 h1
    have i2 := JR_dbl E (ih (n / 2) (by omega)) (gmul_on H o _)
    rw [← gmul_dbl H o] at i2
    split
    · rwa [show 2 * (n / 2) = n by omega] at i2
    · have i3 := JR_add E i2 h (gmul_on H o _) o
      have e : gadd inv (gmul inv (2 * (n / 2)) p) p = gmul inv (2 * (n / 2) + 1) p := rfl
      rwa [e, show 2 * (n / 2) + 1 = n by omega] at i3
theorem JR_mul (E : Ev F inv) {a : Int × Int × Int} {p : Option (F × F)} (h : JR F a p) (o : On p) (n : Int) : JR F (jmul a n) (gmul inv (n.fmod NI).toNat p) := by
  unfold jmul
  split
  · rename_i h0
    cases p with
    | none => rw [gmul_none]; exact JR_none
    | some p => exact absurd h0 h.y0
  · exact JR_mulN E h o _
end
end Mine
namespace Mine
open PySem.Builtin.Int (intBits)
/- the inverse by Euclid -/
theorem invLoop_spec (a n : Int) : ∀ (m : Nat) (lm hm low high : Int), low.toNat ≤ m → 0 ≤ low → 1 < high → Int.gcd low high = 1 → n ∣ lm * a - low → n ∣ hm * a - high → n ∣ invLoop lm hm low high * a - 1 := by
  intro m
  induction m with
  | zero =>
    intro lm hm low high hm0 h0 h1 hg
    have : low = 0 := by omega
    subst this
    rw [Int.gcd_zero_left] at hg
    omega
  | succ m ih =>
    intro lm hm low high hm0 h0 h1 hg hl hh
    unfold invLoop
    by_cases h : 1 < low
    · rw [dif_pos h]
      have f := fdiv_fmod_facts high low
      have g := f.2.2.1 (by omega)
      have e : high - low * high.fdiv low = high.fmod low := by omega
      rw [e]
      refine ih _ _ _ _ (by omega) g.1 h ?_ ?_ hl
      · rw [← e, ← hg]
        rw [Int.gcd_comm low high, Int.gcd_comm (high - low * high.fdiv low) low, Int.gcd_comm high low]
        rw [show high - low * high.fdiv low = high + low * (-(high.fdiv low)) by rw [Int.mul_neg]; omega]
        exact Int.gcd_add_mul_left_right ..
      · rw [← e]
        obtain ⟨c, hc⟩ := hl
        obtain ⟨d, hd⟩ := hh
        refine ⟨d - c * high.fdiv low, ?_⟩
        have : (hm - lm * high.fdiv low) * a - (high - low * high.fdiv low) = (hm * a - high) - (lm * a - low) * high.fdiv low := by grind
        rw [this, hc, hd]
        grind
    · rw [dif_neg h]
      have : low = 1 := by
        have : low ≠ 0 := by
          intro h0
          subst h0
          rw [Int.gcd_zero_left] at hg
          omega
        omega
      rw [this] at hl
      exact hl
theorem invF_spec {a n : Int} (hn : 1 < n) (hg : Int.gcd a n = 1) : (invF a n * a).fmod n = 1 := by
  have h0 : a ≠ 0 := by
    intro h
    subst h
    rw [Int.gcd_zero_left] at hg
    omega
  unfold invF
  rw [if_neg h0]
  have f := fdiv_fmod_facts a n
  have g := f.2.2.1 (by omega)
  have hs := invLoop_spec a n (a.fmod n).toNat 1 0 (a.fmod n) n (Nat.le_refl _) g.1 hn (by
    rw [show a.fmod n = a + n * (-(a.fdiv n)) by rw [Int.mul_neg]; omega, Int.gcd_comm, Int.gcd_add_mul_left_right, Int.gcd_comm]
    exact hg) ⟨a.fdiv n, by omega⟩ ⟨-1, by omega⟩
  obtain ⟨c, hc⟩ := hs
  generalize invLoop 1 0 (a.fmod n) n = r at *
  have e : r.fmod n * a = 1 + n * (c - r.fdiv n * a) := by
    have := (fdiv_fmod_facts r n).2.1
    have e2 : r.fmod n = r - n * r.fdiv n := by omega
    rw [e2]
    grind
  rw [e, Int.fmod_eq_emod_of_nonneg _ (by omega), Int.add_mul_emod_self_left, Int.emod_eq_of_lt (by decide) hn]
theorem invF_range (a : Int) {n : Int} (hn : 1 < n) : 0 ≤ invF a n ∧ invF a n < n := by
  unfold invF
  split
  · omega
  · exact ⟨Int.fmod_nonneg_of_pos _ (by omega), Int.fmod_lt_of_pos _ (by omega)⟩
theorem gcd_pr {p : Nat} (hp : Pr p) {a : Int} (h : a.fmod p ≠ 0) : Int.gcd a p = 1 := by
  have h1 : ¬ p ∣ a.natAbs := by
    intro hd
    apply h
    rw [Int.fmod_eq_emod_of_nonneg _ (by omega)]
    exact Int.emod_eq_zero_of_dvd (Int.ofNat_dvd_left.mpr hd)
  have := hp.coprime h1
  rw [Int.gcd_comm]
  exact this
/- powers -/
theorem powMod_loop {m b e : Nat} : ∀ (k p : Nat), p % m = b ^ (e / 2 ^ k) % m →
    (List.range k).reverse.foldl (fun p i => if e.testBit i then p * p % m * b % m else p * p % m) p % m = b ^ e % m
  | 0, p, h => by rw [Nat.pow_zero, Nat.div_one] at h; exact h
  | k + 1, p, h => by
    rw [List.range_succ, List.reverse_append, List.reverse_singleton, List.singleton_append, List.foldl_cons]
    refine powMod_loop k _ ?_
    have e0 : e / 2 ^ (k + 1) = e / 2 ^ k / 2 := by rw [Nat.pow_succ, Nat.div_div_eq_div_mul]
    rw [Nat.testBit_eq_decide_div_mod_eq]
    rw [e0] at h
    generalize e / 2 ^ k = x at h ⊢
    have h2 : p * p % m = b ^ (2 * (x / 2)) % m := by rw [Nat.mul_mod, h, ← Nat.mul_mod, Nat.two_mul, Nat.pow_add]
    rcases Nat.mod_two_eq_zero_or_one x with h0 | h0
    · rw [h0]
      show p * p % m % m = _
      rw [Nat.mod_mod, h2, show 2 * (x / 2) = x by omega]
    · rw [h0]
      show p * p % m * b % m % m = _
      rw [Nat.mod_mod, Nat.mul_mod, Nat.mod_mod, h2, ← Nat.mul_mod, ← Nat.pow_succ, show (2 * (x / 2)).succ = x by omega]
theorem powMod_eq (b e m : Nat) : Builtin.powMod b e m % m = b ^ e % m := by
  unfold Builtin.powMod
  refine powMod_loop _ _ ?_
  have : (e : Nat) / 2 ^ intBits (e : Int) = 0 := by
    refine Nat.div_eq_of_lt ?_
    have := (intBits_le_iff (m := intBits (e : Int)) (x := (e : Int))).mp (Nat.le_refl _)
    simpa using this
  rw [this, Nat.pow_zero, Nat.mod_mod]
theorem emod_pow' (b m : Int) : ∀ k : Nat, (b % m) ^ k % m = b ^ k % m
  | 0 => by rw [Int.pow_zero, Int.pow_zero]
  | k + 1 => by rw [Int.pow_succ, Int.pow_succ, Int.mul_emod, emod_pow' b m k, Int.emod_emod, ← Int.mul_emod]
theorem powZ_eq {b e m : Int} (hm : 0 < m) : powZ b e m = (b ^ e.natAbs) % m := by
  have hl := powZ_lt (b := b) (e := e) hm
  rw [← Int.emod_eq_of_lt hl.2 hl.1]
  unfold powZ
  obtain ⟨M, rfl⟩ := Int.eq_ofNat_of_zero_le (Int.le_of_lt hm)
  rw [Int.natAbs_natCast]
  have hb : 0 ≤ b % M := Int.emod_nonneg _ (by omega)
  have h1 := powMod_eq (b % M).toNat e.natAbs M
  rw [← Int.natCast_emod, h1, Int.natCast_emod, Int.natCast_pow, Int.toNat_of_nonneg hb, emod_pow']
noncomputable abbrev PN : Nat := 115792089237316195423570985008687907853269984665640564039457584007908834671663
noncomputable abbrev NN : Nat := 115792089237316195423570985008687907852837564279074904382605163141518161494337
theorem PN_eq : ((PN : Nat) : Int) = PI := rfl
theorem NN_eq : ((NN : Nat) : Int) = NI := rfl
theorem PN_exp : (PI - 2).natAbs = PN - 2 := by decide +kernel
theorem NN_exp : (NI - 2).natAbs = NN - 2 := by decide +kernel
theorem invF_P {a : Int} (h : a.fmod PI ≠ 0) : (invF a PI * a).fmod PI = 1 := invF_spec (by decide) (gcd_pr pr_P h)
theorem invF_N {a : Int} (h : a.fmod NI ≠ 0) : (invF a NI * a).fmod NI = 1 := invF_spec (by decide) (gcd_pr pr_N h)
theorem inv_unique {p : Nat} (hp : Pr p) {a x y : Int} (hx : (x * a) % p = 1) (hy : (y * a) % p = 1) (h1 : 0 ≤ x ∧ x < p) (h2 : 0 ≤ y ∧ y < p) : x = y := by
  have e1 : (x * a * y) % p = y := by rw [Int.mul_emod, hx, Int.one_mul, Int.emod_emod, Int.emod_eq_of_lt h2.1 h2.2]
  have e2 : (x * a * y) % p = x := by rw [show x * a * y = y * a * x by grind, Int.mul_emod, hy, Int.one_mul, Int.emod_emod, Int.emod_eq_of_lt h1.1 h1.2]
  exact e2.symm.trans e1
theorem powZ_inv {r : Int} (h : r.fmod NI ≠ 0) : powZ r (NI - 2) NI = invF r NI := by
  have h1 := invF_N h
  have hl := powZ_lt (b := r) (e := NI - 2) (m := NI) (by decide)
  rw [Int.fmod_eq_emod_of_nonneg _ (by decide)] at h1 h
  refine inv_unique (p := NN) pr_N (a := r) ?_ h1 ⟨hl.2, hl.1⟩ (invF_range r (by decide))
  rw [powZ_eq (by decide), NN_exp]
  show (r ^ (NN - 2) % (NN : Int) * r) % (NN : Int) = 1
  have hr : 0 ≤ r % (NN : Int) := Int.emod_nonneg _ (by decide)
  obtain ⟨k, hk⟩ := Int.eq_ofNat_of_zero_le hr
  rw [Int.mul_emod, Int.emod_emod, ← Int.mul_emod, ← Int.pow_succ, ← emod_pow', hk]
  have hf := fermat' (a := k) pr_N (by
    intro hd
    have := Nat.mod_eq_zero_of_dvd hd
    apply h
    show r % (NN : Int) = 0
    rw [← Int.emod_emod, hk, ← Int.natCast_emod, this]
    rfl)
  rw [← Int.natCast_pow, ← Int.natCast_emod]
  have e : (NN - 2).succ = NN - 1 := by decide +kernel
  rw [e]
  exact congrArg Int.ofNat hf

/- the field -/
theorem torsP : pm PN 256 (PN - 7) ((PN - 1) / 3) % PN ≠ 1 := by decide +kernel
theorem ev_exists : ∃ (F : Type) (_ : Lean.Grind.CommRing F) (_ : DecidableEq F) (inv : F → F), Ev F inv := by
  have nz : NeZero PN := ⟨by decide⟩
  have hp : Pr PN := pr_P
  have big : 11 < PN := by decide
  have h3 : (PN - 1) / 3 * 3 = PN - 1 := by decide +kernel
  have hf : (PN - 1) / 3 < 2 ^ 256 := by decide +kernel
  have tors := torsP
  have e1 := PN_eq
  have e2 := PN_exp
  have hpos : (0 : Int) < PI := by decide
  have key : ∀ (p : Nat) [NeZero p], Pr p → 11 < p → (p - 1) / 3 * 3 = p - 1 → (p - 1) / 3 < 2 ^ 256 → pm p 256 (p - 7) ((p - 1) / 3) % p ≠ 1 → ((p : Nat) : Int) = PI → (PI - 2).natAbs = p - 2 →
      ∃ (F : Type) (_ : Lean.Grind.CommRing F) (_ : DecidableEq F) (inv : F → F), Ev F inv := by
    intro p nzp hp big h3 hf tors e1 e2
    have sur : ∀ x : Fin p, ∃ n : Nat, x = ca (Fin p) n := by
      intro x
      refine ⟨x.val, ?_⟩
      have h : ca (Fin p) (x.val : Int) = Fin.ofNat p x.val := Lean.Grind.Ring.intCast_natCast x.val
      rw [h]
      exact Fin.ext (Nat.mod_eq_of_lt x.isLt).symm
    have H : IsFp (Fin p) p := ⟨hp, big, sur, no_cube hp sur big h3 hf tors⟩
    refine ⟨Fin p, inferInstance, inferInstance, fun x => x ^ (p - 2), H.fld, ?_, ?_, ?_⟩
    · intro x; rw [← e1]; exact ca_fmod x
    · intro x y
      rw [ca_iff (p := p), ← e1, Int.fmod_eq_emod_of_nonneg _ (by omega), Int.fmod_eq_emod_of_nonneg _ (by omega)]
    · intro b
      rw [powZ_eq hpos, e2, ← e1, ca_emod, ca_pow]
  exact key PN hp big h3 hf tors e1 e2
end Mine
namespace Mine
open PySem.Builtin.Int (intBits)
/- the base's order, by the kernel -/
noncomputable def frcN {α : Type} (n : Nat) (k : Nat → α) : α := Nat.rec (motive := fun _ => α) (k 0) (fun m _ => k (m + 1)) n
theorem frcN_eq {α : Type} (n : Nat) (k : Nat → α) : frcN n k = k n := by cases n <;> rfl
noncomputable def frcI {α : Type} (z : Int) (k : Int → α) : α := match z with
  | .ofNat n => frcN n fun n => k (.ofNat n)
  | .negSucc n => frcN n fun n => k (.negSucc n)
theorem frcI_eq {α : Type} (z : Int) (k : Int → α) : frcI z k = k z := by
  cases z with
  | ofNat n => exact frcN_eq n fun n => k (.ofNat n)
  | negSucc n => exact frcN_eq n fun n => k (.negSucc n)
noncomputable def frc3 {α : Type} (d : Int × Int × Int) (k : Int × Int × Int → α) : α := frcI d.1 fun x => frcI d.2.1 fun y => frcI d.2.2 fun z => k (x, y, z)
theorem frc3_eq {α : Type} (d : Int × Int × Int) (k : Int × Int × Int → α) : frc3 d k = k d := by
  unfold frc3; rw [frcI_eq, frcI_eq, frcI_eq]
noncomputable def jrun (a : Int × Int × Int) : List Bool → (Int × Int × Int) → Int × Int × Int
  | [], d => d
  | b :: bs, d => frc3 (jdbl d) fun e => bif b then frc3 (jadd e a) fun e => jrun a bs e else jrun a bs e
noncomputable def bitsUp : List Bool → Nat → Nat
  | [], n => n
  | b :: bs, n => bitsUp bs (bif b then 2 * n + 1 else 2 * n)
section
variable {F : Type} [Lean.Grind.CommRing F] [DecidableEq F] {inv : F → F}
theorem JR_run (E : Ev F inv) {a : Int × Int × Int} {p : Option (F × F)} (h : JR F a p) (o : On p) : ∀ (bs : List Bool) (d : Int × Int × Int) (n : Nat), JR F d (gmul inv n p) → JR F (jrun a bs d) (gmul inv (bitsUp bs n) p)
  | [], d, n, hd => hd
  | b :: bs, d, n, hd => by
    have H := E.fld
    have i2 := JR_dbl E hd (gmul_on H o _)
    rw [← gmul_dbl H o] at i2
    rw [jrun, frc3_eq]
    cases b with
    | false => exact JR_run E h o bs _ _ i2
    | true =>
      rw [cond_true, frc3_eq]
      have i3 := JR_add E i2 h (gmul_on H o _) o
      exact JR_run E h o bs _ (2 * n + 1) i3
noncomputable def nBits : List Bool := (List.range 256).reverse.map fun i => Nat.testBit NN i
theorem nBits_up : bitsUp nBits 0 = NN := by decide +kernel
theorem nRun : (jrun (GX, GY, 1) nBits (0, 0, 1)).2.1 = 0 := by decide +kernel

theorem toF_can_on (E : Ev F inv) {p : Int × Int} (h : (p.2 * p.2).fmod PI = (p.1 * p.1 * p.1 + 7).fmod PI) : On (toF F (some p)) := by
  show ca F p.2 * ca F p.2 = ca F p.1 * ca F p.1 * ca F p.1 + 7
  rw [← ca_mul, ← ca_mul, ← ca_mul, ← ca_7, ← ca_add, E.ceq]
  exact h
theorem on_g (E : Ev F inv) : On (toF F (some (GX, GY))) := toF_can_on E (by decide +kernel)
theorem JR_one (E : Ev F inv) {x y : Int} (o : On (toF F (some (x, y)))) : JR F (x, y, 1) (toF F (some (x, y))) := by
  have H := E.fld
  have hy := On.y H o
  refine ⟨?_, hy, ?_, ?_⟩
  · rw [ca_1]; exact H.one
  · show ca F x = ca F x * (ca F 1 * ca F 1)
    rw [ca_1]; clear o hy; grind
  · show ca F y = ca F y * (ca F 1 * ca F 1 * ca F 1)
    rw [ca_1]; clear o hy; grind
theorem ord_of (E : Ev F inv) {a : Int × Int × Int} {p : Option (F × F)} (h : JR F a p) (o : On p) (bs : List Bool) (m : Nat) (hm : bitsUp bs 0 = m) (hr : (jrun a bs (0, 0, 1)).2.1 = 0) : gmul inv m p = none := by
  have h0 : JR F (0, 0, 1) (gmul inv 0 p) := JR_none
  have h := JR_run E h o bs (0, 0, 1) 0 h0
  rw [hm] at h
  cases e : gmul inv m p with
  | none => rfl
  | some q =>
    rw [e] at h
    exact absurd hr h.y0
theorem ord_g (E : Ev F inv) : gmul inv NN (toF F (some (GX, GY))) = none :=
  ord_of E (JR_one E (on_g E)) (on_g E) nBits NN nBits_up nRun
theorem g_ne (E : Ev F inv) {k : Int} (h0 : 0 < k) (h1 : k < NI) : gmul inv k.toNat (toF F (some (GX, GY))) ≠ none := by
  refine gmul_ne E.fld (on_g E) (fun h => nomatch h) pr_N (ord_g E) (by omega) ?_
  exact (Int.toNat_lt (Int.le_of_lt h0)).mpr h1
theorem lt257 {k : Int} (h : k < NI) : k < 2 ^ 257 := Int.lt_trans h (by decide +kernel)
theorem g_times (E : Ev F inv) {k : Int} (h0 : 0 ≤ k) (h1 : k < NI) : toF F (ltimes (some (GX, GY)) k) = gmul inv k.toNat (toF F (some (GX, GY))) :=
  ltimes_toF E can_g (on_g E) h0 (lt257 h1)
theorem fromJac_eq (E : Ev F inv) {d : Int × Int × Int} {r : Option (Int × Int)} (h : JR F d (toF F r)) (c : Can r) : fromJac d = r.getD (0, 0) := by
  have H := E.fld
  obtain ⟨X, Y, Z⟩ := d
  cases r with
  | none =>
    have h1 : X = 0 := h.1
    have h2 : Y = 0 := h.2
    subst h1 h2
    unfold fromJac
    dsimp only
    rw [Int.zero_mul, Int.zero_mul, Int.zero_fmod]
    rfl
  | some p =>
    obtain ⟨x, y⟩ := p
    obtain ⟨hz, hY, eX, eY⟩ := h
    dsimp only at hz hY eX eY
    have hi : ca F (invF Z PI) * ca F Z = 1 := by
      have h0 : Z.fmod PI ≠ 0 := fun h => hz ((E.zero Z).mpr h)
      rw [← ca_mul, ← ca_1, E.ceq, invF_P h0]
      decide +kernel
    unfold fromJac
    dsimp only
    show _ = (x, y)
    refine Prod.ext (E.inj ?_ (can_mod _) c.1) (E.inj ?_ (can_mod _) c.2)
    · rw [E.cf, ca_mul, ca_pow, eX]
      generalize ca F (invF Z PI) = i at *
      generalize ca F Z = z at *
      have e : i * z * (i * z) = 1 := by rw [hi]; clear hi eX eY hz hY; grind
      exact lc1 (ca F x) e (by clear hi eX eY hz hY; grind)
    · rw [E.cf, ca_mul, ca_pow, eY]
      generalize ca F (invF Z PI) = i at *
      generalize ca F Z = z at *
      have e : i * z * (i * z) * (i * z) = 1 := by rw [hi]; clear hi eX eY hz hY; grind
      exact lc1 (ca F y) e (by clear hi eX eY hz hY; grind)
theorem fmodN_range (n : Int) : 0 ≤ n.fmod NI ∧ n.fmod NI < NI := ⟨Int.fmod_nonneg_of_pos _ (by decide), Int.fmod_lt_of_pos _ (by decide)⟩
theorem mult_eq (E : Ev F inv) {p : Int × Int} (o : On (toF F (some p))) (c : Can (some p)) (n : Int) : fromJac (jmul (p.1, p.2, 1) n) = (ltimes (some p) (n.fmod NI)).getD (0, 0) := by
  have r := fmodN_range n
  refine fromJac_eq E ?_ (ltimes_Can _ c)
  rw [ltimes_toF E c o r.1 (lt257 r.2)]
  exact JR_mul E (JR_one E o) o n
end
theorem g_some {k : Int} (h0 : 0 < k) (h1 : k < NI) : ltimes (some (GX, GY)) k ≠ none := by
  obtain ⟨F, i1, i2, inv, E⟩ := ev_exists
  intro h
  have := g_times E (by omega) h1
  rw [h] at this
  exact g_ne E h0 h1 this.symm
theorem g_mult (n : Int) : fromJac (jmul (GX, GY, 1) n) = (ltimes (some (GX, GY)) (n.fmod NI)).getD (0, 0) := by
  obtain ⟨F, i1, i2, inv, E⟩ := ev_exists
  exact mult_eq E (p := (GX, GY)) (on_g E) can_g n
theorem small_ok {g m : Int} (h : 0 < m) (hm : m < NI - 1) : 0 < 1 + g.fmod m ∧ 1 + g.fmod m < NI := by
  have h1 := Int.fmod_nonneg_of_pos g h
  have h2 := Int.fmod_lt_of_pos g h
  omega
theorem multOk (g1 g2 g3 g4 g5 n : Int) : MultOk g1 g2 g3 g4 g5 n := by
  have s500 := small_ok (g := g2) (m := 500) (by decide) (by decide)
  have s60 := small_ok (g := g4) (m := 60) (by decide) (by decide)
  have s61 := small_ok (g := g5) (m := 60) (by decide) (by decide)
  refine ⟨g_some s500.1 s500.2, g_some s60.1 s60.2, g_some s61.1 s61.2, g_mult _, ?_, ?_, invF_range _ (by decide), ?_⟩
  · intro p hp
    obtain ⟨F, i1, i2, inv, E⟩ := ev_exists
    have c := ltimes_Can (1 + g2.fmod 500) can_g
    have o : On (toF F (ltimes (some (GX, GY)) (1 + g2.fmod 500))) := by
      rw [g_times E (Int.le_of_lt s500.1) s500.2]; exact gmul_on E.fld (on_g E) _
    rw [hp] at c o
    exact mult_eq E o c n
  · intro one two t h1 h2 ht
    obtain ⟨F, i1, i2, inv, E⟩ := ev_exists
    have c1 := ltimes_Can (1 + g4.fmod 60) can_g
    have c2 := ltimes_Can (1 + g5.fmod 60) can_g
    have o1 : On (toF F (ltimes (some (GX, GY)) (1 + g4.fmod 60))) := by
      rw [g_times E (Int.le_of_lt s60.1) s60.2]; exact gmul_on E.fld (on_g E) _
    have o2 : On (toF F (ltimes (some (GX, GY)) (1 + g5.fmod 60))) := by
      rw [g_times E (Int.le_of_lt s61.1) s61.2]; exact gmul_on E.fld (on_g E) _
    rw [h1] at c1 o1
    rw [h2] at c2 o2
    have hP : ca F PI = 0 := by rw [E.zero]; decide +kernel
    have ct : Can (some t) ∧ On (toF F (some t)) := by
      rcases ht with e | e | e
      · rw [e]; exact ⟨c2, o2⟩
      · rw [e]; exact ⟨c1, o1⟩
      · have hy := On.y E.fld o1
        have hy0 : one.2 ≠ 0 := by intro h; apply hy; rw [h, ca_0]
        have r := c1.2
        rw [e]
        refine ⟨⟨c1.1, ?_, ?_⟩, ?_⟩
        · show 0 ≤ PI - one.2
          omega
        · show PI - one.2 < PI
          omega
        · have : toF F (some (one.1, PI - one.2)) = gneg (toF F (some one)) := by
            show some (ca F one.1, ca F (PI - one.2)) = some (ca F one.1, -ca F one.2)
            rw [ca_sub, hP]
            congr 2
            clear hy o1 o2
            grind
          rw [this]
          exact gneg_on o1
    refine fromJac_eq E ?_ (ladd_Can c1 ct.1)
    rw [ladd_toF E c1 ct.1]
    exact JR_add E (JR_one E o1) (JR_one E ct.2) o1 ct.2
  · split
    · rename_i h
      have h1 := Int.fmod_eq_emod_of_nonneg g1 (show 0 ≤ NI by decide)
      rw [Int.fmod_eq_emod_of_nonneg _ (by decide), Int.mul_emod, ← h1, h, Int.mul_zero]
      decide +kernel
    · rename_i h
      exact invF_N h
theorem bitXor0 (y : Int) : Builtin.bitXor (y.fmod 2) 0 = y.fmod 2 := by
  have h1 := Int.fmod_nonneg_of_pos y (show (0 : Int) < 2 by decide)
  have h2 := Int.fmod_lt_of_pos y (show (0 : Int) < 2 by decide)
  rcases (show y.fmod 2 = 0 ∨ y.fmod 2 = 1 by omega) with h | h <;> rw [h] <;> decide +kernel
theorem bitXor1 (y : Int) : Builtin.bitXor (y.fmod 2) 1 = 1 - y.fmod 2 := by
  have h1 := Int.fmod_nonneg_of_pos y (show (0 : Int) < 2 by decide)
  have h2 := Int.fmod_lt_of_pos y (show (0 : Int) < 2 by decide)
  rcases (show y.fmod 2 = 0 ∨ y.fmod 2 = 1 by omega) with h | h <;> rw [h] <;> decide +kernel
theorem lsigned_true {g1 g3 once : Int} {p : Int × Int} (h0 : 0 < once) (h1 : once < NI) (hp : ltimes (some (GX, GY)) once = some p) : lsigned g1 g3 once p = true := by
  have e := g_mult once
  rw [fmodN_of (by omega) h1, hp] at e
  have e' : fromJac (jmul (GX, GY, 1) once) = p := e
  have hi := powZ_inv (r := once) (by rw [fmodN_of (by omega) h1]; omega)
  unfold lsigned rsign
  dsimp only
  rw [e', hi]
  rw [decide_eq_true_iff]
  by_cases h : NI ≤ 2 * (invF once NI * (g3.fmod (2 ^ 256) + p.1 * g1.fmod (2 ^ 256))).fmod NI
  · rw [if_pos h, if_neg (by omega), bitXor1]
  · rw [if_neg h, if_pos (by omega), bitXor0]
theorem signed_some (g : Int) : ∃ p, ltimes (some (GX, GY)) (1 + g.fmod (NI - 1)) = some p ∧ intBits p.1 ≤ 300 ∧ ∀ g1 g3, lsigned g1 g3 (1 + g.fmod (NI - 1)) p = true := by
  have h1 := Int.fmod_nonneg_of_pos g (show (0 : Int) < NI - 1 by decide)
  have h2 := Int.fmod_lt_of_pos g (show (0 : Int) < NI - 1 by decide)
  have h3 : 1 + g.fmod (NI - 1) < NI := by omega
  cases e : ltimes (some (GX, GY)) (1 + g.fmod (NI - 1)) with
  | none => exact absurd e (g_some (by omega) h3)
  | some p =>
    refine ⟨p, rfl, ?_, fun g1 g3 => lsigned_true (by omega) h3 e⟩
    have := ltimes_BO (1 + g.fmod (NI - 1)) BO_g1
    rw [e] at this
    exact this.1
end Mine
namespace Mine
open PySem.Builtin.Int (intBits)
local macro_rules | `(tactic| walk_at "my vopt") => `(tactic| first
  | with_reducible assumption
  | with_reducible exact VOpt.none
  | ((with_reducible refine' VOpt.some ?hv); (case hv => walk_at "my vis"))
  | ((with_reducible refine' VOpt.tail ?hv); (case hv => walk_at "my vopt"))
  | ((with_reducible refine' VOpt.sub ?hw ?hv); (case hw => assumption); (case hv => walk_at "my vopt")))
local macro_rules | `(tactic| walk_at "my visl") => `(tactic| first
  | with_reducible assumption
  | exact VisL.head
  | ((with_reducible refine' VisL.tail ?hv); (case hv => walk_at "my visl"))
  | ((with_reducible refine' VisL.sub ?hw ?hv); (case hw => assumption); (case hv => walk_at "my visl")))
local macro_rules | `(tactic| walk_at "my ok") => `(tactic| first
  | with_reducible assumption
  | with_reducible exact True.intro
  | with_reducible exact BO_pt1
  | with_reducible exact BO_pt2
  | with_reducible exact BO_g1
  | with_reducible exact BO_g2
  | with_reducible exact oct_ok _
  | ((with_reducible refine' ladd_BO ?h1 ?h2); (case h1 => walk_at "my ok"); (case h2 => walk_at "my ok"))
  | ((with_reducible refine' ltimes_BO _ ?h1); (case h1 => walk_at "my ok"))
  | (exact oct_ok2 _ _)
  | ((with_reducible refine' And.intro ?h1 ?h2); (case h1 => walk_at "my ok"); (case h2 => walk_at "my ok")))
local macro_rules | `(tactic| walk_at "subscriptTail") => `(tactic| (k_here; (with_reducible show wpAny _ _ (subscriptTail _ _ (Value.ref _) (Value.int _ _)) _ _ _); k_dflt (refine' Mine.item_visL ?N ?v ?a ?b ?d ?_; (case N => k_asm); (case v => walk_at "my visl"); (case a => decide); (case b => decide); (case d => rfl); k_whole)))
local macro_rules | `(tactic| walk_at "call builtin:isinstance") => `(tactic| (k_here; (with_reducible show wpAny _ _ (PySem.call _ [Value.ref _, Value.type "tuple"]) _ _ _); k_dflt (refine' isi_vis ?F ?X ?N ?v ?_; (case F => k_asm); (case X => k_asm); (case N => k_asm); (case v => walk_at "my vis"); k_whole)))
local macro_rules | `(tactic| walk_at "my units") => `(tactic| first | exact Nat.le_of_ble_eq_true rfl | ktr_units)
local macro_rules | `(tactic| walk_at "compareOp Eq ref ref") => `(tactic| (k_here; (with_reducible show wpAny _ _ (compareOp CmpOp.Eq (Value.ref _) (Value.ref _)) _ _ _); k_dflt (first
  | (refine' eq_vis2 ?F ?X ?N ?v ?v2 ?u ?_; (case F => k_asm); (case X => k_asm); (case N => k_asm); (case v => walk_at "my vis"); (case v2 => walk_at "my vis"); (case u => walk_at "my units"); k_whole)
  | (refine' eq_vis3 ?F ?X ?N ?v ?v2 ?u ?_; (case F => k_asm); (case X => k_asm); (case N => k_asm); (case v => walk_at "my vis"); (case v2 => walk_at "my vis"); (case u => walk_at "my units"); k_whole))))
local macro_rules | `(tactic| walk_at "compareOp NotEq ref ref") => `(tactic| (k_here; (with_reducible show wpAny _ _ (compareOp CmpOp.NotEq (Value.ref _) (Value.ref _)) _ _ _); k_dflt (refine' ne_vis2 ?F ?X ?N ?v ?v2 ?u ?_; (case F => k_asm); (case X => k_asm); (case N => k_asm); (case v => walk_at "my vis"); (case v2 => walk_at "my vis"); (case u => walk_at "my units"); k_whole)))
local macro_rules | `(tactic| walk_at "compareOp Eq ref int") => `(tactic| (k_here; k_dflt (refine' eq_visI ?F ?X ?N ?v ?u ?_; (case F => k_asm); (case X => k_asm); (case N => k_asm); (case v => walk_at "my vis"); (case u => walk_at "my units"); k_whole)))
local macro_rules | `(tactic| walk_at "compareOp NotEq ref int") => `(tactic| (k_here; k_dflt (refine' ne_visI ?F ?X ?N ?v ?u ?_; (case F => k_asm); (case X => k_asm); (case N => k_asm); (case v => walk_at "my vis"); (case u => walk_at "my units"); k_whole)))
local macro_rules | `(tactic| walk_at "call builtin:pow") => `(tactic| (k_here; (with_reducible refine pow3 ?ha ?hb ?_); (case ha => decide +kernel); (case hb => decide +kernel)))
local macro_rules | `(tactic| bits_by_make) => `(tactic| first | with_reducible exact powZ_bitsP | with_reducible exact powZ_bitsN | with_reducible exact mod256_bits _ | with_reducible exact invF_bitsN' _)
local macro_rules | `(tactic| walk_at "binaryOp Mod int int") => `(tactic| (k_here; (with_reducible refine mod_int' two256_ne ?_)))
local macro_rules | `(tactic| walk_at "subscriptTail") => `(tactic| (k_here; (with_reducible show wpAny _ _ (subscriptTail _ _ (Value.ref _) (Value.int (Int.fmod _ 2) _)) _ _ _); k_dflt (refine' item_pick2 ?N ?v ?_ ?_; (case N => k_asm); (case v => walk_at "my visl")); intro hpick))
theorem code_defTry {prog : Program} {w : World} {A₀ A : Around} {s : Shared} {base h₀ : Heap} {L : Addr} {m : Str → Option Value} {env : Env} {news : List (Addr × Obj)} {K : Frag} {p : Program} {loose : List Str} {mean : ExcName → Option Value} {mg mb : Str → Option Value}
    {R : Result → Shared → Prop} {name qual : Str} {params : Arguments} {body : List Stmt} {scope : Scope} {dV kV doc pm cdv ct oc : Value} {an od : Option Addr} {osl : Array (Option Value)} {f : Addr} {args : Args} {binds : List (Str × Value)}
    (B : Below A₀ base [] h₀) (F : Fr h₀ L s.heap m) (X₀ : K.In h₀) (N : News h₀ L s.heap news) (T : Top p loose mean mg mb h₀) (hA : A.frames = some [env]) (hf : env.frame = some L) (hke : env.scope.kind = .function)
    (ho : K.lookup f = some ⟨oc, od, .func (fnOf name qual params body scope dV kV doc pm an cdv ct), osl⟩) (hcd : codeIn K cdv qual = true) (hroom : A.depth < recursionLimit)
    (hbind : BindsTo s (fnOf name qual params body scope dV kV doc pm an cdv ct) args binds) (hloc : ∀ y ∈ binds, scope.names.lookup y.1 = some .local)
    (h : ∀ g L' h₁, Fr h₀ L g m → Fr g L' h₁ (fun y => binds.reverse.lookup y) → News g L' h₁ news → Below A base [env] g → K.In g → Top p loose mean mg mb g → KtsDicts ([env].filterMap (·.frame)) g →
      wpAny (model prog w) (A.deeper (envOf qual scope L' f cdv)) (execs body (envOf qual scope L' f cdv))
        (fun fl s' => LeaveS0 ([env].filterMap (·.frame)) h₀ L m g R (match fl with | .ret v => v | _ => .none) s')
        (fun e s' => wpAny (model prog w) (A.deeper (envOf qual scope L' f cdv)) (leaving (envOf qual scope L' f cdv) e) (fun _ s'' => R (.error e) s'') (fun e' s'' => R (.error e') s'') s')
        { s with heap := h₁, toks := s.toks + binds.length })
    (hco : scope.isCoroutine = false) (hgen : scope.isGenerator = false) (hk : scope.kind = .function) (hcell : ∀ x ∈ scope.names, x.2 ≠ .cell) :
    codeAny (model prog w) A (.call (.ref f) args) R s := by
  obtain ⟨FG, BG, st, -⟩ := groundX (R := R) B F N hA hf hke
  have eL : [env].filterMap (·.frame) = [L] := by rw [List.filterMap_cons, hf]; rfl
  obtain ⟨oL, es, ep, hL, hLd, hLk, hLf⟩ := FG.ns
  refine codeAny_call_def (fd := fnOf name qual params body scope dV kV doc pm an cdv ct) (body := body) (binds := binds) hroom ((X₀.keeps F.keep) _ _ ho) rfl (T.nolimit.keeps F.keep) (codeRec_of (X₀.keeps F.keep) hcd) rfl hbind hcell hloc (fun h₁ hns hk₁ => ?_) hco hgen hk
  have D : KtsDicts ([env].filterMap (·.frame)) (hideAll s.heap (news.map (·.1))) := by
    rw [eL]
    intro b hb
    rw [List.mem_singleton.mp hb]
    exact ⟨oL, es, ep, hL, hLd⟩
  refine wpAny_mono (h _ s.heap.objs.size h₁ FG ⟨hns, fun b o e => hk₁ b o (of_hideAll _ e), Nat.le_of_eq (hideAll_size _ _)⟩
    (fun q hq => ⟨hk₁ _ _ (N q hq).1, Nat.ne_of_lt (Heap.lt_size (N q hq).1), hideAll_none _ (List.mem_map_of_mem hq)⟩) BG (X₀.keeps st) (T.keeps st) D) (fun fl s' hl => ?_) fun _ _ y => y
  obtain ⟨g', L', m', news', T', F', N', k⟩ := hl
  rw [eL] at T'
  obtain ⟨sl, hs⟩ := T'.up hL
  have hnL : h₀.get? L = none := kts_self FG
  have keep : ∀ b o, h₀.get? b = some o → ∃ o', g'.get? b = some o' ∧ (b ∉ [L] → o' = o) := by
    intro b o e
    have e' := FG.keep b o e
    by_cases hb : b ∈ [L]
    · obtain ⟨sl', hs'⟩ := T'.frame b o e' hb
      exact ⟨_, hs', fun h => absurd hb h⟩
    · exact ⟨o, T'.other b o e' hb, fun _ => rfl⟩
  refine k ⟨⟨_, es, ep, F'.keep _ _ hs, hLd, hLk, hLf⟩, fun b o e => ?_, FG.above⟩ fun q hq => ⟨(N' q hq).1, ?_, ?_⟩
  · obtain ⟨o', h1, h2⟩ := keep b o e
    have : b ∉ [L] := by
      intro hb
      rw [List.mem_singleton.mp hb, hnL] at e
      cases e
    rw [h2 this] at h1
    exact F'.keep _ _ h1
  · intro e
    have := (N' q hq).2.2
    rw [e, hs] at this
    cases this
  · cases e : h₀.get? q.1 with
    | none => rfl
    | some o =>
      obtain ⟨o', h1, -⟩ := keep _ _ e
      have := (N' q hq).2.2
      rw [h1] at this
      cases this
end Mine
namespace Mine
open PySem.Builtin.Int (intBits)
theorem bits_subP' {a : Int} (h : intBits a ≤ 256) : intBits (115792089237316195423570985008687907853269984665640564039457584007908834671663 - a) ≤ 300 := Nat.le_trans (bits_sub bitsP h) (by decide)
theorem bits_of_256' {a : Int} (h : intBits a ≤ 256) : intBits a ≤ 300 := Nat.le_trans h (by decide)
theorem powZ_b3 {b e : Int} : intBits (powZ b e 115792089237316195423570985008687907853269984665640564039457584007908834671663) ≤ 300 := bits_of_256' powZ_bitsP
local macro_rules | `(tactic| bits_by_make) => `(tactic| first | with_reducible exact bytesInt_bits (by assumption) | with_reducible exact bitsGX | with_reducible exact bitsGY | with_reducible exact powZ_b3 | with_reducible exact bits_subP' powZ_bitsP | with_reducible exact powZ_bitsP | with_reducible exact powZ_bitsN | with_reducible exact invF_bitsN' _)
local macro_rules | `(tactic| walk_at "call builtin:pow") => `(tactic| (k_here; (with_reducible refine pow3 ?ha ?hb ?_); (case ha => decide +kernel); (case hb => decide +kernel)))
theorem field_short {prog : Program} {w : World} {A : Around} {E : Value → Shared → Prop} {s : Shared} {a : Int} {t : Tok} {Q : Value → Shared → Prop} (hb : intBits a ≤ 300)
    (h : ∀ (x : Str) (t' k : Nat), x.length ≤ 1921 → Q (.str x t') { s with toks := k }) : wpAny (model prog w) A (formatField (.int a t) Str.empty) Q E s := by
  have hl : a.natAbs.log2 < 1920 := by
    have h1 := intBits_le_iff.mp hb
    rcases Nat.eq_zero_or_pos a.natAbs with h0 | h0
    · rw [h0]; decide
    · exact (Nat.log2_lt (by omega)).mpr (Nat.lt_of_lt_of_le h1 (Nat.pow_le_pow_right (by decide) (by decide)))
  exact wpAny_formatField_int hl (h _ _ _ (int_text_len_1921 hl))
local macro_rules | `(tactic| walk_at "formatField int") => `(tactic| (k_here; (with_reducible refine field_short ?hb ?_); (case hb => bits_by_make); intro xT tT kT lT))
theorem join3 {a x b : Str} (h : x.length ≤ 1921) (ha : (Str.empty ++ a).length ≤ 1000) (hb : b.length ≤ 1000) : (Str.empty ++ a ++ x ++ b).length ≤ sizeLine := by
  rw [strLen_append, strLen_append, sizeLine_eq]; omega
local macro_rules | `(tactic| walk_at "joinParts") => `(tactic| (k_here; (with_reducible refine joinParts_nilE ?_); (with_reducible refine joinParts_nil (hsz := ?hsz) ?_); (case hsz => (with_reducible refine join3 ?ha ?hb ?hc); (case ha => assumption); (case hb => exact Nat.le_of_ble_eq_true rfl); (case hc => exact Nat.le_of_ble_eq_true rfl))))
local macro_rules | `(tactic| walk_at "call ref") => `(tactic| (k_here; (with_reducible show wpAny _ _ (PySem.call (Value.ref 50) _) _ _ _); k_dflt (refine' dbl_use ?_ ?_ ?_ ?_ ?_ ?_ ?_ ?_ ?_ ?_ ?_ <;> walk_at "my prem")))
local macro_rules | `(tactic| walk_at "call ref") => `(tactic| (k_here; (with_reducible show wpAny _ _ (PySem.call (Value.ref 57) _) _ _ _); k_dflt (refine' add3_use ?_ ?_ ?_ ?_ ?_ ?_ ?_ ?_ ?_ ?_ ?_ ?_ <;> walk_at "my prem")))
local macro_rules | `(tactic| walk_at "call ref") => `(tactic| (k_here; (with_reducible show wpAny _ _ (PySem.call (Value.ref 71) _) _ _ _); k_dflt (refine' mul_use ?_ ?_ ?_ ?_ ?_ ?_ ?_ ?_ ?_ ?_ ?_ <;> walk_at "my prem")))
local macro_rules | `(tactic| walk_at "call ref") => `(tactic| (k_here; (with_reducible show wpAny _ _ (PySem.call (Value.ref 64) _) _ _ _); k_dflt (refine' frm_use ?_ ?_ ?_ ?_ ?_ ?_ ?_ ?_ ?_ ?_ ?_ <;> walk_at "my prem")))
local macro_rules | `(tactic| walk_at "call ref") => `(tactic| (k_here; (with_reducible show wpAny _ _ (PySem.call (Value.ref 29) _) _ _ _); k_dflt (refine' b2i_use ?_ ?_ ?_ ?_ ?_ ?_ ?_ ?_ ?_ ?_ <;> walk_at "my prem")))
local macro_rules | `(tactic| walk_at "call ref") => `(tactic| (k_here; (with_reducible show wpAny _ _ (PySem.call (Value.ref 36) _) _ _ _); k_dflt (refine' invP_use ?_ ?_ ?_ ?_ ?_ ?_ ?_ ?_ ?_ <;> walk_at "my prem")))
local macro_rules | `(tactic| walk_at "call ref") => `(tactic| (k_here; (with_reducible show wpAny _ _ (PySem.call (Value.ref 36) _) _ _ _); k_dflt (refine' invN_use ?_ ?_ ?_ ?_ ?_ ?_ ?_ ?_ ?_ <;> walk_at "my prem")))
noncomputable def rxc (r : Int) : Int := (r * r * r + 0 * r + 7).fmod PI
noncomputable def rbeta (r : Int) : Int := powZ (rxc r) ((PI + 1).fdiv 4) PI
noncomputable def ry (v r : Int) : Int := if Builtin.bitXor (v.fmod 2) ((rbeta r).fmod 2) ≠ 0 then rbeta r else PI - rbeta r
noncomputable def rcond (v r s : Int) : Prop := (v = 27 ∨ v = 28) ∧ (rxc r - ry v r * ry v r).fmod PI = 0 ∧ r.fmod NI ≠ 0 ∧ s.fmod NI ≠ 0
noncomputable def rrec (z v r s : Int) : Int × Int := fromJac (jmul (jadd (jmul (GX, GY, 1) ((NI - z).fmod NI)) (jmul (r, ry v r, 1) s)) (invF r NI))
theorem ry_bits {v r : Int} : intBits (ry v r) ≤ 300 := by
  unfold ry
  split
  · exact powZ_b3
  · exact bits_subP' powZ_bitsP
theorem ry_1 {v r : Int} (h : Builtin.bitXor (v.fmod 2) ((powZ ((r * r * r + 0 * r + 7).fmod PI) ((PI + 1).fdiv 4) PI).fmod 2) ≠ 0) : ry v r = powZ ((r * r * r + 0 * r + 7).fmod PI) ((PI + 1).fdiv 4) PI := by
  unfold ry rbeta rxc; rw [if_pos h]
theorem ry_2 {v r : Int} (h : Builtin.bitXor (v.fmod 2) ((powZ ((r * r * r + 0 * r + 7).fmod PI) ((PI + 1).fdiv 4) PI).fmod 2) = 0) : ry v r = PI - powZ ((r * r * r + 0 * r + 7).fmod PI) ((PI + 1).fdiv 4) PI := by
  unfold ry rbeta rxc; rw [if_neg (fun x => x h)]
theorem any_yes {v : Int} (h : ([27, 28].any fun x => x == v) = true) : v = 27 ∨ v = 28 := by
  simp at h
  omega
theorem any_no {v : Int} (h : ([27, 28].any fun x => x == v) = false) : ¬ (v = 27 ∨ v = 28) := by
  simp at h
  omega
structure Con3 (D : Type) where
  Rel : List (Addr × Obj) → List Value → D → Prop
  Ok : D → Prop
  Cond : D → Prop
  size : D → Nat
  Out : List (Addr × Obj) → Value → D → Prop
/-- a contract of a def that may raise a ValueError -/
noncomputable def HoldsR {D : Type} (prog : Program) (w : World) (K : Frag) (p : Program) (loose : List Str) (mean : ExcName → Option Value) (mg mb : Str → Option Value) (f : Addr) (c : Con3 D) (d : D) : Prop :=
  ∀ (dp un : Nat) (gd : Option (List Code)) (cn : Str) (cs : Scope) (a : Addr) (ccd : Value) (cl : List (Str × Addr)) (outer : List Env) (A₀ : Around) (base h₀ : Heap) (L : Addr) (m : Str → Option Value) (news : List (Addr × Obj)) (s : Shared) (vs : List Value)
    (Q E : Value → Shared → Prop),
    Below A₀ base outer h₀ → Fr h₀ L s.heap m → K.In h₀ → News h₀ L s.heap news → Top p loose mean mg mb h₀ → cs.kind = .function → c.Rel news vs d → c.Ok d → dp + c.size d < recursionLimit → un + 8 * c.size d < cLine →
    (∀ r news' h' tk', c.Cond d → Fr h₀ L h' m → News h₀ L h' news' → Sub news news' → c.Out news' r d → Q r { s with heap := h', toks := tk' }) →
    (∀ e news' g h' tk', ¬ c.Cond d → Fr h₀ L g m → RaisedSN base g (envX cn cs L a ccd cl :: outer) e (.type "ValueError") news' h' → g.UpToSlots h' → Sub news news' → E (.ref e) { s with heap := h', toks := tk' }) →
    wpAny (model prog w) (ktrTop dp un gd cn cs L a ccd cl outer) (call (.ref f) vs) Q E s
noncomputable abbrev recC (K : Frag) : Con3 (Array UInt8 × Int × Int × Int) where
  Rel := fun news vs d => ∃ a t t1 t2 t3, vs = [.bytes d.1 t, .ref a, .ref 22] ∧ Vis K news a [.int d.2.1 t1, .int d.2.2.1 t2, .int d.2.2.2 t3]
  Ok := fun d => d.1.size ≤ 64 ∧ intBits d.2.1 ≤ 300 ∧ intBits d.2.2.1 ≤ 300 ∧ intBits d.2.2.2 ≤ 300
  Cond := fun d => rcond d.2.1 d.2.2.1 d.2.2.2
  size := fun _ => 276
  Out := fun news r d => T2 K news r (rrec (bytesInt d.1) d.2.1 d.2.2.1 d.2.2.2)
theorem recW {prog : Program} {w : World} {p : Program} {loose : List Str} {mean : ExcName → Option Value} {mg mb : Str → Option Value} : ∀ d, HoldsR prog w (K39 w.params) p loose mean mg mb 106 (recC (K39 w.params)) d := by
  walk_at "my head"
  intro d
  unfold HoldsR
  intro dp un gd cn cs a ccd cl outer A₀ base h₀ L m news s vs Q E B F X N T hk hR hok hd hu hret hexc
  obtain ⟨jb, jv, jr, js⟩ := d
  dsimp only [recC] at hR hok hd hu
  obtain ⟨ja, t, t1, t2, t3, rfl, V⟩ := hR
  obtain ⟨b1, b2, b3, b4⟩ := hok
  have kd : KtsDicts [] h₀ := ktsDicts_nil
  refine wpAny_call ?_
  k_dflt ktr_enter
  rename_i g9 L9 h9 FG9 F9 N9 B9 X9 T9
  refine cut_at (fun s' => ∃ (h' : Heap) (m' : Str → Option Value) (news' : List (Addr × Obj)) (tk uP uN uX uY uc uy : Nat), s' = { s with heap := h', toks := tk } ∧ Fr g9 L9 h' m' ∧ m' (Str.ofString "msghash") = some (.bytes jb t) ∧ m' (Str.ofString "curve") = some (.ref 22) ∧ m' (Str.ofString "r") = some (.int jr t2) ∧ m' (Str.ofString "s") = some (.int js t3) ∧ m' (Str.ofString "x") = some (.int jr t2) ∧ m' (Str.ofString "P") = some (.int (115792089237316195423570985008687907853269984665640564039457584007908834671663) uP) ∧ m' (Str.ofString "N") = some (.int (115792089237316195423570985008687907852837564279074904382605163141518161494337) uN) ∧ m' (Str.ofString "Gx") = some (.int (55066263022277343669578718895168534326250603453777594175500187360389116729240) uX) ∧ m' (Str.ofString "Gy") = some (.int (32670510020758816978083085130507043184471273380659243275938904335757337482424) uY) ∧ m' (Str.ofString "xcubedaxb") = some (.int (rxc jr) uc) ∧ m' (Str.ofString "y") = some (.int (ry jv jr) uy) ∧ News g9 L9 h' news' ∧ Sub news news' ∧ (jv = 27 ∨ jv = 28)) 7 ?_ ?_
  · dsimp only [List.take]
    try k_fold
    k_steps
    · exact ⟨_, _, _, _, _, _, _, _, _, _, rfl, (by k_asm), rfl, rfl, rfl, rfl, rfl, rfl, rfl, rfl, rfl, rfl, (by rw [ry_1 (by assumption)]; rfl), (by k_asm), by walk_at "my sub", any_yes (by assumption)⟩
    · exact ⟨_, _, _, _, _, _, _, _, _, _, rfl, (by k_asm), rfl, rfl, rfl, rfl, rfl, rfl, rfl, rfl, rfl, rfl, (by rw [ry_2 (by assumption)]; rfl), (by k_asm), by walk_at "my sub", any_yes (by assumption)⟩
    · exact hexc _ _ _ _ _ (fun h => any_no (by assumption) h.1) FG9 (by assumption) (by assumption) (by walk_at "my sub")
  · rintro s' ⟨h1, m1, news1, tk1, uP, uN, uX, uY, uc, uy, rfl, F1, e0, e1, e2, e3, e4, e5, e6, e7, e8, e9, e10, N1, hs1, hv⟩
    have F1 := fr_set (x := Str.ofString "msghash") (v := .bytes jb t) (by with_unfolding_all exact e0) F1
    have F1 := fr_set (x := Str.ofString "curve") (v := .ref 22) (by with_unfolding_all exact e1) F1
    have F1 := fr_set (x := Str.ofString "r") (v := .int jr t2) (by with_unfolding_all exact e2) F1
    have F1 := fr_set (x := Str.ofString "s") (v := .int js t3) (by with_unfolding_all exact e3) F1
    have F1 := fr_set (x := Str.ofString "x") (v := .int jr t2) (by with_unfolding_all exact e4) F1
    have F1 := fr_set (x := Str.ofString "P") (v := .int (115792089237316195423570985008687907853269984665640564039457584007908834671663) uP) (by with_unfolding_all exact e5) F1
    have F1 := fr_set (x := Str.ofString "N") (v := .int (115792089237316195423570985008687907852837564279074904382605163141518161494337) uN) (by with_unfolding_all exact e6) F1
    have F1 := fr_set (x := Str.ofString "Gx") (v := .int (55066263022277343669578718895168534326250603453777594175500187360389116729240) uX) (by with_unfolding_all exact e7) F1
    have F1 := fr_set (x := Str.ofString "Gy") (v := .int (32670510020758816978083085130507043184471273380659243275938904335757337482424) uY) (by with_unfolding_all exact e8) F1
    have F1 := fr_set (x := Str.ofString "xcubedaxb") (v := .int (rxc jr) uc) (by with_unfolding_all exact e9) F1
    have F1 := fr_set (x := Str.ofString "y") (v := .int (ry jv jr) uy) (by with_unfolding_all exact e10) F1
    clear e0 e1 e2 e3 e4 e5 e6 e7 e8 e9 e10 F9 N9
    have by9 : intBits (ry jv jr) ≤ 300 := ry_bits
    have bx9 : intBits (rxc jr) ≤ 300 := bits_modP _
    dsimp only [List.drop]
    try k_fold
    k_steps
    · exact hexc _ _ _ _ _ (fun h => (by assumption : (rxc jr - ry jv jr * ry jv jr).fmod PI ≠ 0) h.2.1) FG9 (by assumption) (by assumption) (by walk_at "my sub")
    · refine hret _ _ _ _ ⟨hv, by assumption, by assumption, by assumption⟩ (by k_asm) (by k_asm) (by walk_at "my sub") ?_
      rename Vis _ _ _ _ => V8
      show T2 _ _ _ (rrec (bytesInt jb) jv jr js)
      unfold rrec
      exact ⟨_, _, _, rfl, V8⟩
    · exact hexc _ _ _ _ _ (fun h => h.2.2.2 (by assumption)) FG9 (by assumption) (by assumption) (by walk_at "my sub")
    · exact hexc _ _ _ _ _ (fun h => h.2.2.1 (by assumption)) FG9 (by assumption) (by assumption) (by walk_at "my sub")
end Mine
namespace Mine
open PySem.Builtin.Int (intBits)
theorem rxc_eq (r : Int) : rxc r = (r * r * r + 7).fmod PI := by
  unfold rxc; rw [Int.zero_mul, Int.add_zero]
theorem ry_eq {v r : Int} (hv : v = 27 ∨ v = 28) : ry v r = if (rbeta r).fmod 2 ≠ v - 27 then PI - rbeta r else rbeta r := by
  have h1 := Int.fmod_nonneg_of_pos (rbeta r) (show (0 : Int) < 2 by decide)
  have h2 := Int.fmod_lt_of_pos (rbeta r) (show (0 : Int) < 2 by decide)
  unfold ry
  generalize (rbeta r).fmod 2 = b at *
  rcases hv with h | h <;> subst h <;> rcases (show b = 0 ∨ b = 1 by omega) with h | h <;> subst h
  · rw [if_pos (by decide +kernel), if_neg (by decide)]
  · rw [if_neg (by decide +kernel), if_pos (by decide)]
  · rw [if_neg (by decide +kernel), if_pos (by decide)]
  · rw [if_pos (by decide +kernel), if_neg (by decide)]
theorem sub_fmod_zero (a b : Int) (ha : 0 ≤ a ∧ a < PI) : (a - b).fmod PI = 0 ↔ b.fmod PI = a := by
  rw [Int.fmod_eq_emod_of_nonneg _ (by decide), Int.fmod_eq_emod_of_nonneg _ (by decide), ← Int.emod_eq_emod_iff_emod_sub_eq_zero, Int.emod_eq_of_lt ha.1 ha.2]
  exact eq_comm
theorem ry_sq (v r : Int) : (ry v r * ry v r).fmod PI = (rbeta r * rbeta r).fmod PI := by
  unfold ry
  split
  · rfl
  · rw [Int.fmod_eq_emod_of_nonneg _ (by decide), Int.fmod_eq_emod_of_nonneg _ (by decide)]
    generalize rbeta r = y
    rw [show (PI - y) * (PI - y) = y * y + PI * (PI - 2 * y) by generalize PI = q; grind, Int.add_mul_emod_self_left]
theorem rcond_sq (v r : Int) : (rxc r - ry v r * ry v r).fmod PI = 0 ↔ (rbeta r * rbeta r).fmod PI = rxc r := by
  rw [sub_fmod_zero (rxc r) _ (can_mod (r * r * r + 0 * r + 7)), ry_sq]
theorem rec_none {v r s told : Int} (h : lkey v r s told = none) : ¬ rcond v r s := by
  rintro ⟨h1, h2, h3, h4⟩
  rw [rcond_sq] at h2
  unfold lkey at h
  rw [if_neg (by omega)] at h
  dsimp only at h
  rw [← rxc_eq] at h
  change (if (rbeta r * rbeta r).fmod PI ≠ rxc r then none else _) = none at h
  rw [if_neg (fun x => x h2)] at h
  cases h
theorem rec_some {v r s told : Int} {o : Option (Int × Int)} (h : lkey v r s told = some o) : rcond v r s ∧ rrec told v r s = o.getD (0, 0) := by
  unfold lkey at h
  split at h
  · cases h
  rename_i h1
  dsimp only at h
  rw [← rxc_eq] at h
  change (if (rbeta r * rbeta r).fmod PI ≠ rxc r then none else _) = some o at h
  split at h
  · cases h
  rename_i h2
  have h2 : (rbeta r * rbeta r).fmod PI = rxc r := Classical.byContradiction h2
  have hv : v = 27 ∨ v = 28 := by omega
  have hr : r.fmod NI ≠ 0 := by omega
  have hs : s.fmod NI ≠ 0 := by omega
  refine ⟨⟨hv, (rcond_sq v r).mpr h2, hr, hs⟩, ?_⟩
  injection h with h
  change ltimes (ladd (ltimes (some (r.fmod PI, if (rbeta r).fmod 2 ≠ v - 27 then PI - rbeta r else rbeta r)) (s.fmod NI)) _) _ = o at h
  rw [← ry_eq hv, powZ_inv hr] at h
  obtain ⟨F, i1, i2, inv, E⟩ := ev_exists
  have H := E.fld
  have on1 : On (toF F (some (r, ry v r))) := toF_can_on E (by
    show (ry v r * ry v r).fmod PI = (r * r * r + 7).fmod PI
    rw [ry_sq, h2, rxc_eq])
  have e1 : toF F (some (r.fmod PI, ry v r)) = toF F (some (r, ry v r)) := by
    show some (ca F (r.fmod PI), ca F (ry v r)) = some (ca F r, ca F (ry v r))
    rw [E.cf]
  have hy := On.y H on1
  have hyr : 0 ≤ ry v r ∧ ry v r < PI := by
    have hb := powZ_lt (b := rxc r) (e := (PI + 1).fdiv 4) (m := PI) (by decide)
    have hb' : rbeta r < PI ∧ 0 ≤ rbeta r := hb
    have hP : ca F PI = 0 := by rw [E.zero]; decide +kernel
    have hne : ry v r ≠ PI := by
      intro h
      apply hy
      rw [h, hP]
    unfold ry at hne ⊢
    split
    · exact ⟨hb'.2, hb'.1⟩
    · rename_i hx
      rw [if_neg hx] at hne
      omega
  have can1 : Can (some (r.fmod PI, ry v r)) := ⟨can_mod _, hyr⟩
  have on1' : On (toF F (some (r.fmod PI, ry v r))) := by rw [e1]; exact on1
  have rs := fmodN_range s
  have rz := fmodN_range (NI - told)
  have ri := invF_range r (n := NI) (by decide)
  have onG := on_g E
  have onR := gmul_on H on1 (s.fmod NI).toNat
  have onZ := gmul_on H onG ((NI - told).fmod NI).toNat
  have tpt := ltimes_toF E can1 on1' rs.1 (lt257 rs.2)
  rw [e1] at tpt
  have cpt := ltimes_Can (s.fmod NI) can1
  have oth : ∃ q, (if NI.fdiv 2 < told.fmod NI then ltimes (some (GX, GY)) (NI - told.fmod NI) else ltimes (some (GX, PI - GY)) (told.fmod NI)) = q ∧ Can q ∧ toF F q = gmul inv ((NI - told).fmod NI).toNat (toF F (some (GX, GY))) := by
    refine ⟨_, rfl, ?_, ?_⟩
    · split
      · exact ltimes_Can _ can_g
      · exact ltimes_Can _ (by unfold Can; decide +kernel)
    · have rt := fmodN_range told
      have ez : (NI - told).fmod NI = if told.fmod NI = 0 then 0 else NI - told.fmod NI := by
        have e0 : (NI - told).fmod NI = (NI - told.fmod NI).fmod NI := by
          rw [Int.fmod_eq_emod_of_nonneg _ (by decide), Int.fmod_eq_emod_of_nonneg _ (by decide), Int.fmod_eq_emod_of_nonneg _ (by decide), Int.sub_emod, Int.sub_emod NI (told % NI), Int.emod_emod]
        rw [e0]
        split
        · rename_i h0
          rw [h0, Int.sub_zero]; decide +kernel
        · exact fmodN_of (by omega) (by omega)
      rw [ez]
      by_cases hc : NI.fdiv 2 < told.fmod NI
      · rw [if_pos hc]
        have h0 : told.fmod NI ≠ 0 := by
          intro h0
          rw [h0] at hc
          exact absurd hc (by decide +kernel)
        rw [if_neg h0]
        exact g_times E (by omega) (by omega)
      · rw [if_neg hc]
        have hP : ca F PI = 0 := by rw [E.zero]; decide +kernel
        have en : toF F (some (GX, PI - GY)) = gneg (toF F (some (GX, GY))) := by
          show some (ca F GX, ca F (PI - GY)) = some (ca F GX, -ca F GY)
          rw [ca_sub, hP]
          congr 2
          generalize ca F GY = y
          grind
        have onn : On (toF F (some (GX, PI - GY))) := by rw [en]; exact gneg_on onG
        rw [ltimes_toF E (by unfold Can; decide +kernel) onn rt.1 (lt257 rt.2), en]
        have hk : (told.fmod NI).toNat ≤ NN := by
          have h9 : (told.fmod NI).toNat < NN := (Int.toNat_lt rt.1).mpr rt.2
          exact Nat.le_of_lt h9
        rw [gmul_opp H onG (ord_g E) hk]
        split
        · rename_i h0
          rw [h0]
          exact ord_g E
        · congr 1
          have h9 : ((NN : Nat) : Int) = NI := NN_eq
          generalize NN = n at *
          omega
  obtain ⟨q, hq, cq, tq⟩ := oth
  rw [hq] at h
  rw [← h]
  unfold rrec
  refine fromJac_eq E ?_ (ltimes_Can _ (ladd_Can cpt cq))
  have tl := ladd_toF E cpt cq
  rw [tpt, tq, gadd_comm H onR onZ] at tl
  have onl : On (toF F (ladd (ltimes (some (r.fmod PI, ry v r)) (s.fmod NI)) q)) := by rw [tl]; exact gadd_on H onZ onR
  rw [ltimes_toF E (ladd_Can cpt cq) onl ri.1 (lt257 ri.2), tl]
  have J1 := JR_mul E (JR_one E onG) onG ((NI - told).fmod NI)
  rw [fmodN_of rz.1 rz.2] at J1
  have J2 := JR_mul E (JR_one E on1) on1 s
  have J3 := JR_mul E (JR_add E J1 J2 onZ onR) (gadd_on H onZ onR) (invF r NI)
  rw [fmodN_of ri.1 ri.2] at J3
  exact J3
end Mine
namespace Mine
open PySem.Builtin.Int (intBits)
local macro_rules | `(tactic| walk_at "my vopt") => `(tactic| first
  | with_reducible assumption
  | with_reducible exact VOpt.none
  | ((with_reducible refine' VOpt.some ?hv); (case hv => walk_at "my vis"))
  | ((with_reducible refine' VOpt.tail ?hv); (case hv => walk_at "my vopt"))
  | ((with_reducible refine' VOpt.sub ?hw ?hv); (case hw => assumption); (case hv => walk_at "my vopt")))
local macro_rules | `(tactic| walk_at "my visl") => `(tactic| first
  | with_reducible assumption
  | exact VisL.head
  | ((with_reducible refine' VisL.tail ?hv); (case hv => walk_at "my visl"))
  | ((with_reducible refine' VisL.sub ?hw ?hv); (case hw => assumption); (case hv => walk_at "my visl")))
local macro_rules | `(tactic| walk_at "my ok") => `(tactic| first
  | with_reducible assumption
  | with_reducible exact True.intro
  | with_reducible exact BO_pt1
  | with_reducible exact BO_pt2
  | with_reducible exact BO_g1
  | with_reducible exact BO_g2
  | with_reducible exact oct_ok _
  | ((with_reducible refine' ladd_BO ?h1 ?h2); (case h1 => walk_at "my ok"); (case h2 => walk_at "my ok"))
  | ((with_reducible refine' ltimes_BO _ ?h1); (case h1 => walk_at "my ok"))
  | (exact oct_ok2 _ _)
  | ((with_reducible refine' And.intro ?h1 ?h2); (case h1 => walk_at "my ok"); (case h2 => walk_at "my ok")))
local macro_rules | `(tactic| walk_at "subscriptTail") => `(tactic| (k_here; (with_reducible show wpAny _ _ (subscriptTail _ _ (Value.ref _) (Value.int _ _)) _ _ _); k_dflt (refine' Mine.item_visL ?N ?v ?a ?b ?d ?_; (case N => k_asm); (case v => walk_at "my visl"); (case a => decide); (case b => decide); (case d => rfl); k_whole)))
local macro_rules | `(tactic| walk_at "call builtin:isinstance") => `(tactic| (k_here; (with_reducible show wpAny _ _ (PySem.call _ [Value.ref _, Value.type "tuple"]) _ _ _); k_dflt (refine' isi_vis ?F ?X ?N ?v ?_; (case F => k_asm); (case X => k_asm); (case N => k_asm); (case v => walk_at "my vis"); k_whole)))
local macro_rules | `(tactic| walk_at "my units") => `(tactic| first | exact Nat.le_of_ble_eq_true rfl | ktr_units)
local macro_rules | `(tactic| walk_at "compareOp Eq ref ref") => `(tactic| (k_here; (with_reducible show wpAny _ _ (compareOp CmpOp.Eq (Value.ref _) (Value.ref _)) _ _ _); k_dflt (first
  | (refine' eq_vis2 ?F ?X ?N ?v ?v2 ?u ?_; (case F => k_asm); (case X => k_asm); (case N => k_asm); (case v => walk_at "my vis"); (case v2 => walk_at "my vis"); (case u => walk_at "my units"); k_whole)
  | (refine' eq_vis3 ?F ?X ?N ?v ?v2 ?u ?_; (case F => k_asm); (case X => k_asm); (case N => k_asm); (case v => walk_at "my vis"); (case v2 => walk_at "my vis"); (case u => walk_at "my units"); k_whole))))
local macro_rules | `(tactic| walk_at "compareOp NotEq ref ref") => `(tactic| (k_here; (with_reducible show wpAny _ _ (compareOp CmpOp.NotEq (Value.ref _) (Value.ref _)) _ _ _); k_dflt (refine' ne_vis2 ?F ?X ?N ?v ?v2 ?u ?_; (case F => k_asm); (case X => k_asm); (case N => k_asm); (case v => walk_at "my vis"); (case v2 => walk_at "my vis"); (case u => walk_at "my units"); k_whole)))
local macro_rules | `(tactic| walk_at "compareOp Eq ref int") => `(tactic| (k_here; k_dflt (refine' eq_visI ?F ?X ?N ?v ?u ?_; (case F => k_asm); (case X => k_asm); (case N => k_asm); (case v => walk_at "my vis"); (case u => walk_at "my units"); k_whole)))
local macro_rules | `(tactic| walk_at "compareOp NotEq ref int") => `(tactic| (k_here; k_dflt (refine' ne_visI ?F ?X ?N ?v ?u ?_; (case F => k_asm); (case X => k_asm); (case N => k_asm); (case v => walk_at "my vis"); (case u => walk_at "my units"); k_whole)))
local macro_rules | `(tactic| walk_at "call builtin:pow") => `(tactic| (k_here; (with_reducible refine pow3 ?ha ?hb ?_); (case ha => decide +kernel); (case hb => decide +kernel)))
local macro_rules | `(tactic| bits_by_make) => `(tactic| first | with_reducible exact powZ_bitsP | with_reducible exact powZ_bitsN | with_reducible exact mod256_bits _ | with_reducible exact invF_bitsN' _)
local macro_rules | `(tactic| walk_at "binaryOp Mod int int") => `(tactic| (k_here; (with_reducible refine mod_int' two256_ne ?_)))
local macro_rules | `(tactic| walk_at "subscriptTail") => `(tactic| (k_here; (with_reducible show wpAny _ _ (subscriptTail _ _ (Value.ref _) (Value.int (Int.fmod _ 2) _)) _ _ _); k_dflt (refine' item_pick2 ?N ?v ?_ ?_; (case N => k_asm); (case v => walk_at "my visl")); intro hpick))
theorem holdsR_use {D : Type} {prog : Program} {w : World} {K : Frag} {p : Program} {loose : List Str} {mean : ExcName → Option Value} {mg mb : Str → Option Value} {f : Addr} {c : Con3 D} {d : D} {dp un : Nat} {gd : Option (List Code)} {cn : Str} {cs : Scope} {a : Addr} {ccd : Value} {cl : List (Str × Addr)} {outer : List Env} {A₀ : Around} {base h₀ : Heap} {L : Addr} {m : Str → Option Value} {news : List (Addr × Obj)} {s : Shared} {vs : List Value}
    {Q E : Value → Shared → Prop} (C : HoldsR prog w K p loose mean mg mb f c d) (B : Below A₀ base outer h₀) (F : Fr h₀ L s.heap m) (X : K.In h₀) (N : News h₀ L s.heap news) (T : Top p loose mean mg mb h₀) (hk : cs.kind = .function) (R : c.Rel news vs d) (ok : c.Ok d)
    (hd : dp + c.size d < recursionLimit) (hu : un + 8 * c.size d < cLine)
    (ret : ∀ r news' h' tk', c.Cond d → Fr h₀ L h' m → News h₀ L h' news' → Sub news news' → c.Out news' r d → Q r { s with heap := h', toks := tk' })
    (exc : ∀ e news' g h' tk', ¬ c.Cond d → Fr h₀ L g m → RaisedSN base g (envX cn cs L a ccd cl :: outer) e (.type "ValueError") news' h' → g.UpToSlots h' → Sub news news' → E (.ref e) { s with heap := h', toks := tk' }) :
    wpAny (model prog w) (ktrTop dp un gd cn cs L a ccd cl outer) (call (.ref f) vs) Q E s := C _ _ _ _ _ _ _ _ _ _ _ _ _ _ _ _ _ _ _ B F X N T hk R ok hd hu ret exc
theorem recR {K : Frag} {news : List (Addr × Obj)} {b : Array UInt8} {a : Addr} {v r s : Int} {t t1 t2 t3 : Tok} (h : Vis K news a [.int v t1, .int r t2, .int s t3]) : (recC K).Rel news [.bytes b t, .ref a, .ref 22] (b, v, r, s) := ⟨a, t, t1, t2, t3, rfl, h⟩
noncomputable def AllInt (P : Int → Prop) (l : List Value) : Prop := ∀ x ∈ l, ∃ i u, x = .int i u ∧ P i
theorem AllInt.nil {P : Int → Prop} : AllInt P [] := fun _ h => nomatch h
theorem AllInt.cons {i : Int} {u : Tok} {l : List Value} (h : intBits i ≤ 300) (hl : AllInt (fun i => intBits i ≤ 300) l) : AllInt (fun i => intBits i ≤ 300) (.int i u :: l) := fun x hx => by
  rcases List.mem_cons.mp hx with rfl | hx
  · exact ⟨_, _, rfl, h⟩
  · exact hl x hx
section
variable {prog : Program} {w : World} {A : Around} {E : Value → Shared → Prop} {s : Shared} {h₀ : Heap} {L : Addr} {news : List (Addr × Obj)} {value slice : Expr} {t : Addr} {l : List Value} {n k : Int} {u : Tok} {Q : Value → Shared → Prop}
theorem item_at (N : News h₀ L s.heap news) (v : VisL news t l) (hl : (l.length : Int) = k) (h0 : 0 < k) (hk : k < 2 ^ 63) (h : ∀ x ∈ l, Q x s)
    (hs : ∀ i : Int, subscripted slice false (.ref t) (.int i u) = operate [.ref t, .int i u] (getItem (.ref t) (.int i u)) := by intro i; with_unfolding_all rfl) :
    wpAny (model prog w) A (subscriptTail value slice (.ref t) (.int (n.fmod k) u)) Q E s := by
  have f := (fdiv_fmod_facts n k).2.2.1 h0
  have hlt : (n.fmod k).toNat < l.length := by omega
  exact item_visL N v f.1 (by omega) (List.getElem?_eq_getElem hlt) (h _ (List.getElem_mem hlt)) (hs _)
theorem item_ints (N : News h₀ L s.heap news) (v : VisL news t l) (hl : (l.length : Int) = k) (h0 : 0 < k) (hk : k < 2 ^ 63) (a : AllInt (fun i => intBits i ≤ 300) l) (h : ∀ i u', intBits i ≤ 300 → Q (.int i u') s)
    (hs : ∀ i : Int, subscripted slice false (.ref t) (.int i u) = operate [.ref t, .int i u] (getItem (.ref t) (.int i u)) := by intro i; with_unfolding_all rfl) :
    wpAny (model prog w) A (subscriptTail value slice (.ref t) (.int (n.fmod k) u)) Q E s := by
  refine item_at N v hl h0 hk (fun x hx => ?_) hs
  obtain ⟨i, u', rfl, hp⟩ := a x hx
  exact h i u' hp
end
local macro_rules | `(tactic| walk_at "my ints") => `(tactic| first
  | exact AllInt.nil
  | ((with_reducible refine' AllInt.cons ?ha ?hb); (case ha => bits_by_make); (case hb => walk_at "my ints")))
theorem powZ_b3' {b e : Int} : intBits (powZ b e 115792089237316195423570985008687907852837564279074904382605163141518161494337) ≤ 300 := Nat.le_trans powZ_bitsN (by decide)
theorem bits_mod256 (a : Int) : intBits (a.fmod (2 ^ Int.toNat 256)) ≤ 300 := bits_fmod_by two256_ne (by decide +kernel)
theorem bits_2N : intBits (2 * 115792089237316195423570985008687907852837564279074904382605163141518161494337) ≤ 300 := by decide +kernel
theorem bits_s1 (a : Int) : intBits (1 + a.fmod 65536) ≤ 300 := by
  have h := (fdiv_fmod_facts a 65536).2.2.1 (by decide)
  exact intBits_le_iff.mpr (Nat.lt_of_lt_of_le (show (1 + a.fmod 65536).natAbs < 2 ^ 17 by omega) (by decide +kernel))
theorem bits_s2 (a : Int) : intBits (NI + (1 + a.fmod 65536)) ≤ 300 := by
  have h := (fdiv_fmod_facts a 65536).2.2.1 (by decide)
  exact intBits_le_iff.mpr (Nat.lt_of_lt_of_le (show (NI + (1 + a.fmod 65536)).natAbs < 2 ^ 258 by unfold NI; omega) (by decide +kernel))
local macro_rules | `(tactic| bits_by_make) => `(tactic| first | with_reducible exact powZ_b3' | with_reducible exact bits_mod256 _ | with_reducible exact bits_s1 _ | with_reducible exact bits_s2 _ | with_reducible exact bitsN3 | with_reducible exact bitsP3 | with_reducible exact bits_2N | (with_reducible exact (show intBits 0 ≤ 300 by decide)) | (with_reducible exact (show intBits 5 ≤ 300 by decide)) | (with_reducible exact (show intBits 27 ≤ 300 by decide)) | (with_reducible exact (show intBits 28 ≤ 300 by decide)) | (with_reducible exact (show intBits 26 ≤ 300 by decide)) | (with_reducible exact (show intBits 29 ≤ 300 by decide)) | (with_reducible exact (show intBits (-27) ≤ 300 by decide)) | fail "no bound")
local macro_rules | `(tactic| walk_at "subscriptTail") => `(tactic| (k_here; (with_reducible show wpAny _ _ (subscriptTail _ _ (Value.ref _) (Value.int (Int.fmod _ _) _)) _ _ _); k_dflt (refine' item_ints ?N ?v ?hl ?h0 ?hk ?a ?_; (case N => k_asm); (case v => walk_at "my visl"); (case hl => rfl); (case h0 => decide); (case hk => decide); (case a => walk_at "my ints")); intro iI uI bI))
theorem all3 {Q : Value → Prop} {x y z : Value} (hx : Q x) (hy : Q y) (hz : Q z) : ∀ v ∈ [x, y, z], Q v := by
  intro v hv
  simp only [List.mem_cons, List.not_mem_nil, or_false] at hv
  rcases hv with rfl | rfl | rfl <;> assumption
local macro_rules | `(tactic| walk_at "subscriptTail") => `(tactic| (k_here; (with_reducible show wpAny _ _ (subscriptTail _ _ (Value.ref _) (Value.int (Int.fmod _ 3) _)) _ _ _); k_dflt (refine' item_at ?N ?v ?hl ?h0 ?hk (all3 ?_ ?_ ?_); (case N => k_asm); (case v => walk_at "my visl"); (case hl => rfl); (case h0 => decide); (case hk => decide))))
theorem two20_ne : (2 : Int) ^ Int.toNat 20 ≠ 0 := by decide +kernel
theorem two18_ne : (2 : Int) ^ Int.toNat 18 ≠ 0 := by decide +kernel
theorem bits20 : intBits ((2 : Int) ^ Int.toNat 20) ≤ 100 := by decide +kernel
theorem bits18 : intBits ((2 : Int) ^ Int.toNat 18) ≤ 100 := by decide +kernel
local macro_rules | `(tactic| walk_at "binaryOp FloorDiv int int") => `(tactic| (k_here; first
  | (with_reducible refine floordiv_int two20_ne ?_ (Or.inl (noPylong_bits bits20 (by decide))))
  | (with_reducible refine floordiv_int two18_ne ?_ (Or.inl (noPylong_bits bits18 (by decide))))))
theorem p256 : (256 : Int) ^ 32 = 115792089237316195423570985008687907853269984665640564039457584007913129639936 := by decide +kernel
noncomputable def ToldOk (x : Int) : Prop := 0 ≤ x ∧ x < 256 ^ 32
theorem toldA (g : Int) : ToldOk (115792089237316195423570985008687907852837564279074904382605163141518161494337 - g.fmod 65536) := by
  have h := (fdiv_fmod_facts g 65536).2.2.1 (by decide)
  unfold ToldOk; rw [p256]; omega
theorem toldB (g : Int) : ToldOk (g.fmod 65536) := by
  have h := (fdiv_fmod_facts g 65536).2.2.1 (by decide)
  unfold ToldOk; rw [p256]; omega
theorem toldC (g : Int) : ToldOk (115792089237316195423570985008687907852837564279074904382605163141518161494337 + g.fmod 65536) := by
  have h := (fdiv_fmod_facts g 65536).2.2.1 (by decide)
  unfold ToldOk; rw [p256]; omega
theorem toldD (g : Int) : ToldOk (g.fmod 115792089237316195423570985008687907852837564279074904382605163141518161494337) := by
  have h := (fdiv_fmod_facts g 115792089237316195423570985008687907852837564279074904382605163141518161494337).2.2.1 (by decide)
  unfold ToldOk; rw [p256]; omega
local macro_rules | `(tactic| walk_at "my told") => `(tactic| first | with_reducible assumption | with_reducible exact toldA _ | with_reducible exact toldB _ | with_reducible exact toldC _ | with_reducible exact toldD _ | fail "no range")
structure RecdOk (g1 : Int) : Prop where
  pt : ∃ p, ltimes (some (GX, GY)) (1 + g1.fmod 3000) = some p ∧ intBits p.1 ≤ 300
  none_ : ∀ v r s told, lkey v r s told = none → ¬ rcond v r s
  some_ : ∀ v r s told o, lkey v r s told = some o → rcond v r s ∧ rrec told v r s = o.getD (0, 0)
local macro_rules | `(tactic| walk_at "call ref") => `(tactic| (k_here; (with_reducible show wpAny _ _ (PySem.call (Value.ref 128) _) _ _ _); k_dflt (refine' timesS_use ?_ ?_ ?_ ?_ ?_ ?_ ?_ ?_ ?_ ?_ ?_ ?_ <;> walk_at "my prem")))
local macro_rules | `(tactic| walk_at "call ref") => `(tactic| (k_here; (with_reducible show wpAny _ _ (PySem.call (Value.ref 113) _) _ _ _); k_dflt (refine' lp_use ?_ ?_ ?_ ?_ ?_ ?_ ?_ ?_ ?_ <;> walk_at "my prem")))
local macro_rules | `(tactic| walk_at "call ref") => `(tactic| (k_here; (with_reducible show wpAny _ _ (PySem.call (Value.ref 135) _) _ _ _); k_dflt (refine' oct_use ?_ ?_ ?_ ?_ ?_ ?_ ?_ ?_ ?_ ?_ <;> walk_at "my prem")))
local macro_rules | `(tactic| walk_at "call ref") => `(tactic| (k_here; (with_reducible show wpAny _ _ (PySem.call (Value.ref 149) _) _ _ _); k_dflt (refine' keyX_use ?_ ?_ ?_ ?_ ?_ ?_ ?_ ?_ ?_ ?_ ?_ ?_ <;> walk_at "my prem")))
local macro_rules | `(tactic| walk_at "call ref") => `(tactic| (k_here; (with_reducible show wpAny _ _ (PySem.call (Value.ref 106) _) _ _ _); k_dflt (refine' holdsR_use (recW (_, _, _, _)) ?k1 ?k2 ?k3 ?k4 ?k5 ?kK ?kR ?ko ?kd ?ku ?_ ?_; (case k1 => k_asm); (case k2 => k_asm); (case k3 => k_asm); (case k4 => k_asm); (case k5 => k_asm); (case kK => first | exact rfl | assumption); (case kR => (refine' recR ?hh; (case hh => walk_at "my vis"))); (case ko => walk_at "my ok"); (case kd => ktr_room); (case ku => ktr_units)); first | (intro r9 news9 h9 tk9 c9 F9 N9 hs9 ho9; first | (exfalso; exact (‹RecdOk _›).none_ _ _ _ _ (by assumption) c9) | ((obtain ⟨a9, t9, u9, e9, V9⟩ := ho9); subst e9; (try dsimp only); (try k_fold))) | (intro e9 news9 g9 h9 tk9 c9 F9 R9 U9 hs9; first | (exfalso; exact c9 ((‹RecdOk _›).some_ _ _ _ _ _ (by assumption)).1) | ((try dsimp only); (try k_fold)))))
noncomputable def HoldsT {D : Type} (prog : Program) (w : World) (K : Frag) (p : Program) (loose : List Str) (mean : ExcName → Option Value) (mg mb : Str → Option Value) (f : Addr) (c : Con D) (d : D) : Prop :=
  ∀ (dp un : Nat) (gd : Option (List Code)) (cn : Str) (cs : Scope) (a : Addr) (ccd : Value) (cl : List (Str × Addr)) (A₀ : Around) (h₀ : Heap) (L : Addr) (m : Str → Option Value) (news : List (Addr × Obj)) (s : Shared) (vs : List Value)
    (Q E : Value → Shared → Prop),
    Below A₀ h₀ [] h₀ → Fr h₀ L s.heap m → K.In h₀ → News h₀ L s.heap news → Top p loose mean mg mb h₀ → cs.kind = .function → c.Rel news vs d → c.Ok d → dp + c.size d < recursionLimit → un + 8 * c.size d < cLine →
    (∀ r news' h' tk', Fr h₀ L h' m → News h₀ L h' news' → c.Out news' r d → Q r { s with heap := h', toks := tk' }) →
    wpAny (model prog w) (ktrTop dp un gd cn cs L a ccd cl []) (call (.ref f) vs) Q E s
noncomputable abbrev recdC (K : Frag) : Con (Int × Int × Int × Int) where
  Rel := fun news vs d => ∃ a g0 g5 t0 t1 t2 t3 t4 t5, vs = [.ref a] ∧ VisL news a [.int g0 t0, .int d.1 t1, .int d.2.1 t2, .int d.2.2.1 t3, .int d.2.2.2 t4, .int g5 t5]
  Ok := fun d => RecdOk d.1
  size := fun _ => 290
  Out := fun _ r _ => r = .bool true
theorem recdW {prog : Program} {w : World} {p : Program} {loose : List Str} {mean : ExcName → Option Value} {mg mb : Str → Option Value} : ∀ d, HoldsT prog w (K39 w.params) p loose mean mg mb 156 (recdC (K39 w.params)) d := by
  walk_at "my head"
  intro d
  unfold HoldsT
  intro dp un gd cn cs a ccd cl A₀ h₀ L m news s vs Q E B F X N T hk hR hok hd hu hret
  obtain ⟨g1, g2, g3, g4⟩ := d
  dsimp only [recdC] at hR hok hd hu
  obtain ⟨ja, g0, g5, t0, t1, t2, t3, t4, t5, rfl, V⟩ := hR
  obtain ⟨p0, hp0, hb0⟩ := hok.pt
  refine wpAny_call ?_
  refine' code_defTry ?k1 ?k2 ?k3 ?k4 ?k5 ?kA ?kF ?kK ?k6 ?k7 ?k8 ?k9 ?kB ?_ ?c2 ?c3 ?c4 ?c5
  case kA => exact rfl
  case kF => exact rfl
  case kK => first | exact rfl | assumption
  case k1 => k_asm
  case k2 => k_asm
  case k3 => k_asm
  case k4 => k_asm
  case k5 => k_asm
  case k6 => k_is
  case k7 => k_is
  case k8 => ktr_room
  case k9 => exact BindsTo.of_eq rfl
  case c5 => decide
  case kB => exact locs rfl
  case c2 => exact rfl
  case c3 => exact rfl
  case c4 => exact rfl
  k_whole
  intro g9 L9 h9 FG9 F9 N9 B9 X9 T9 D9
  try dsimp only
  try k_fold
  with_reducible refine cut_at (fun s' => ∃ (h' : Heap) (m' : Str → Option Value) (news' : List (Addr × Obj)) (tk uS uR : Nat) (jr : Int), s' = { s with heap := h', toks := tk } ∧ Fr g9 L9 h' m' ∧ m' (Str.ofString "given") = some (.ref ja) ∧ m' (Str.ofString "small") = some (.int (1 + g1.fmod 3000) uS) ∧ m' (Str.ofString "r") = some (.int jr uR) ∧ News g9 L9 h' news' ∧ Sub news news' ∧ intBits jr ≤ 300) 3 ?_ ?_
  · dsimp only [List.take]
    try k_fold
    k_steps
    all_goals exact ⟨_, _, _, _, _, _, _, rfl, (by k_asm), rfl, rfl, rfl, (by k_asm), by walk_at "my sub", by bits_by_make⟩
  · rintro s' ⟨h1, m1, news1, tk1, uS, uR, jr, rfl, F1, e1, e2, e3, N1, hs1, br⟩
    have F1 := fr_set (x := Str.ofString "given") (v := .ref ja) (by with_unfolding_all exact e1) F1
    have F1 := fr_set (x := Str.ofString "small") (v := .int (1 + g1.fmod 3000) uS) (by with_unfolding_all exact e2) F1
    have F1 := fr_set (x := Str.ofString "r") (v := .int jr uR) (by with_unfolding_all exact e3) F1
    clear e1 e2 e3 F9 N9
    dsimp only [List.drop]
    with_reducible refine cut_at (fun s' => ∃ (h' : Heap) (m' : Str → Option Value) (news' : List (Addr × Obj)) (tk uS uR uV uT : Nat) (jv js : Int), s' = { s with heap := h', toks := tk } ∧ Fr g9 L9 h' m' ∧ m' (Str.ofString "given") = some (.ref ja) ∧ m' (Str.ofString "small") = some (.int (1 + g1.fmod 3000) uS) ∧ m' (Str.ofString "r") = some (.int jr uR) ∧ m' (Str.ofString "v") = some (.int jv uV) ∧ m' (Str.ofString "s") = some (.int js uT) ∧ News g9 L9 h' news' ∧ Sub news news' ∧ intBits jv ≤ 300 ∧ intBits js ≤ 300) 3 ?_ ?_
    · dsimp only [List.take]
      try k_fold
      k_steps
      all_goals exact ⟨_, _, _, _, _, _, _, _, _, _, rfl, (by k_asm), rfl, rfl, rfl, rfl, rfl, (by k_asm), by walk_at "my sub", by bits_by_make, by bits_by_make⟩
    · clear F1 N1
      rintro s' ⟨h2, m2, news2, tk2, uS2, uR2, uV, uT, jv, js, rfl, F1, e1, e2, e3, e4, e5, N1, hs2, bv, bs⟩
      have F1 := fr_set (x := Str.ofString "given") (v := .ref ja) (by with_unfolding_all exact e1) F1
      have F1 := fr_set (x := Str.ofString "small") (v := .int (1 + g1.fmod 3000) uS2) (by with_unfolding_all exact e2) F1
      have F1 := fr_set (x := Str.ofString "r") (v := .int jr uR2) (by with_unfolding_all exact e3) F1
      have F1 := fr_set (x := Str.ofString "v") (v := .int jv uV) (by with_unfolding_all exact e4) F1
      have F1 := fr_set (x := Str.ofString "s") (v := .int js uT) (by with_unfolding_all exact e5) F1
      clear e1 e2 e3 e4 e5
      dsimp only [List.drop]
      with_reducible refine cut_at (fun s' => ∃ (h' : Heap) (m' : Str → Option Value) (news' : List (Addr × Obj)) (tk uS uR uV uT uL : Nat) (jt : Int), s' = { s with heap := h', toks := tk } ∧ Fr g9 L9 h' m' ∧ m' (Str.ofString "given") = some (.ref ja) ∧ m' (Str.ofString "small") = some (.int (1 + g1.fmod 3000) uS) ∧ m' (Str.ofString "r") = some (.int jr uR) ∧ m' (Str.ofString "v") = some (.int jv uV) ∧ m' (Str.ofString "s") = some (.int js uT) ∧ m' (Str.ofString "told") = some (.int jt uL) ∧ News g9 L9 h' news' ∧ Sub news news' ∧ ToldOk jt) 2 ?_ ?_
      · dsimp only [List.take]
        try k_fold
        k_steps
        all_goals exact ⟨_, _, _, _, _, _, _, _, _, _, rfl, (by k_asm), rfl, rfl, rfl, rfl, rfl, rfl, (by k_asm), by walk_at "my sub", by walk_at "my told"⟩
      · clear F1 N1
        rintro s' ⟨h3, m3, news3, tk3, uS3, uR3, uV3, uT3, uL3, jt, rfl, F1, e1, e2, e3, e4, e5, e6, N1, hs3, ht⟩
        have F1 := fr_set (x := Str.ofString "given") (v := .ref ja) (by with_unfolding_all exact e1) F1
        have F1 := fr_set (x := Str.ofString "small") (v := .int (1 + g1.fmod 3000) uS3) (by with_unfolding_all exact e2) F1
        have F1 := fr_set (x := Str.ofString "r") (v := .int jr uR3) (by with_unfolding_all exact e3) F1
        have F1 := fr_set (x := Str.ofString "v") (v := .int jv uV3) (by with_unfolding_all exact e4) F1
        have F1 := fr_set (x := Str.ofString "s") (v := .int js uT3) (by with_unfolding_all exact e5) F1
        have F1 := fr_set (x := Str.ofString "told") (v := .int jt uL3) (by with_unfolding_all exact e6) F1
        clear e1 e2 e3 e4 e5 e6
        dsimp only [List.drop]
        with_reducible refine cut_at (fun s' => ∃ (h' : Heap) (m' : Str → Option Value) (news' : List (Addr × Obj)) (tk uR uV uT uL : Nat) (jt : Int), s' = { s with heap := h', toks := tk } ∧ Fr g9 L9 h' m' ∧ m' (Str.ofString "r") = some (.int jr uR) ∧ m' (Str.ofString "v") = some (.int jv uV) ∧ m' (Str.ofString "s") = some (.int js uT) ∧ m' (Str.ofString "told") = some (.int jt uL) ∧ News g9 L9 h' news' ∧ Sub news news' ∧ ToldOk jt) 1 ?_ ?_
        · dsimp only [List.take]
          try k_fold
          k_steps
          all_goals exact ⟨_, _, _, _, _, _, _, _, _, rfl, (by k_asm), rfl, rfl, rfl, rfl, (by k_asm), by walk_at "my sub", by walk_at "my told"⟩
        · clear F1 N1 ht jt
          rintro s' ⟨h4, m4, news4, tk4, uR4, uV4, uT4, uL, jt, rfl, F1, e1, e2, e3, e4, N1, hs4, ht⟩
          have F1 := fr_set (x := Str.ofString "r") (v := .int jr uR4) (by with_unfolding_all exact e1) F1
          have F1 := fr_set (x := Str.ofString "v") (v := .int jv uV4) (by with_unfolding_all exact e2) F1
          have F1 := fr_set (x := Str.ofString "s") (v := .int js uT4) (by with_unfolding_all exact e3) F1
          have F1 := fr_set (x := Str.ofString "told") (v := .int jt uL) (by with_unfolding_all exact e4) F1
          clear e1 e2 e3 e4
          have ho : octC.Ok jt := ht
          have hsz : (octets jt).size ≤ 64 := by rw [octets_size]; decide
          have hoR : (octets jt).size ≤ 64 ∧ intBits jv ≤ 300 ∧ intBits jr ≤ 300 ∧ intBits js ≤ 300 := ⟨hsz, bv, br, bs⟩
          dsimp only [List.drop]
          try k_fold
          k_steps
          all_goals refine hret _ _ _ _ (by k_asm) (by k_asm) ?_
          all_goals show Value.bool _ = Value.bool true
          · rfl
          · have E := (hok.some_ _ _ _ _ _ (by assumption : lkey jv jr js jt = some none)).2
            rw [bytesInt_octets ht.1 ht.2]
            exact congrArg Value.bool (decide_eq_true E)
          · exact absurd (hok.some_ jv jr js jt none (by assumption)).1 (by assumption)
          · rename lkey _ _ _ _ = some (some _) => hk8
            have E := (hok.some_ _ _ _ _ _ hk8).2
            rw [bytesInt_octets ht.1 ht.2]
            exact congrArg Value.bool (decide_eq_true E)
          · rename lkey _ _ _ _ = some (some _) => hk8
            exact absurd (hok.some_ _ _ _ _ _ hk8).1 (by assumption)
end Mine
namespace Mine
open PySem.Builtin.Int (intBits)
theorem VisL.lst {news : List (Addr × Obj)} {a : Addr} {ys : List Value} : VisL ((a, LCg.lst ys) :: news) a ys := ⟨_, _, .head _, rfl, rfl⟩
theorem signedR {K : Frag} {news : List (Addr × Obj)} {a : Addr} {g0 g1 g2 g3 g4 g5 : Int} {t0 t1 t2 t3 t4 t5 : Tok} {p : Int × Int} (h : VisL news a [.int g0 t0, .int g1 t1, .int g2 t2, .int g3 t3, .int g4 t4, .int g5 t5]) : (signedC K).Rel news [.ref a] ((g1, g2, g3), p) := ⟨_, _, _, _, _, _, _, _, _, _, rfl, h⟩
noncomputable def gv (ns : List Int) (k : Int) : Int := if k < (ns.length : Int) then if ns.getD k.toNat 0 < 0 then -ns.getD k.toNat 0 else ns.getD k.toNat 0 else 7 * k + 2
theorem g6 {ys : List Value} {f : Int → Int} (h : IntsAre ys (List.map f (rangeKs 0 (6 - 0 : Int).toNat))) : ∃ t0 t1 t2 t3 t4 t5, ys = [.int (f 0) t0, .int (f 1) t1, .int (f 2) t2, .int (f 3) t3, .int (f 4) t4, .int (f 5) t5] := by
  have e : List.map f (rangeKs 0 (6 - 0 : Int).toNat) = [f 0, f 1, f 2, f 3, f 4, f 5] := rfl
  rw [e] at h
  cases h with | cons _ t0 h => cases h with | cons _ t1 h => cases h with | cons _ t2 h => cases h with | cons _ t3 h => cases h with | cons _ t4 h => cases h with | cons _ t5 h => cases h with | nil => exact ⟨_, _, _, _, _, _, rfl⟩
local macro_rules | `(tactic| walk_at "my vopt") => `(tactic| first
  | with_reducible assumption
  | with_reducible exact VOpt.none
  | ((with_reducible refine' VOpt.some ?hv); (case hv => walk_at "my vis"))
  | ((with_reducible refine' VOpt.tail ?hv); (case hv => walk_at "my vopt"))
  | ((with_reducible refine' VOpt.sub ?hw ?hv); (case hw => assumption); (case hv => walk_at "my vopt")))
local macro_rules | `(tactic| walk_at "my ok") => `(tactic| first
  | with_reducible assumption
  | with_reducible exact True.intro
  | with_reducible exact BO_pt1
  | with_reducible exact BO_pt2
  | with_reducible exact BO_g1
  | with_reducible exact BO_g2
  | ((with_reducible refine' ladd_BO ?h1 ?h2); (case h1 => walk_at "my ok"); (case h2 => walk_at "my ok"))
  | ((with_reducible refine' ltimes_BO _ ?h1); (case h1 => walk_at "my ok"))
  | ((with_reducible refine' And.intro ?h1 ?h2); (case h1 => walk_at "my ok"); (case h2 => walk_at "my ok")))
local macro_rules | `(tactic| walk_at "call builtin:pow") => `(tactic| (k_here; (with_reducible refine pow3 ?ha ?hb ?_); (case ha => decide +kernel); (case hb => decide +kernel)))
local macro_rules | `(tactic| bits_by_make) => `(tactic| first | with_reducible exact powZ_bitsP | with_reducible exact powZ_bitsN)
local macro_rules | `(tactic| walk_at "call ref") => `(tactic| (k_here; (with_reducible show wpAny _ _ (PySem.call (Value.ref 142) _) _ _ _); refine Mine.stop_here ?_))
local macro_rules | `(tactic| walk_at "call ref") => `(tactic| (k_here; (with_reducible show wpAny _ _ (PySem.call (Value.ref 156) _) _ _ _); refine Mine.stop_here ?_))
local macro_rules | `(tactic| walk_at "call ref") => `(tactic| (k_here; (with_reducible show wpAny _ _ (PySem.call (Value.ref 163) _) _ _ _); refine Mine.stop_here ?_))
theorem gv_bits {ns : List Int} (k : Int) (h : PyData.layable0 (.list (ns.map .int)) = true) (h0 : 0 ≤ k) (hk : k < 100) : intBits (gv ns k) ≤ 2000000 := by
  have hb := bits_getD (i := k.toNat) h
  have hb' : intBits (ns.getD k.toNat 0) ≤ 2000000 := Nat.le_trans hb (by decide +kernel)
  unfold gv
  split
  · split
    · exact bits_of_natAbs_le (by omega) hb'
    · exact hb'
  · exact intBits_le_iff.mpr (Nat.lt_of_lt_of_le (show (7 * k + 2).natAbs < 2 ^ 10 by omega) (Nat.pow_le_pow_right (by decide) (by decide)))
section
variable {D : Type} {prog : Program} {w : World} {K : Frag} {p : Program} {loose : List Str} {mean : ExcName → Option Value} {mg mb : Str → Option Value} {f : Addr} {c : Con D} {d : D} {dp un : Nat} {gd : Option (List Code)} {cn : Str} {cs : Scope} {a : Addr} {ccd : Value} {cl : List (Str × Addr)} {outer : List Env} {A₀ : Around} {base h₀ : Heap} {L : Addr} {m : Str → Option Value} {news : List (Addr × Obj)} {s : Shared} {vs : List Value} {rl : Addr} {its : Array Value}
    {Q E : Value → Shared → Prop}
theorem holdsL_use (C : HoldsL prog w K p loose mean mg mb f c rl its d) (B : Below A₀ base outer h₀) (l1 : h₀.IsList rl its) (l2 : base.IsList rl its) (F : Fr h₀ L s.heap m) (X : K.In h₀) (N : News h₀ L s.heap news) (T : Top p loose mean mg mb h₀) (hk : cs.kind = .function) (R : c.Rel news vs d) (ok : c.Ok d)
    (hd : dp + c.size d < recursionLimit) (hu : un + 8 * c.size d < cLine)
    (ret : ∀ r news' h' tk', Fr h₀ L h' m → News h₀ L h' news' → Sub news news' → c.Out news' r d → Q r { s with heap := h', toks := tk' }) :
    wpAny (model prog w) (ktrTop dp un gd cn cs L a ccd cl outer) (call (.ref f) vs) Q E s := C _ _ _ _ _ _ _ _ _ _ _ _ _ _ _ _ _ _ _ B l1 l2 F X N T hk R ok hd hu ret
theorem holdsT_use (C : HoldsT prog w K p loose mean mg mb f c d) (B : Below A₀ h₀ [] h₀) (F : Fr h₀ L s.heap m) (X : K.In h₀) (N : News h₀ L s.heap news) (T : Top p loose mean mg mb h₀) (hk : cs.kind = .function) (R : c.Rel news vs d) (ok : c.Ok d)
    (hd : dp + c.size d < recursionLimit) (hu : un + 8 * c.size d < cLine)
    (ret : ∀ r news' h' tk', Fr h₀ L h' m → News h₀ L h' news' → c.Out news' r d → Q r { s with heap := h', toks := tk' }) :
    wpAny (model prog w) (ktrTop dp un gd cn cs L a ccd cl []) (call (.ref f) vs) Q E s := C _ _ _ _ _ _ _ _ _ _ _ _ _ _ _ _ _ B F X N T hk R ok hd hu ret
end
theorem multR {news : List (Addr × Obj)} {a rl : Addr} {n g0 g1 g2 g3 g4 g5 : Int} {t0 t1 t2 t3 t4 t5 : Tok} (h : VisL news a [.int g0 t0, .int g1 t1, .int g2 t2, .int g3 t3, .int g4 t4, .int g5 t5]) : (multC rl n).Rel news [.ref a, .ref rl] (g1, g2, g3, g4, g5) := ⟨_, _, _, _, _, _, _, _, rfl, h⟩
theorem recdR {K : Frag} {news : List (Addr × Obj)} {a : Addr} {g0 g1 g2 g3 g4 g5 : Int} {t0 t1 t2 t3 t4 t5 : Tok} (h : VisL news a [.int g0 t0, .int g1 t1, .int g2 t2, .int g3 t3, .int g4 t4, .int g5 t5]) : (recdC K).Rel news [.ref a] (g1, g2, g3, g4) := ⟨_, _, _, _, _, _, _, _, _, rfl, h⟩
theorem recdOk (g : Int) : RecdOk g := by
  have s3 := small_ok (g := g) (m := 3000) (by decide) (by decide)
  refine ⟨?_, fun _ _ _ _ h => rec_none h, fun _ _ _ _ _ h => rec_some h⟩
  cases e : ltimes (some (GX, GY)) (1 + g.fmod 3000) with
  | none => exact absurd e (g_some s3.1 s3.2)
  | some p =>
    refine ⟨p, rfl, ?_⟩
    have := ltimes_BO (1 + g.fmod 3000) BO_g1
    rw [e] at this
    exact this.1
theorem main : PySem.Challenge.rw_jw0016_01.Holds := by
  walk_at "my head"
  refine' hd ?a1 ?a2 ?a3 ?call
  case a1 => with_unfolding_all rfl
  case a2 => with_unfolding_all rfl
  case a3 => rfl
  k_fill
  intro w s₀ s₁ mg mb G Y fa o pm cd doc dV kV ho hd hcd hD hmg hg args vals as hpre hlay hrd hwl hlo
  have KX := kIn_of Y
  have X := (Ground.X G).1
  have V := (Ground.X G).2
  refine Ground.open G ?_
  intro T B D TE TW
  try (refine guard_noD D (by decide +kernel) ?_; clear D)
  obtain ⟨_, _, M⟩ := bmod_of_top T
  have TA := at_of_top T
  try (obtain ⟨_, _, he, B0⟩ := based_of_top T rfl hmg ho hd; have he' : cd = _ := he; subst he'; clear he)
  clear hmg
  wrow_args hpre hlay hrd hwl hlo
  all_goals (
    refine enter_call ?_
    w_top on
    try refine codeAny_mono ?_ (fun _ _ g => GoodW.toG g)
    have K0 := below_caller (Top.heap T)
    w_call any ho hd hcd hD T F
    clear hd TA
    k_drop
    skip)
  (all_goals try k_fold)
  k_steps
  · refine Stop.mk ?_
    rename IntsAre _ (List.map _ (rangeKs _ _)) => h6
    obtain ⟨t0, t1, t2, t3, t4, t5, e6⟩ := g6 h6
    subst e6
    rename List Int => ns
    obtain ⟨p, hp, hb, hT⟩ := signed_some (gv ns 2)
    refine' holds_use (signedW ((gv ns 1, gv ns 2, gv ns 3), p)) ?k1 ?k2 ?k3 ?k4 ?k5 ?kK ?kR ?ko ?kd ?ku ?_
    case k1 => k_asm
    case k2 => k_asm
    case k3 => k_asm
    case k4 => k_asm
    case k5 => k_asm
    case kK => rfl
    case kR => exact signedR VisL.lst
    case ko => exact ⟨hp, hb⟩
    case kd => ktr_room
    case ku => ktr_units
    intro r9 news9 h9 tk9 F9 N9 hs9 ho9
    have e9 : r9 = .bool true := ho9.trans (congrArg Value.bool (hT (gv ns 1) (gv ns 3)))
    subst e9
    k_steps
  · refine Stop.mk ?_
    rename IntsAre _ (List.map _ (rangeKs _ _)) => h6
    obtain ⟨t0, t1, t2, t3, t4, t5, e6⟩ := g6 h6
    subst e6
    rename List Int => ns
    refine' holdsT_use (recdW (gv ns 1, gv ns 2, gv ns 3, gv ns 4)) ?k1 ?k2 ?k3 ?k4 ?k5 ?kK ?kR ?ko ?kd ?ku ?_
    case k1 => k_asm
    case k2 => k_asm
    case k3 => k_asm
    case k4 => k_asm
    case k5 => k_asm
    case kK => rfl
    case kR => exact recdR VisL.lst
    case ko => exact recdOk _
    case kd => ktr_room
    case ku => ktr_units
    intro r9 news9 h9 tk9 F9 N9 ho9
    have e9 : r9 = .bool true := ho9
    subst e9
    k_steps
  · refine Stop.mk ?_
    rename IntsAre _ (List.map _ (rangeKs _ _)) => h6
    obtain ⟨t0, t1, t2, t3, t4, t5, e6⟩ := g6 h6
    subst e6
    clear h6
    rename List Int => ns
    rename IntsAre _ ns => hI
    rename PyData.layable0 (.list (ns.map .int)) = true => hlay
    have hlen : ns.length ≤ 63 := by omega
    refine' holdsL_use (multW hI hlen hlay (gv ns 1, gv ns 2, gv ns 3, gv ns 4, gv ns 5)) ?k1 ?l1 ?l2 ?k2 ?k3 ?k4 ?k5 ?kK ?kR ?ko ?kd ?ku ?_
    case k1 => k_asm
    case l1 => assumption
    case l2 => assumption
    case k2 => k_asm
    case k3 => k_asm
    case k4 => k_asm
    case k5 => k_asm
    case kK => rfl
    case kR => exact multR VisL.lst
    case ko => exact ⟨multOk _ _ _ _ _ _, gv_bits 1 hlay (by decide) (by decide)⟩
    case kd => ktr_room
    case ku => ktr_units
    intro r9 news9 h9 tk9 F9 N9 hs9 ho9
    have e9 : r9 = .bool true := ho9
    subst e9
    k_steps
end Mine
theorem PySem.Challenge.cw_jw0016_01_holds : PySem.Challenge.rw_jw0016_01.Holds :=
  Mine.main
