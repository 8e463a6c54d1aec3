import PyProof.Rows.All
import Wide.All
import OpenK.AllK
import Wide.FinOn
import PySem.Challenge.RW_ix0019_01
namespace Mine
set_option Elab.async false
section
open PySem PySem.W PyProof.Rows
set_option maxRecDepth 100000
set_option maxHeartbeats 8000000
theorem k0.tw2576143066097090251 : True := trivial
local macro_rules | `(tactic| o_head $H) => `(tactic| (exact False.elim (by assumption)))
set_option Elab.async true in
theorem k0 (h9 : False) : PySem.Challenge.rw_ix0019_01.Holds := by
  w_on; o_law; k_head
end
section
open PySem PySem.W PyProof.Rows
theorem k0_fill : Mine.k0.heap_1_39 = Mine.k0.heap_1_39 := by
  w_top off
  rfl
end
section
set_option maxRecDepth 100000
abbrev Pt := Int × Int
/-- Python's `<` on pairs of ints -/
def ltP (p q : Pt) : Bool := if p.1 = q.1 then (if p.2 = q.2 then false else decide (p.2 < q.2)) else decide (p.1 < q.1)
def leP (p q : Pt) : Bool := if p.1 = q.1 then (if p.2 = q.2 then true else decide (p.2 ≤ q.2)) else decide (p.1 ≤ q.1)
def gtP (p q : Pt) : Bool := if p.1 = q.1 then (if p.2 = q.2 then false else decide (p.2 > q.2)) else decide (p.1 > q.1)
def minP (p q : Pt) : Pt := if ltP q p then q else p
def maxP (p q : Pt) : Pt := if gtP q p then q else p
abbrev Sg := Pt × Pt
def ltS (s t : Sg) : Bool := if s.1 = t.1 then (if s.2 = t.2 then false else ltP s.2 t.2) else ltP s.1 t.1
def insL {α : Type} (lt : α → α → Bool) (x : α) : List α → List α
  | [] => [x]
  | y :: r => if lt x y then x :: y :: r else y :: insL lt x r
def srtL {α : Type} (lt : α → α → Bool) (l : List α) : List α := l.foldl (fun acc x => insL lt x acc) []
abbrev srtP : List Pt → List Pt := srtL ltP
abbrev srtS : List Sg → List Sg := srtL ltS
def crossO (v f s : Pt) : Int := (f.1 - v.1) * (s.2 - v.2) - (f.2 - v.2) * (s.1 - v.1)
inductive Ori | cw | col | ccw
deriving DecidableEq
def orient (v f s : Pt) : Ori := if crossO v f s > 0 then .ccw else if crossO v f s < 0 then .cw else .col
inductive Rel | disjoint | touch | cross | overlap | composite | equal | component
deriving DecidableEq
def relC (s e g h : Pt) : Rel :=
  if s = g ∧ e = h then .equal else
  let o1 := orient g h s
  let o2 := orient g h e
  let o3 := orient s e g
  let o4 := orient s e h
  if o1 = o2 ∧ o2 = o3 ∧ o3 = o4 ∧ o4 = .col then
    if ltP h s = true ∨ ltP e g = true then .disjoint
    else if h = s ∨ e = g then .touch
    else if leP g s = true ∧ leP e h = true then .component
    else if leP s g = true ∧ leP h e = true then .composite
    else .overlap
  else if o1 = o2 ∨ o3 = o4 then .disjoint
  else if o1 = .col ∨ o2 = .col ∨ o3 = .col ∨ o4 = .col then .touch
  else .cross
def rel (a b c d : Pt) : Rel := relC (minP a b) (maxP a b) (minP c d) (maxP c d)
inductive Res
  | empty
  | mp (p : Pt)
  | seg (s : Sg)
  | mseg (l : List Sg)
def isx (a b c d : Pt) : Pt :=
  if a = c ∨ a = d then a else if b = c ∨ b = d then b else
  let x := b.1 - a.1
  let y := b.2 - a.2
  let ox := d.1 - c.1
  let oy := d.2 - c.2
  let scale := x * oy - y * ox
  let share := (c.1 - a.1) * oy - (c.2 - a.2) * ox
  (a.1 + (x * share).fdiv scale, a.2 + (y * share).fdiv scale)
def q4 (a b c d : Pt) : Pt × Pt × Pt × Pt := match srtP [a, b, c, d] with
  | [p, q, r, s] => (p, q, r, s)
  | _ => (a, b, c, d)
def intersectF (a b c d : Pt) : Res := match rel a b c d with
  | .disjoint => .empty
  | .touch | .cross => .mp (isx a b c d)
  | .equal | .component => .seg (a, b)
  | .composite => .seg (c, d)
  | .overlap => let q := q4 a b c d; .seg (q.2.1, q.2.2.1)
def subComposite (a b c d : Pt) : Res :=
  let (ls, le, rs, re) := q4 a b c d
  if ls = c ∨ ls = d then .seg (rs, re)
  else if le = c ∨ le = d then
    (if rs = c ∨ rs = d then (if rs = re then .seg (ls, le) else .mseg [(ls, le), (rs, re)]) else .seg (ls, le))
  else .seg (ls, rs)
def subOverlap (a b c d : Pt) : Res :=
  let (ls, le, rs, re) := q4 a b c d
  if ls = a ∨ ls = b then .seg (ls, le) else .seg (rs, re)
def subtractF (a b c d : Pt) : Res := match rel a b c d with
  | .component | .equal => .empty
  | .disjoint | .touch | .cross => .seg (a, b)
  | .overlap => subOverlap a b c d
  | .composite => subComposite a b c d
def uniTouch (a b c d : Pt) : Res :=
  if (a ≠ c ∨ orient a b d ≠ .col) ∧ (a ≠ d ∨ orient a b c ≠ .col) ∧ (b ≠ c ∨ orient b a d ≠ .col) ∧ (b ≠ d ∨ orient b a c ≠ .col)
  then .mseg [(a, b), (c, d)]
  else .seg (minP (minP (minP a b) c) d, maxP (maxP (maxP a b) c) d)
def uniCross (a b c d : Pt) : Res :=
  let p := isx a b c d
  .mseg [(a, p), (c, p), (p, b), (p, d)]
def uniOverlap (a b c d : Pt) : Res := let (s, _, _, e) := q4 a b c d; .seg (s, e)
def uniteF (a b c d : Pt) : Res := match rel a b c d with
  | .disjoint => .mseg [(a, b), (c, d)]
  | .equal | .composite => .seg (a, b)
  | .component => .seg (c, d)
  | .touch => uniTouch a b c d
  | .cross => uniCross a b c d
  | .overlap => uniOverlap a b c d
def symOverlap (a b c d : Pt) : Res := let (ls, le, rs, re) := q4 a b c d; .mseg [(ls, le), (rs, re)]
def symmF (a b c d : Pt) : Res := match rel a b c d with
  | .disjoint => .mseg [(a, b), (c, d)]
  | .equal => .empty
  | .touch => uniTouch a b c d
  | .cross => uniCross a b c d
  | .overlap => symOverlap a b c d
  | .composite => subComposite a b c d
  | .component => subComposite c d a b
inductive Told
  | none
  | pts (l : List Pt)
  | sgs (l : List Sg)
def nrm (s : Sg) : Sg := (minP s.1 s.2, maxP s.1 s.2)
/-- what the law's own reader tells of a result; a result that is well made tells a list -/
def toldF : Res → List Pt × List Sg
  | .empty => ([], [])
  | .mp p => ([p], [])
  | .seg s => ([], [nrm s])
  | .mseg l => ([], srtS (l.map nrm))
def madeWell : Res → Bool
  | .mseg l => 2 ≤ l.length
  | _ => true
end
section
set_option maxRecDepth 100000
theorem ltP_iff {p q : Pt} : ltP p q = true ↔ p.1 < q.1 ∨ (p.1 = q.1 ∧ p.2 < q.2) := by
  unfold ltP
  split
  · split <;> simp_all
  · simp; omega
theorem gtP_eq (p q : Pt) : gtP p q = ltP q p := by
  unfold gtP ltP
  by_cases h : p.1 = q.1
  · by_cases h2 : p.2 = q.2
    · simp [h, h2]
    · have : ¬ q.2 = p.2 := fun e => h2 e.symm
      simp [h, h2, this]
  · have : ¬ q.1 = p.1 := fun e => h e.symm
    simp [h, this]
theorem leP_eq (p q : Pt) : leP p q = !ltP q p := by
  unfold leP ltP
  by_cases h : p.1 = q.1
  · by_cases h2 : p.2 = q.2
    · simp [h, h2]
    · have h3 : ¬ q.2 = p.2 := fun e => h2 e.symm
      simp only [h, h2, h3, if_true, if_false]
      by_cases h4 : q.2 < p.2 <;> simp [h4] <;> omega
  · have h3 : ¬ q.1 = p.1 := fun e => h e.symm
    simp only [h, h3, if_false]
    by_cases h4 : q.1 < p.1 <;> simp [h4] <;> omega
theorem ltP_irr (p : Pt) : ltP p p = false := by simp [ltP]
theorem pt_ext {p q : Pt} : p = q ↔ p.1 = q.1 ∧ p.2 = q.2 := Prod.ext_iff
theorem tri (p q : Pt) : (ltP p q = true ∧ ltP q p = false ∧ p ≠ q) ∨ (p = q) ∨ (ltP q p = true ∧ ltP p q = false ∧ p ≠ q) := by
  have h1 := @ltP_iff p q
  have h2 := @ltP_iff q p
  rcases Bool.eq_false_or_eq_true (ltP p q) with e1 | e1 <;> rcases Bool.eq_false_or_eq_true (ltP q p) with e2 | e2
  · rw [e1] at h1; rw [e2] at h2; simp at h1 h2; omega
  · rw [e1] at h1; simp at h1
    exact .inl ⟨e1, e2, fun e => by subst e; omega⟩
  · rw [e2] at h2; simp at h2
    exact .inr (.inr ⟨e2, e1, fun e => by subst e; omega⟩)
  · rw [e1] at h1; rw [e2] at h2; simp at h1 h2
    exact .inr (.inl (pt_ext.mpr (by omega)))
theorem lt_trans {p q r : Pt} (h1 : ltP p q = true) (h2 : ltP q r = true) : ltP p r = true := by
  rw [ltP_iff] at *; omega
theorem lt_asym {p q : Pt} (h : ltP p q = true) : ltP q p = false := by
  rcases tri p q with h' | h' | h'
  · exact h'.2.1
  · subst h'; exact ltP_irr _
  · rw [h'.2.1] at h; cases h
theorem lt_ne {p q : Pt} (h : ltP p q = true) : p ≠ q := fun e => by subst e; rw [ltP_irr] at h; cases h
end
section
set_option maxRecDepth 100000
def cross (a b c d : Pt) : Int := (b.1 - a.1) * (d.2 - c.2) - (b.2 - a.2) * (d.1 - c.1)
def far (a _b c d : Pt) : Int := (c.1 - a.1) * (d.2 - c.2) - (c.2 - a.2) * (d.1 - c.1)
def near (a b c _d : Pt) : Int := (c.1 - a.1) * (b.2 - a.2) - (c.2 - a.2) * (b.1 - a.1)
/-- the rest of the first stretch, and of the second -/
def restS (one two : Sg) : List Sg := [(one.1, maxP one.1 two.1), (minP one.2 two.2, one.2)]
def ltE (s : Sg) : Bool := ltP s.1 s.2
structure Spec where
  met : List Pt × List Sg
  left : List Sg
  joined : List Sg
  single : List Sg
def specCol (one two : Sg) : Spec :=
  let low := maxP one.1 two.1
  let high := minP one.2 two.2
  let all := (minP one.1 two.1, maxP one.2 two.2)
  if low = high then ⟨([low], []), [one], [all], [all]⟩
  else if ltP low high = true then
    ⟨([], [(low, high)]), (restS one two).filter ltE, [all], srtS ((restS one two ++ [(two.1, low), (high, two.2)]).filter ltE)⟩
  else ⟨([], []), [one], srtS [one, two], srtS [one, two]⟩
/-- the relation, by order alone -/
def relO (s e g h : Pt) : Rel :=
  if s = g ∧ e = h then .equal
  else if ltP h s = true ∨ ltP e g = true then .disjoint
  else if h = s ∨ e = g then .touch
  else if leP g s = true ∧ leP e h = true then .component
  else if leP s g = true ∧ leP h e = true then .composite
  else .overlap
end
section
set_option maxRecDepth 100000
/-- told values of the four results, where all lies on one line -/
def uniAll (a b c d : Pt) : Res := .seg (minP (minP (minP a b) c) d, maxP (maxP (maxP a b) c) d)
def colI (a b c d : Pt) (r : Rel) (x : Pt) : Res := match r with
  | .disjoint => .empty
  | .touch | .cross => .mp x
  | .equal | .component => .seg (a, b)
  | .composite => .seg (c, d)
  | .overlap => let q := q4 a b c d; .seg (q.2.1, q.2.2.1)
def colS (a b c d : Pt) (r : Rel) : Res := match r with
  | .component | .equal => .empty
  | .disjoint | .touch | .cross => .seg (a, b)
  | .overlap => subOverlap a b c d
  | .composite => subComposite a b c d
def colU (a b c d : Pt) (r : Rel) : Res := match r with
  | .disjoint => .mseg [(a, b), (c, d)]
  | .equal | .composite => .seg (a, b)
  | .component => .seg (c, d)
  | .touch | .cross => uniAll a b c d
  | .overlap => uniOverlap a b c d
def colY (a b c d : Pt) (r : Rel) : Res := match r with
  | .disjoint => .mseg [(a, b), (c, d)]
  | .equal => .empty
  | .touch | .cross => uniAll a b c d
  | .overlap => symOverlap a b c d
  | .composite => subComposite a b c d
  | .component => subComposite c d a b
theorem ltf_iff {p q : Pt} : ltP p q = false ↔ ¬ (p.1 < q.1 ∨ (p.1 = q.1 ∧ p.2 < q.2)) := by rw [← ltP_iff]; simp
end
section
set_option maxRecDepth 100000
/-- the relation as the text asks it, test by test -/
def relRest2 (o1 o2 o3 o4 : Ori) : Rel :=
  if o1 = o2 then .disjoint else if o3 = o4 then .disjoint
  else if o1 = .col then .touch else if o2 = .col then .touch else if o3 = .col then .touch else if o4 = .col then .touch else .cross
def relCol (s e g h : Pt) : Rel :=
  if ltP h s = true then .disjoint else if ltP e g = true then .disjoint
  else if h = s then .touch else if e = g then .touch
  else if leP g s = true then (if leP e h = true then .component else if leP s g = true then (if leP h e = true then .composite else .overlap) else .overlap)
  else if leP s g = true then (if leP h e = true then .composite else .overlap) else .overlap
def relRest (s e g h : Pt) (o1 o2 o3 o4 : Ori) : Rel :=
  if o1 = o2 then (if o2 = o3 then (if o3 = o4 then (if o4 = .col then relCol s e g h else relRest2 o1 o2 o3 o4) else relRest2 o1 o2 o3 o4) else relRest2 o1 o2 o3 o4) else relRest2 o1 o2 o3 o4
def relW (s e g h : Pt) (o1 o2 o3 o4 : Ori) : Rel :=
  if s = g then (if e = h then .equal else relRest s e g h o1 o2 o3 o4) else relRest s e g h o1 o2 o3 o4
theorem relW_eq (s e g h : Pt) : relC s e g h = relW s e g h (orient g h s) (orient g h e) (orient s e g) (orient s e h) := by
  unfold relC relW
  generalize orient g h s = o1
  generalize orient g h e = o2
  generalize orient s e g = o3
  generalize orient s e h = o4
  have rest : (if o1 = o2 ∧ o2 = o3 ∧ o3 = o4 ∧ o4 = .col then
    if ltP h s = true ∨ ltP e g = true then Rel.disjoint
    else if h = s ∨ e = g then .touch
    else if leP g s = true ∧ leP e h = true then .component
    else if leP s g = true ∧ leP h e = true then .composite
    else .overlap
  else if o1 = o2 ∨ o3 = o4 then .disjoint
  else if o1 = .col ∨ o2 = .col ∨ o3 = .col ∨ o4 = .col then .touch
  else .cross) = relRest s e g h o1 o2 o3 o4 := by
    have r2 : (if o1 = o2 ∨ o3 = o4 then Rel.disjoint else if o1 = .col ∨ o2 = .col ∨ o3 = .col ∨ o4 = .col then .touch else .cross) = relRest2 o1 o2 o3 o4 := by
      unfold relRest2
      by_cases h1 : o1 = o2
      · simp [h1]
      · by_cases h2 : o3 = o4
        · simp [h2]
        · by_cases h3 : o1 = .col
          · simp [h1, h2, h3]
          · by_cases h4 : o2 = .col
            · simp [h1, h2, h3, h4]
            · by_cases h5 : o3 = .col
              · simp [h1, h2, h3, h4, h5]
              · by_cases h6 : o4 = .col <;> simp [h1, h2, h3, h4, h5, h6]
    have rc : (if ltP h s = true ∨ ltP e g = true then Rel.disjoint
    else if h = s ∨ e = g then .touch
    else if leP g s = true ∧ leP e h = true then .component
    else if leP s g = true ∧ leP h e = true then .composite
    else .overlap) = relCol s e g h := by
      unfold relCol
      by_cases h1 : ltP h s = true
      · simp [h1]
      · by_cases h2 : ltP e g = true
        · simp [h2]
        · by_cases h3 : h = s
          · simp [h1, h2, h3]
          · by_cases h4 : e = g
            · simp [h1, h2, h3, h4]
            · by_cases h5 : leP g s = true <;> by_cases h6 : leP e h = true <;> by_cases h7 : leP s g = true <;> by_cases h8 : leP h e = true <;> simp [h1, h2, h3, h4, h5, h6, h7, h8]
    rw [r2, rc]
    unfold relRest
    by_cases h1 : o1 = o2
    · by_cases h2 : o2 = o3
      · by_cases h3 : o3 = o4
        · by_cases h4 : o4 = .col
          · rw [if_pos ⟨h1, h2, h3, h4⟩, if_pos h1, if_pos h2, if_pos h3, if_pos h4]
          · rw [if_neg (fun x => h4 x.2.2.2), if_pos h1, if_pos h2, if_pos h3, if_neg h4]
        · rw [if_neg (fun x => h3 x.2.2.1), if_pos h1, if_pos h2, if_neg h3]
      · rw [if_neg (fun x => h2 x.2.1), if_pos h1, if_neg h2]
    · rw [if_neg (fun x => h1 x.1), if_neg h1]
  show (if s = g ∧ e = h then Rel.equal else _) = _
  rw [rest]
  by_cases h1 : s = g
  · by_cases h2 : e = h
    · rw [if_pos ⟨h1, h2⟩, if_pos h1, if_pos h2]
    · rw [if_neg (fun x => h2 x.2), if_pos h1, if_neg h2]
  · rw [if_neg (fun x => h1 x.1), if_neg h1]
end
section
set_option maxRecDepth 100000
/-- p lies ahead of q, all that comparing tells -/
structure Lt (p q : Pt) : Prop where
  l : ltP p q = true
  r : ltP q p = false
  n : p ≠ q
  m : q ≠ p
theorem Lt.of {p q : Pt} (h : ltP p q = true) : Lt p q := ⟨h, lt_asym h, lt_ne h, fun e => lt_ne h e.symm⟩
theorem Lt.trans {p q r : Pt} (h : Lt p q) (k : Lt q r) : Lt p r := .of (lt_trans h.l k.l)
theorem triL (p q : Pt) : Lt p q ∨ p = q ∨ Lt q p := by
  rcases tri p q with h | h | h
  · exact .inl (.of h.1)
  · exact .inr (.inl h)
  · exact .inr (.inr (.of h.1))
theorem allen {P : Pt → Pt → Pt → Pt → Prop}
    (h0 : ∀ a b : Pt, Lt a b → P a b a b)
    (h1 : ∀ a b d : Pt, Lt a b → Lt a d → Lt b d → P a b a d)
    (h2 : ∀ a b d : Pt, Lt a b → Lt a d → Lt b d → P a b b d)
    (h3 : ∀ a b c d : Pt, Lt a b → Lt a c → Lt a d → Lt b c → Lt b d → Lt c d → P a b c d)
    (h4 : ∀ a d b : Pt, Lt a d → Lt a b → Lt d b → P a b a d)
    (h5 : ∀ a c b : Pt, Lt a c → Lt a b → Lt c b → P a b c b)
    (h6 : ∀ a c b d : Pt, Lt a c → Lt a b → Lt a d → Lt c b → Lt c d → Lt b d → P a b c d)
    (h7 : ∀ a c d b : Pt, Lt a c → Lt a d → Lt a b → Lt c d → Lt c b → Lt d b → P a b c d)
    (h8 : ∀ c a b : Pt, Lt c a → Lt c b → Lt a b → P a b c a)
    (h9 : ∀ c a b : Pt, Lt c a → Lt c b → Lt a b → P a b c b)
    (h10 : ∀ c a b d : Pt, Lt c a → Lt c b → Lt c d → Lt a b → Lt a d → Lt b d → P a b c d)
    (h11 : ∀ c a d b : Pt, Lt c a → Lt c d → Lt c b → Lt a d → Lt a b → Lt d b → P a b c d)
    (h12 : ∀ c d a b : Pt, Lt c d → Lt c a → Lt c b → Lt d a → Lt d b → Lt a b → P a b c d)
    {a b c d : Pt} (hab : Lt a b) (hcd : Lt c d) : P a b c d := by
  rcases triL b c with h | h | h
  · exact h3 _ _ _ _ (hab) ((hab).trans h) (((hab).trans h).trans hcd) (h) ((h).trans hcd) (hcd)
  · subst h
    exact h2 _ _ _ (hab) ((hab).trans hcd) (hcd)
  · rcases triL a d with k | k | k
    · rcases triL a c with i | i | i
      · rcases triL b d with j | j | j
        · exact h6 _ _ _ _ (i) ((i).trans h) (((i).trans h).trans j) (h) ((h).trans j) (j)
        · subst j
          exact h5 _ _ _ (i) ((i).trans h) (h)
        · exact h7 _ _ _ _ (i) ((i).trans hcd) (((i).trans hcd).trans j) (hcd) ((hcd).trans j) (j)
      · subst i
        rcases triL b d with j | j | j
        · exact h1 _ _ _ (h) ((h).trans j) (j)
        · subst j
          exact h0 _ _ (h)
        · exact h4 _ _ _ (k) ((k).trans j) (j)
      · rcases triL b d with j | j | j
        · exact h10 _ _ _ _ (i) ((i).trans hab) (((i).trans hab).trans j) (hab) ((hab).trans j) (j)
        · subst j
          exact h9 _ _ _ (i) ((i).trans hab) (hab)
        · exact h11 _ _ _ _ (i) ((i).trans k) (((i).trans k).trans j) (k) ((k).trans j) (j)
    · subst k
      exact h8 _ _ _ (hcd) ((hcd).trans hab) (hab)
    · exact h12 _ _ _ _ (hcd) ((hcd).trans k) (((hcd).trans k).trans hab) (k) ((k).trans hab) (hab)
end
section
set_option maxRecDepth 100000
set_option maxHeartbeats 1000000
set_option linter.unusedSimpArgs false
theorem col_met {a b c d : Pt} (hab : Lt a b) (hcd : Lt c d) : rel a b c d = relO a b c d → toldF (intersectF a b c d) = (specCol (a, b) (c, d)).met := by
  refine allen (P := fun a b c d => rel a b c d = relO a b c d → toldF (intersectF a b c d) = (specCol (a, b) (c, d)).met) ?_ ?_ ?_ ?_ ?_ ?_ ?_ ?_ ?_ ?_ ?_ ?_ ?_ hab hcd
  · intro a b f0 hr
    simp [hr, f0.l, f0.r, f0.n, f0.m, ltP_irr, gtP_eq, leP_eq, relO, specCol, restS, ltE, toldF, nrm, minP, maxP, srtP, srtS, srtL, insL, ltS, intersectF, isx, q4]
  · intro a b d f0 f1 f2 hr
    simp [hr, f0.l, f0.r, f0.n, f0.m, f1.l, f1.r, f1.n, f1.m, f2.l, f2.r, f2.n, f2.m, ltP_irr, gtP_eq, leP_eq, relO, specCol, restS, ltE, toldF, nrm, minP, maxP, srtP, srtS, srtL, insL, ltS, intersectF, isx, q4]
  · intro a b d f0 f1 f2 hr
    simp [hr, f0.l, f0.r, f0.n, f0.m, f1.l, f1.r, f1.n, f1.m, f2.l, f2.r, f2.n, f2.m, ltP_irr, gtP_eq, leP_eq, relO, specCol, restS, ltE, toldF, nrm, minP, maxP, srtP, srtS, srtL, insL, ltS, intersectF, isx, q4]
  · intro a b c d f0 f1 f2 f3 f4 f5 hr
    simp [hr, f0.l, f0.r, f0.n, f0.m, f1.l, f1.r, f1.n, f1.m, f2.l, f2.r, f2.n, f2.m, f3.l, f3.r, f3.n, f3.m, f4.l, f4.r, f4.n, f4.m, f5.l, f5.r, f5.n, f5.m, ltP_irr, gtP_eq, leP_eq, relO, specCol, restS, ltE, toldF, nrm, minP, maxP, srtP, srtS, srtL, insL, ltS, intersectF, isx, q4]
  · intro a d b f0 f1 f2 hr
    simp [hr, f0.l, f0.r, f0.n, f0.m, f1.l, f1.r, f1.n, f1.m, f2.l, f2.r, f2.n, f2.m, ltP_irr, gtP_eq, leP_eq, relO, specCol, restS, ltE, toldF, nrm, minP, maxP, srtP, srtS, srtL, insL, ltS, intersectF, isx, q4]
  · intro a c b f0 f1 f2 hr
    simp [hr, f0.l, f0.r, f0.n, f0.m, f1.l, f1.r, f1.n, f1.m, f2.l, f2.r, f2.n, f2.m, ltP_irr, gtP_eq, leP_eq, relO, specCol, restS, ltE, toldF, nrm, minP, maxP, srtP, srtS, srtL, insL, ltS, intersectF, isx, q4]
  · intro a c b d f0 f1 f2 f3 f4 f5 hr
    simp [hr, f0.l, f0.r, f0.n, f0.m, f1.l, f1.r, f1.n, f1.m, f2.l, f2.r, f2.n, f2.m, f3.l, f3.r, f3.n, f3.m, f4.l, f4.r, f4.n, f4.m, f5.l, f5.r, f5.n, f5.m, ltP_irr, gtP_eq, leP_eq, relO, specCol, restS, ltE, toldF, nrm, minP, maxP, srtP, srtS, srtL, insL, ltS, intersectF, isx, q4]
  · intro a c d b f0 f1 f2 f3 f4 f5 hr
    simp [hr, f0.l, f0.r, f0.n, f0.m, f1.l, f1.r, f1.n, f1.m, f2.l, f2.r, f2.n, f2.m, f3.l, f3.r, f3.n, f3.m, f4.l, f4.r, f4.n, f4.m, f5.l, f5.r, f5.n, f5.m, ltP_irr, gtP_eq, leP_eq, relO, specCol, restS, ltE, toldF, nrm, minP, maxP, srtP, srtS, srtL, insL, ltS, intersectF, isx, q4]
  · intro c a b f0 f1 f2 hr
    simp [hr, f0.l, f0.r, f0.n, f0.m, f1.l, f1.r, f1.n, f1.m, f2.l, f2.r, f2.n, f2.m, ltP_irr, gtP_eq, leP_eq, relO, specCol, restS, ltE, toldF, nrm, minP, maxP, srtP, srtS, srtL, insL, ltS, intersectF, isx, q4]
  · intro c a b f0 f1 f2 hr
    simp [hr, f0.l, f0.r, f0.n, f0.m, f1.l, f1.r, f1.n, f1.m, f2.l, f2.r, f2.n, f2.m, ltP_irr, gtP_eq, leP_eq, relO, specCol, restS, ltE, toldF, nrm, minP, maxP, srtP, srtS, srtL, insL, ltS, intersectF, isx, q4]
  · intro c a b d f0 f1 f2 f3 f4 f5 hr
    simp [hr, f0.l, f0.r, f0.n, f0.m, f1.l, f1.r, f1.n, f1.m, f2.l, f2.r, f2.n, f2.m, f3.l, f3.r, f3.n, f3.m, f4.l, f4.r, f4.n, f4.m, f5.l, f5.r, f5.n, f5.m, ltP_irr, gtP_eq, leP_eq, relO, specCol, restS, ltE, toldF, nrm, minP, maxP, srtP, srtS, srtL, insL, ltS, intersectF, isx, q4]
  · intro c a d b f0 f1 f2 f3 f4 f5 hr
    simp [hr, f0.l, f0.r, f0.n, f0.m, f1.l, f1.r, f1.n, f1.m, f2.l, f2.r, f2.n, f2.m, f3.l, f3.r, f3.n, f3.m, f4.l, f4.r, f4.n, f4.m, f5.l, f5.r, f5.n, f5.m, ltP_irr, gtP_eq, leP_eq, relO, specCol, restS, ltE, toldF, nrm, minP, maxP, srtP, srtS, srtL, insL, ltS, intersectF, isx, q4]
  · intro c d a b f0 f1 f2 f3 f4 f5 hr
    simp [hr, f0.l, f0.r, f0.n, f0.m, f1.l, f1.r, f1.n, f1.m, f2.l, f2.r, f2.n, f2.m, f3.l, f3.r, f3.n, f3.m, f4.l, f4.r, f4.n, f4.m, f5.l, f5.r, f5.n, f5.m, ltP_irr, gtP_eq, leP_eq, relO, specCol, restS, ltE, toldF, nrm, minP, maxP, srtP, srtS, srtL, insL, ltS, intersectF, isx, q4]
theorem col_left {a b c d : Pt} (hab : Lt a b) (hcd : Lt c d) : rel a b c d = relO a b c d → toldF (subtractF a b c d) = ([], (specCol (a, b) (c, d)).left) := by
  refine allen (P := fun a b c d => rel a b c d = relO a b c d → toldF (subtractF a b c d) = ([], (specCol (a, b) (c, d)).left)) ?_ ?_ ?_ ?_ ?_ ?_ ?_ ?_ ?_ ?_ ?_ ?_ ?_ hab hcd
  · intro a b f0 hr
    simp [hr, f0.l, f0.r, f0.n, f0.m, ltP_irr, gtP_eq, leP_eq, relO, specCol, restS, ltE, toldF, nrm, minP, maxP, srtP, srtS, srtL, insL, ltS, subtractF, subOverlap, subComposite, q4]
  · intro a b d f0 f1 f2 hr
    simp [hr, f0.l, f0.r, f0.n, f0.m, f1.l, f1.r, f1.n, f1.m, f2.l, f2.r, f2.n, f2.m, ltP_irr, gtP_eq, leP_eq, relO, specCol, restS, ltE, toldF, nrm, minP, maxP, srtP, srtS, srtL, insL, ltS, subtractF, subOverlap, subComposite, q4]
  · intro a b d f0 f1 f2 hr
    simp [hr, f0.l, f0.r, f0.n, f0.m, f1.l, f1.r, f1.n, f1.m, f2.l, f2.r, f2.n, f2.m, ltP_irr, gtP_eq, leP_eq, relO, specCol, restS, ltE, toldF, nrm, minP, maxP, srtP, srtS, srtL, insL, ltS, subtractF, subOverlap, subComposite, q4]
  · intro a b c d f0 f1 f2 f3 f4 f5 hr
    simp [hr, f0.l, f0.r, f0.n, f0.m, f1.l, f1.r, f1.n, f1.m, f2.l, f2.r, f2.n, f2.m, f3.l, f3.r, f3.n, f3.m, f4.l, f4.r, f4.n, f4.m, f5.l, f5.r, f5.n, f5.m, ltP_irr, gtP_eq, leP_eq, relO, specCol, restS, ltE, toldF, nrm, minP, maxP, srtP, srtS, srtL, insL, ltS, subtractF, subOverlap, subComposite, q4]
  · intro a d b f0 f1 f2 hr
    simp [hr, f0.l, f0.r, f0.n, f0.m, f1.l, f1.r, f1.n, f1.m, f2.l, f2.r, f2.n, f2.m, ltP_irr, gtP_eq, leP_eq, relO, specCol, restS, ltE, toldF, nrm, minP, maxP, srtP, srtS, srtL, insL, ltS, subtractF, subOverlap, subComposite, q4]
  · intro a c b f0 f1 f2 hr
    simp [hr, f0.l, f0.r, f0.n, f0.m, f1.l, f1.r, f1.n, f1.m, f2.l, f2.r, f2.n, f2.m, ltP_irr, gtP_eq, leP_eq, relO, specCol, restS, ltE, toldF, nrm, minP, maxP, srtP, srtS, srtL, insL, ltS, subtractF, subOverlap, subComposite, q4]
  · intro a c b d f0 f1 f2 f3 f4 f5 hr
    simp [hr, f0.l, f0.r, f0.n, f0.m, f1.l, f1.r, f1.n, f1.m, f2.l, f2.r, f2.n, f2.m, f3.l, f3.r, f3.n, f3.m, f4.l, f4.r, f4.n, f4.m, f5.l, f5.r, f5.n, f5.m, ltP_irr, gtP_eq, leP_eq, relO, specCol, restS, ltE, toldF, nrm, minP, maxP, srtP, srtS, srtL, insL, ltS, subtractF, subOverlap, subComposite, q4]
  · intro a c d b f0 f1 f2 f3 f4 f5 hr
    simp [hr, f0.l, f0.r, f0.n, f0.m, f1.l, f1.r, f1.n, f1.m, f2.l, f2.r, f2.n, f2.m, f3.l, f3.r, f3.n, f3.m, f4.l, f4.r, f4.n, f4.m, f5.l, f5.r, f5.n, f5.m, ltP_irr, gtP_eq, leP_eq, relO, specCol, restS, ltE, toldF, nrm, minP, maxP, srtP, srtS, srtL, insL, ltS, subtractF, subOverlap, subComposite, q4]
  · intro c a b f0 f1 f2 hr
    simp [hr, f0.l, f0.r, f0.n, f0.m, f1.l, f1.r, f1.n, f1.m, f2.l, f2.r, f2.n, f2.m, ltP_irr, gtP_eq, leP_eq, relO, specCol, restS, ltE, toldF, nrm, minP, maxP, srtP, srtS, srtL, insL, ltS, subtractF, subOverlap, subComposite, q4]
  · intro c a b f0 f1 f2 hr
    simp [hr, f0.l, f0.r, f0.n, f0.m, f1.l, f1.r, f1.n, f1.m, f2.l, f2.r, f2.n, f2.m, ltP_irr, gtP_eq, leP_eq, relO, specCol, restS, ltE, toldF, nrm, minP, maxP, srtP, srtS, srtL, insL, ltS, subtractF, subOverlap, subComposite, q4]
  · intro c a b d f0 f1 f2 f3 f4 f5 hr
    simp [hr, f0.l, f0.r, f0.n, f0.m, f1.l, f1.r, f1.n, f1.m, f2.l, f2.r, f2.n, f2.m, f3.l, f3.r, f3.n, f3.m, f4.l, f4.r, f4.n, f4.m, f5.l, f5.r, f5.n, f5.m, ltP_irr, gtP_eq, leP_eq, relO, specCol, restS, ltE, toldF, nrm, minP, maxP, srtP, srtS, srtL, insL, ltS, subtractF, subOverlap, subComposite, q4]
  · intro c a d b f0 f1 f2 f3 f4 f5 hr
    simp [hr, f0.l, f0.r, f0.n, f0.m, f1.l, f1.r, f1.n, f1.m, f2.l, f2.r, f2.n, f2.m, f3.l, f3.r, f3.n, f3.m, f4.l, f4.r, f4.n, f4.m, f5.l, f5.r, f5.n, f5.m, ltP_irr, gtP_eq, leP_eq, relO, specCol, restS, ltE, toldF, nrm, minP, maxP, srtP, srtS, srtL, insL, ltS, subtractF, subOverlap, subComposite, q4]
  · intro c d a b f0 f1 f2 f3 f4 f5 hr
    simp [hr, f0.l, f0.r, f0.n, f0.m, f1.l, f1.r, f1.n, f1.m, f2.l, f2.r, f2.n, f2.m, f3.l, f3.r, f3.n, f3.m, f4.l, f4.r, f4.n, f4.m, f5.l, f5.r, f5.n, f5.m, ltP_irr, gtP_eq, leP_eq, relO, specCol, restS, ltE, toldF, nrm, minP, maxP, srtP, srtS, srtL, insL, ltS, subtractF, subOverlap, subComposite, q4]
theorem col_joined {a b c d : Pt} (hab : Lt a b) (hcd : Lt c d) : rel a b c d = relO a b c d → orient a b c = .col → orient a b d = .col → orient b a c = .col → orient b a d = .col → toldF (uniteF a b c d) = ([], (specCol (a, b) (c, d)).joined) := by
  refine allen (P := fun a b c d => rel a b c d = relO a b c d → orient a b c = .col → orient a b d = .col → orient b a c = .col → orient b a d = .col → toldF (uniteF a b c d) = ([], (specCol (a, b) (c, d)).joined)) ?_ ?_ ?_ ?_ ?_ ?_ ?_ ?_ ?_ ?_ ?_ ?_ ?_ hab hcd
  · intro a b f0 hr o1 o2 o3 o4
    simp [hr, o1, o2, o3, o4, f0.l, f0.r, f0.n, f0.m, ltP_irr, gtP_eq, leP_eq, relO, specCol, restS, ltE, toldF, nrm, minP, maxP, srtP, srtS, srtL, insL, ltS, uniteF, uniTouch, uniOverlap, q4]
  · intro a b d f0 f1 f2 hr o1 o2 o3 o4
    simp [hr, o1, o2, o3, o4, f0.l, f0.r, f0.n, f0.m, f1.l, f1.r, f1.n, f1.m, f2.l, f2.r, f2.n, f2.m, ltP_irr, gtP_eq, leP_eq, relO, specCol, restS, ltE, toldF, nrm, minP, maxP, srtP, srtS, srtL, insL, ltS, uniteF, uniTouch, uniOverlap, q4]
  · intro a b d f0 f1 f2 hr o1 o2 o3 o4
    simp [hr, o1, o2, o3, o4, f0.l, f0.r, f0.n, f0.m, f1.l, f1.r, f1.n, f1.m, f2.l, f2.r, f2.n, f2.m, ltP_irr, gtP_eq, leP_eq, relO, specCol, restS, ltE, toldF, nrm, minP, maxP, srtP, srtS, srtL, insL, ltS, uniteF, uniTouch, uniOverlap, q4]
  · intro a b c d f0 f1 f2 f3 f4 f5 hr o1 o2 o3 o4
    simp [hr, o1, o2, o3, o4, f0.l, f0.r, f0.n, f0.m, f1.l, f1.r, f1.n, f1.m, f2.l, f2.r, f2.n, f2.m, f3.l, f3.r, f3.n, f3.m, f4.l, f4.r, f4.n, f4.m, f5.l, f5.r, f5.n, f5.m, ltP_irr, gtP_eq, leP_eq, relO, specCol, restS, ltE, toldF, nrm, minP, maxP, srtP, srtS, srtL, insL, ltS, uniteF, uniTouch, uniOverlap, q4]
  · intro a d b f0 f1 f2 hr o1 o2 o3 o4
    simp [hr, o1, o2, o3, o4, f0.l, f0.r, f0.n, f0.m, f1.l, f1.r, f1.n, f1.m, f2.l, f2.r, f2.n, f2.m, ltP_irr, gtP_eq, leP_eq, relO, specCol, restS, ltE, toldF, nrm, minP, maxP, srtP, srtS, srtL, insL, ltS, uniteF, uniTouch, uniOverlap, q4]
  · intro a c b f0 f1 f2 hr o1 o2 o3 o4
    simp [hr, o1, o2, o3, o4, f0.l, f0.r, f0.n, f0.m, f1.l, f1.r, f1.n, f1.m, f2.l, f2.r, f2.n, f2.m, ltP_irr, gtP_eq, leP_eq, relO, specCol, restS, ltE, toldF, nrm, minP, maxP, srtP, srtS, srtL, insL, ltS, uniteF, uniTouch, uniOverlap, q4]
  · intro a c b d f0 f1 f2 f3 f4 f5 hr o1 o2 o3 o4
    simp [hr, o1, o2, o3, o4, f0.l, f0.r, f0.n, f0.m, f1.l, f1.r, f1.n, f1.m, f2.l, f2.r, f2.n, f2.m, f3.l, f3.r, f3.n, f3.m, f4.l, f4.r, f4.n, f4.m, f5.l, f5.r, f5.n, f5.m, ltP_irr, gtP_eq, leP_eq, relO, specCol, restS, ltE, toldF, nrm, minP, maxP, srtP, srtS, srtL, insL, ltS, uniteF, uniTouch, uniOverlap, q4]
  · intro a c d b f0 f1 f2 f3 f4 f5 hr o1 o2 o3 o4
    simp [hr, o1, o2, o3, o4, f0.l, f0.r, f0.n, f0.m, f1.l, f1.r, f1.n, f1.m, f2.l, f2.r, f2.n, f2.m, f3.l, f3.r, f3.n, f3.m, f4.l, f4.r, f4.n, f4.m, f5.l, f5.r, f5.n, f5.m, ltP_irr, gtP_eq, leP_eq, relO, specCol, restS, ltE, toldF, nrm, minP, maxP, srtP, srtS, srtL, insL, ltS, uniteF, uniTouch, uniOverlap, q4]
  · intro c a b f0 f1 f2 hr o1 o2 o3 o4
    simp [hr, o1, o2, o3, o4, f0.l, f0.r, f0.n, f0.m, f1.l, f1.r, f1.n, f1.m, f2.l, f2.r, f2.n, f2.m, ltP_irr, gtP_eq, leP_eq, relO, specCol, restS, ltE, toldF, nrm, minP, maxP, srtP, srtS, srtL, insL, ltS, uniteF, uniTouch, uniOverlap, q4]
  · intro c a b f0 f1 f2 hr o1 o2 o3 o4
    simp [hr, o1, o2, o3, o4, f0.l, f0.r, f0.n, f0.m, f1.l, f1.r, f1.n, f1.m, f2.l, f2.r, f2.n, f2.m, ltP_irr, gtP_eq, leP_eq, relO, specCol, restS, ltE, toldF, nrm, minP, maxP, srtP, srtS, srtL, insL, ltS, uniteF, uniTouch, uniOverlap, q4]
  · intro c a b d f0 f1 f2 f3 f4 f5 hr o1 o2 o3 o4
    simp [hr, o1, o2, o3, o4, f0.l, f0.r, f0.n, f0.m, f1.l, f1.r, f1.n, f1.m, f2.l, f2.r, f2.n, f2.m, f3.l, f3.r, f3.n, f3.m, f4.l, f4.r, f4.n, f4.m, f5.l, f5.r, f5.n, f5.m, ltP_irr, gtP_eq, leP_eq, relO, specCol, restS, ltE, toldF, nrm, minP, maxP, srtP, srtS, srtL, insL, ltS, uniteF, uniTouch, uniOverlap, q4]
  · intro c a d b f0 f1 f2 f3 f4 f5 hr o1 o2 o3 o4
    simp [hr, o1, o2, o3, o4, f0.l, f0.r, f0.n, f0.m, f1.l, f1.r, f1.n, f1.m, f2.l, f2.r, f2.n, f2.m, f3.l, f3.r, f3.n, f3.m, f4.l, f4.r, f4.n, f4.m, f5.l, f5.r, f5.n, f5.m, ltP_irr, gtP_eq, leP_eq, relO, specCol, restS, ltE, toldF, nrm, minP, maxP, srtP, srtS, srtL, insL, ltS, uniteF, uniTouch, uniOverlap, q4]
  · intro c d a b f0 f1 f2 f3 f4 f5 hr o1 o2 o3 o4
    simp [hr, o1, o2, o3, o4, f0.l, f0.r, f0.n, f0.m, f1.l, f1.r, f1.n, f1.m, f2.l, f2.r, f2.n, f2.m, f3.l, f3.r, f3.n, f3.m, f4.l, f4.r, f4.n, f4.m, f5.l, f5.r, f5.n, f5.m, ltP_irr, gtP_eq, leP_eq, relO, specCol, restS, ltE, toldF, nrm, minP, maxP, srtP, srtS, srtL, insL, ltS, uniteF, uniTouch, uniOverlap, q4]
theorem col_single {a b c d : Pt} (hab : Lt a b) (hcd : Lt c d) : rel a b c d = relO a b c d → orient a b c = .col → orient a b d = .col → orient b a c = .col → orient b a d = .col → toldF (symmF a b c d) = ([], (specCol (a, b) (c, d)).single) := by
  refine allen (P := fun a b c d => rel a b c d = relO a b c d → orient a b c = .col → orient a b d = .col → orient b a c = .col → orient b a d = .col → toldF (symmF a b c d) = ([], (specCol (a, b) (c, d)).single)) ?_ ?_ ?_ ?_ ?_ ?_ ?_ ?_ ?_ ?_ ?_ ?_ ?_ hab hcd
  · intro a b f0 hr o1 o2 o3 o4
    simp [hr, o1, o2, o3, o4, f0.l, f0.r, f0.n, f0.m, ltP_irr, gtP_eq, leP_eq, relO, specCol, restS, ltE, toldF, nrm, minP, maxP, srtP, srtS, srtL, insL, ltS, symmF, uniTouch, symOverlap, subComposite, q4]
  · intro a b d f0 f1 f2 hr o1 o2 o3 o4
    simp [hr, o1, o2, o3, o4, f0.l, f0.r, f0.n, f0.m, f1.l, f1.r, f1.n, f1.m, f2.l, f2.r, f2.n, f2.m, ltP_irr, gtP_eq, leP_eq, relO, specCol, restS, ltE, toldF, nrm, minP, maxP, srtP, srtS, srtL, insL, ltS, symmF, uniTouch, symOverlap, subComposite, q4]
  · intro a b d f0 f1 f2 hr o1 o2 o3 o4
    simp [hr, o1, o2, o3, o4, f0.l, f0.r, f0.n, f0.m, f1.l, f1.r, f1.n, f1.m, f2.l, f2.r, f2.n, f2.m, ltP_irr, gtP_eq, leP_eq, relO, specCol, restS, ltE, toldF, nrm, minP, maxP, srtP, srtS, srtL, insL, ltS, symmF, uniTouch, symOverlap, subComposite, q4]
  · intro a b c d f0 f1 f2 f3 f4 f5 hr o1 o2 o3 o4
    simp [hr, o1, o2, o3, o4, f0.l, f0.r, f0.n, f0.m, f1.l, f1.r, f1.n, f1.m, f2.l, f2.r, f2.n, f2.m, f3.l, f3.r, f3.n, f3.m, f4.l, f4.r, f4.n, f4.m, f5.l, f5.r, f5.n, f5.m, ltP_irr, gtP_eq, leP_eq, relO, specCol, restS, ltE, toldF, nrm, minP, maxP, srtP, srtS, srtL, insL, ltS, symmF, uniTouch, symOverlap, subComposite, q4]
  · intro a d b f0 f1 f2 hr o1 o2 o3 o4
    simp [hr, o1, o2, o3, o4, f0.l, f0.r, f0.n, f0.m, f1.l, f1.r, f1.n, f1.m, f2.l, f2.r, f2.n, f2.m, ltP_irr, gtP_eq, leP_eq, relO, specCol, restS, ltE, toldF, nrm, minP, maxP, srtP, srtS, srtL, insL, ltS, symmF, uniTouch, symOverlap, subComposite, q4]
  · intro a c b f0 f1 f2 hr o1 o2 o3 o4
    simp [hr, o1, o2, o3, o4, f0.l, f0.r, f0.n, f0.m, f1.l, f1.r, f1.n, f1.m, f2.l, f2.r, f2.n, f2.m, ltP_irr, gtP_eq, leP_eq, relO, specCol, restS, ltE, toldF, nrm, minP, maxP, srtP, srtS, srtL, insL, ltS, symmF, uniTouch, symOverlap, subComposite, q4]
  · intro a c b d f0 f1 f2 f3 f4 f5 hr o1 o2 o3 o4
    simp [hr, o1, o2, o3, o4, f0.l, f0.r, f0.n, f0.m, f1.l, f1.r, f1.n, f1.m, f2.l, f2.r, f2.n, f2.m, f3.l, f3.r, f3.n, f3.m, f4.l, f4.r, f4.n, f4.m, f5.l, f5.r, f5.n, f5.m, ltP_irr, gtP_eq, leP_eq, relO, specCol, restS, ltE, toldF, nrm, minP, maxP, srtP, srtS, srtL, insL, ltS, symmF, uniTouch, symOverlap, subComposite, q4]
  · intro a c d b f0 f1 f2 f3 f4 f5 hr o1 o2 o3 o4
    simp [hr, o1, o2, o3, o4, f0.l, f0.r, f0.n, f0.m, f1.l, f1.r, f1.n, f1.m, f2.l, f2.r, f2.n, f2.m, f3.l, f3.r, f3.n, f3.m, f4.l, f4.r, f4.n, f4.m, f5.l, f5.r, f5.n, f5.m, ltP_irr, gtP_eq, leP_eq, relO, specCol, restS, ltE, toldF, nrm, minP, maxP, srtP, srtS, srtL, insL, ltS, symmF, uniTouch, symOverlap, subComposite, q4]
  · intro c a b f0 f1 f2 hr o1 o2 o3 o4
    simp [hr, o1, o2, o3, o4, f0.l, f0.r, f0.n, f0.m, f1.l, f1.r, f1.n, f1.m, f2.l, f2.r, f2.n, f2.m, ltP_irr, gtP_eq, leP_eq, relO, specCol, restS, ltE, toldF, nrm, minP, maxP, srtP, srtS, srtL, insL, ltS, symmF, uniTouch, symOverlap, subComposite, q4]
  · intro c a b f0 f1 f2 hr o1 o2 o3 o4
    simp [hr, o1, o2, o3, o4, f0.l, f0.r, f0.n, f0.m, f1.l, f1.r, f1.n, f1.m, f2.l, f2.r, f2.n, f2.m, ltP_irr, gtP_eq, leP_eq, relO, specCol, restS, ltE, toldF, nrm, minP, maxP, srtP, srtS, srtL, insL, ltS, symmF, uniTouch, symOverlap, subComposite, q4]
  · intro c a b d f0 f1 f2 f3 f4 f5 hr o1 o2 o3 o4
    simp [hr, o1, o2, o3, o4, f0.l, f0.r, f0.n, f0.m, f1.l, f1.r, f1.n, f1.m, f2.l, f2.r, f2.n, f2.m, f3.l, f3.r, f3.n, f3.m, f4.l, f4.r, f4.n, f4.m, f5.l, f5.r, f5.n, f5.m, ltP_irr, gtP_eq, leP_eq, relO, specCol, restS, ltE, toldF, nrm, minP, maxP, srtP, srtS, srtL, insL, ltS, symmF, uniTouch, symOverlap, subComposite, q4]
  · intro c a d b f0 f1 f2 f3 f4 f5 hr o1 o2 o3 o4
    simp [hr, o1, o2, o3, o4, f0.l, f0.r, f0.n, f0.m, f1.l, f1.r, f1.n, f1.m, f2.l, f2.r, f2.n, f2.m, f3.l, f3.r, f3.n, f3.m, f4.l, f4.r, f4.n, f4.m, f5.l, f5.r, f5.n, f5.m, ltP_irr, gtP_eq, leP_eq, relO, specCol, restS, ltE, toldF, nrm, minP, maxP, srtP, srtS, srtL, insL, ltS, symmF, uniTouch, symOverlap, subComposite, q4]
  · intro c d a b f0 f1 f2 f3 f4 f5 hr o1 o2 o3 o4
    simp [hr, o1, o2, o3, o4, f0.l, f0.r, f0.n, f0.m, f1.l, f1.r, f1.n, f1.m, f2.l, f2.r, f2.n, f2.m, f3.l, f3.r, f3.n, f3.m, f4.l, f4.r, f4.n, f4.m, f5.l, f5.r, f5.n, f5.m, ltP_irr, gtP_eq, leP_eq, relO, specCol, restS, ltE, toldF, nrm, minP, maxP, srtP, srtS, srtL, insL, ltS, symmF, uniTouch, symOverlap, subComposite, q4]
end
section
set_option maxRecDepth 100000
set_option maxHeartbeats 1000000
set_option linter.unusedSimpArgs false
theorem minP_comm (p q : Pt) : minP p q = minP q p := by
  rcases triL p q with h | h | h
  · simp [minP, h.l, h.r]
  · rw [h]
  · simp [minP, h.l, h.r]
theorem maxP_comm (p q : Pt) : maxP p q = maxP q p := by
  rcases triL p q with h | h | h
  · simp [maxP, gtP_eq, h.l, h.r]
  · rw [h]
  · simp [maxP, gtP_eq, h.l, h.r]
structure Tot {α : Type} (lt : α → α → Bool) : Prop where
  tri : ∀ x y, (lt x y = true ∧ lt y x = false) ∨ x = y ∨ (lt y x = true ∧ lt x y = false)
  tr : ∀ x y z, lt x y = true → lt y z = true → lt x z = true
theorem totP : Tot ltP := ⟨fun x y => by
  rcases triL x y with h | h | h
  · exact .inl ⟨h.l, h.r⟩
  · exact .inr (.inl h)
  · exact .inr (.inr ⟨h.l, h.r⟩), fun _ _ _ h k => lt_trans h k⟩
theorem ltS_iff {s t : Sg} : ltS s t = true ↔ ltP s.1 t.1 = true ∨ (s.1 = t.1 ∧ ltP s.2 t.2 = true) := by
  unfold ltS
  by_cases h : s.1 = t.1
  · by_cases h2 : s.2 = t.2
    · simp [h, h2, ltP_irr]
    · simp [h, h2, ltP_irr]
  · simp [h]
theorem ltS_neg {s t : Sg} : ltS s t = false ↔ ¬ ltS s t = true := by cases ltS s t <;> simp
theorem totS : Tot ltS := by
  refine ⟨fun x y => ?_, fun x y z h k => ?_⟩
  · rw [ltS_neg, ltS_neg, ltS_iff, ltS_iff]
    rcases triL x.1 y.1 with h | h | h
    · left; simp [h.l, h.r, h.m]
    · rcases triL x.2 y.2 with k | k | k
      · left; simp [h, k.l, k.r, ltP_irr]
      · right; left; exact Prod.ext h k
      · right; right; simp [h, k.l, k.r, ltP_irr]
    · right; right; simp [h.l, h.r, h.m]
  · rw [ltS_iff] at *
    rcases h with h | ⟨h, h'⟩ <;> rcases k with k | ⟨k, k'⟩
    · exact .inl (lt_trans h k)
    · exact .inl (k ▸ h)
    · exact .inl (h ▸ k)
    · exact .inr ⟨h.trans k, lt_trans h' k'⟩
theorem insL_comm {α : Type} {lt : α → α → Bool} (O : Tot lt) (x y : α) : ∀ l, insL lt x (insL lt y l) = insL lt y (insL lt x l)
  | [] => by
    rcases O.tri x y with h | h | h
    · simp [insL, h.1, h.2]
    · rw [h]
    · simp [insL, h.1, h.2]
  | z :: r => by
    rcases O.tri x y with h | h | h
    · by_cases e1 : lt y z = true
      · have e2 : lt x z = true := O.tr _ _ _ h.1 e1
        simp [insL, e1, e2, h.1, h.2]
      · by_cases e2 : lt x z = true
        · simp [insL, e1, e2, h.1, h.2]
        · simp [insL, e1, e2, insL_comm O x y r]
    · rw [h]
    · by_cases e1 : lt x z = true
      · have e2 : lt y z = true := O.tr _ _ _ h.1 e1
        simp [insL, e1, e2, h.1, h.2]
      · by_cases e2 : lt y z = true
        · simp [insL, e1, e2, h.1, h.2]
        · simp [insL, e1, e2, insL_comm O x y r]
theorem rel_s1 (a b c d : Pt) : rel b a c d = rel a b c d := by unfold rel; rw [minP_comm b a, maxP_comm b a]
theorem rel_s2 (a b c d : Pt) : rel a b d c = rel a b c d := by unfold rel; rw [minP_comm d c, maxP_comm d c]
theorem srt_s1 (a b c d : Pt) : srtP [b, a, c, d] = srtP [a, b, c, d] := by
  show insL ltP d (insL ltP c (insL ltP a (insL ltP b []))) = insL ltP d (insL ltP c (insL ltP b (insL ltP a [])))
  rw [insL_comm totP a b]
theorem srt_s2 (a b c d : Pt) : srtP [a, b, d, c] = srtP [a, b, c, d] := by
  show insL ltP c (insL ltP d (insL ltP b (insL ltP a []))) = insL ltP d (insL ltP c (insL ltP b (insL ltP a [])))
  rw [insL_comm totP c d]
theorem srt_len (a b c d : Pt) : ∃ p q r s, srtP [a, b, c, d] = [p, q, r, s] := by
  have h : ∀ (x : Pt) l, (insL ltP x l).length = l.length + 1 := by
    intro x l
    induction l with
    | nil => rfl
    | cons y r ih => unfold insL; split <;> simp [ih]
  have : (srtP [a, b, c, d]).length = 4 := by
    show (insL ltP d (insL ltP c (insL ltP b (insL ltP a [])))).length = 4
    rw [h, h, h, h]; rfl
  match hs : srtP [a, b, c, d], this with
  | [p, q, r, s], _ => exact ⟨p, q, r, s, rfl⟩
theorem q4_s1 (a b c d : Pt) : q4 b a c d = q4 a b c d := by
  obtain ⟨p, q, r, s, e⟩ := srt_len a b c d
  unfold q4; rw [srt_s1, e]
theorem q4_s2 (a b c d : Pt) : q4 a b d c = q4 a b c d := by
  obtain ⟨p, q, r, s, e⟩ := srt_len a b c d
  unfold q4; rw [srt_s2, e]
theorem nrm_s (a b : Pt) : nrm (b, a) = nrm (a, b) := by unfold nrm; rw [minP_comm b a, maxP_comm b a]
end
section
set_option maxRecDepth 100000
set_option maxHeartbeats 1000000
set_option linter.unusedSimpArgs false
section
variable {a b c d : Pt}
theorem min4_s1 : minP (minP (minP b a) c) d = minP (minP (minP a b) c) d := by rw [minP_comm b a]
theorem max4_s1 : maxP (maxP (maxP b a) c) d = maxP (maxP (maxP a b) c) d := by rw [maxP_comm b a]
theorem minP_rc (x p q : Pt) : minP (minP x p) q = minP (minP x q) p := by
  rcases triL x p with h | h | h <;> rcases triL x q with k | k | k <;> rcases triL p q with j | j | j <;>
    (try subst h) <;> (try subst k) <;> (try subst j) <;> simp [minP, ltP_irr, *, Lt.l, Lt.r] <;>
    first
      | (simp [h.l, h.r, k.l, k.r, j.l, j.r]; done)
      | (simp [h.l, h.r, k.l, k.r]; done)
      | (simp [h.l, h.r, j.l, j.r]; done)
      | (simp [k.l, k.r, j.l, j.r]; done)
      | (exfalso; have e := h.l; rw [j.r] at e; cases e; done)
      | (exfalso; have e := k.l; rw [j.r] at e; cases e; done)
      | (exfalso; have e := (h.trans j).l; rw [k.r] at e; cases e; done)
      | (exfalso; have e := (h.trans k).l; rw [j.r] at e; cases e; done)
theorem uniTouch_s1 : toldF (uniTouch b a c d) = toldF (uniTouch a b c d) := by
  have e : ((b ≠ c ∨ orient b a d ≠ .col) ∧ (b ≠ d ∨ orient b a c ≠ .col) ∧ (a ≠ c ∨ orient a b d ≠ .col) ∧ (a ≠ d ∨ orient a b c ≠ .col)) ↔
      ((a ≠ c ∨ orient a b d ≠ .col) ∧ (a ≠ d ∨ orient a b c ≠ .col) ∧ (b ≠ c ∨ orient b a d ≠ .col) ∧ (b ≠ d ∨ orient b a c ≠ .col)) :=
    ⟨fun ⟨h1, h2, h3, h4⟩ => ⟨h3, h4, h1, h2⟩, fun ⟨h1, h2, h3, h4⟩ => ⟨h3, h4, h1, h2⟩⟩
  unfold uniTouch
  by_cases h : (a ≠ c ∨ orient a b d ≠ .col) ∧ (a ≠ d ∨ orient a b c ≠ .col) ∧ (b ≠ c ∨ orient b a d ≠ .col) ∧ (b ≠ d ∨ orient b a c ≠ .col)
  · rw [if_pos h, if_pos (e.mpr h)]
    show ([], srtS [nrm (b, a), nrm (c, d)]) = ([], srtS [nrm (a, b), nrm (c, d)])
    rw [nrm_s]
  · rw [if_neg h, if_neg (fun x => h (e.mp x)), min4_s1, max4_s1]
theorem uniCross_s1 (hi : isx b a c d = isx a b c d) : toldF (uniCross b a c d) = toldF (uniCross a b c d) := by
  unfold uniCross
  rw [hi]
  show ([], insL ltS _ (insL ltS (nrm (isx a b c d, a)) (insL ltS _ (insL ltS (nrm (b, isx a b c d)) [])))) = ([], insL ltS _ (insL ltS (nrm (isx a b c d, b)) (insL ltS _ (insL ltS (nrm (a, isx a b c d)) []))))
  rw [nrm_s a, nrm_s (isx a b c d) b]
  rw [insL_comm totS (nrm (a, isx a b c d)), insL_comm totS (nrm (a, isx a b c d)), insL_comm totS (nrm (isx a b c d, b)) (nrm (c, isx a b c d))]
theorem min4_s2 : minP (minP (minP a b) d) c = minP (minP (minP a b) c) d := minP_rc _ _ _
theorem uniTouch_s2 (hm : maxP (maxP (maxP a b) d) c = maxP (maxP (maxP a b) c) d) : toldF (uniTouch a b d c) = toldF (uniTouch a b c d) := by
  have e : ((a ≠ d ∨ orient a b c ≠ .col) ∧ (a ≠ c ∨ orient a b d ≠ .col) ∧ (b ≠ d ∨ orient b a c ≠ .col) ∧ (b ≠ c ∨ orient b a d ≠ .col)) ↔
      ((a ≠ c ∨ orient a b d ≠ .col) ∧ (a ≠ d ∨ orient a b c ≠ .col) ∧ (b ≠ c ∨ orient b a d ≠ .col) ∧ (b ≠ d ∨ orient b a c ≠ .col)) :=
    ⟨fun ⟨h1, h2, h3, h4⟩ => ⟨h2, h1, h4, h3⟩, fun ⟨h1, h2, h3, h4⟩ => ⟨h2, h1, h4, h3⟩⟩
  unfold uniTouch
  by_cases h : (a ≠ c ∨ orient a b d ≠ .col) ∧ (a ≠ d ∨ orient a b c ≠ .col) ∧ (b ≠ c ∨ orient b a d ≠ .col) ∧ (b ≠ d ∨ orient b a c ≠ .col)
  · rw [if_pos h, if_pos (e.mpr h)]
    show ([], srtS [nrm (a, b), nrm (d, c)]) = ([], srtS [nrm (a, b), nrm (c, d)])
    rw [nrm_s c d]
  · rw [if_neg h, if_neg (fun x => h (e.mp x)), min4_s2, hm]
theorem uniCross_s2 (hi : isx a b d c = isx a b c d) : toldF (uniCross a b d c) = toldF (uniCross a b c d) := by
  unfold uniCross
  rw [hi]
  show ([], insL ltS (nrm (isx a b c d, c)) (insL ltS (nrm (isx a b c d, b)) (insL ltS (nrm (d, isx a b c d)) _))) = ([], insL ltS (nrm (isx a b c d, d)) (insL ltS (nrm (isx a b c d, b)) (insL ltS (nrm (c, isx a b c d)) _)))
  rw [nrm_s c, nrm_s (isx a b c d) d]
  rw [insL_comm totS (nrm (isx a b c d, b)) (nrm (isx a b c d, d)), insL_comm totS (nrm (c, isx a b c d)) (nrm (isx a b c d, d)), insL_comm totS (nrm (c, isx a b c d)) (nrm (isx a b c d, b))]
end
end
section
set_option maxRecDepth 100000
set_option maxHeartbeats 1000000
set_option linter.unusedSimpArgs false
section
variable {a b c d : Pt}
theorem maxP_rc (x p q : Pt) : maxP (maxP x p) q = maxP (maxP x q) p := by
  rcases triL x p with h | h | h <;> rcases triL x q with k | k | k <;> rcases triL p q with j | j | j <;>
    (try subst h) <;> (try subst k) <;> (try subst j) <;> simp [maxP, gtP_eq, ltP_irr, *, Lt.l, Lt.r] <;>
    first
      | (simp [h.l, h.r, k.l, k.r, j.l, j.r]; done)
      | (simp [h.l, h.r, k.l, k.r]; done)
      | (simp [h.l, h.r, j.l, j.r]; done)
      | (simp [k.l, k.r, j.l, j.r]; done)
      | (exfalso; have e := h.l; rw [j.r] at e; cases e; done)
      | (exfalso; have e := k.l; rw [j.r] at e; cases e; done)
      | (exfalso; have e := (h.trans j).l; rw [k.r] at e; cases e; done)
      | (exfalso; have e := (h.trans k).l; rw [j.r] at e; cases e; done)
theorem subO_s1 : subOverlap b a c d = subOverlap a b c d := by
  unfold subOverlap; rw [q4_s1]; simp only [or_comm]
theorem subO_s2 : subOverlap a b d c = subOverlap a b c d := by unfold subOverlap; rw [q4_s2]
theorem subC_s1 : subComposite b a c d = subComposite a b c d := by unfold subComposite; rw [q4_s1]
theorem subC_s2 : subComposite a b d c = subComposite a b c d := by
  unfold subComposite; rw [q4_s2]
  have e : ∀ x : Pt, (x = d ∨ x = c) = (x = c ∨ x = d) := fun x => propext or_comm
  simp only [e]
theorem uniO_s1 : uniOverlap b a c d = uniOverlap a b c d := by unfold uniOverlap; rw [q4_s1]
theorem uniO_s2 : uniOverlap a b d c = uniOverlap a b c d := by unfold uniOverlap; rw [q4_s2]
theorem symO_s1 : symOverlap b a c d = symOverlap a b c d := by unfold symOverlap; rw [q4_s1]
theorem symO_s2 : symOverlap a b d c = symOverlap a b c d := by unfold symOverlap; rw [q4_s2]
theorem told_seg_s (p q : Pt) : toldF (.seg (q, p)) = toldF (.seg (p, q)) := by show ([], [nrm (q, p)]) = ([], [nrm (p, q)]); rw [nrm_s p q]
theorem told_two_s1 : toldF (.mseg [(b, a), (c, d)]) = toldF (.mseg [(a, b), (c, d)]) := by
  show ([], srtS [nrm (b, a), nrm (c, d)]) = ([], srtS [nrm (a, b), nrm (c, d)]); rw [nrm_s a b]
theorem told_two_s2 : toldF (.mseg [(a, b), (d, c)]) = toldF (.mseg [(a, b), (c, d)]) := by
  show ([], srtS [nrm (a, b), nrm (d, c)]) = ([], srtS [nrm (a, b), nrm (c, d)]); rw [nrm_s c d]
theorem int_s1 (hi : rel a b c d = .touch ∨ rel a b c d = .cross → isx b a c d = isx a b c d) : toldF (intersectF b a c d) = toldF (intersectF a b c d) := by
  unfold intersectF; rw [rel_s1, q4_s1]
  cases hr : rel a b c d <;> dsimp only
  · rw [hi (.inl hr)]
  · rw [hi (.inr hr)]
  · exact told_seg_s _ _
  · exact told_seg_s _ _
theorem int_s2 (hi : rel a b c d = .touch ∨ rel a b c d = .cross → isx a b d c = isx a b c d) : toldF (intersectF a b d c) = toldF (intersectF a b c d) := by
  unfold intersectF; rw [rel_s2, q4_s2]
  cases hr : rel a b c d <;> dsimp only
  · rw [hi (.inl hr)]
  · rw [hi (.inr hr)]
  · exact told_seg_s _ _
theorem sub_s1 : toldF (subtractF b a c d) = toldF (subtractF a b c d) := by
  unfold subtractF; rw [rel_s1, subO_s1, subC_s1]
  cases hr : rel a b c d <;> dsimp only <;> exact told_seg_s _ _
theorem sub_s2 : toldF (subtractF a b d c) = toldF (subtractF a b c d) := by
  unfold subtractF; rw [rel_s2, subO_s2, subC_s2]
theorem uni_s1 (hi : rel a b c d = .touch ∨ rel a b c d = .cross → isx b a c d = isx a b c d) : toldF (uniteF b a c d) = toldF (uniteF a b c d) := by
  unfold uniteF; rw [rel_s1, uniO_s1]
  cases hr : rel a b c d <;> dsimp only
  · exact told_two_s1
  · exact uniTouch_s1
  · exact uniCross_s1 (hi (.inr hr))
  · exact told_seg_s _ _
  · exact told_seg_s _ _
theorem uni_s2 (hi : rel a b c d = .touch ∨ rel a b c d = .cross → isx a b d c = isx a b c d) : toldF (uniteF a b d c) = toldF (uniteF a b c d) := by
  unfold uniteF; rw [rel_s2, uniO_s2]
  cases hr : rel a b c d <;> dsimp only
  · exact told_two_s2
  · exact uniTouch_s2 (maxP_rc _ _ _)
  · exact uniCross_s2 (hi (.inr hr))
  · exact told_seg_s _ _
theorem sym_s1 (hi : rel a b c d = .touch ∨ rel a b c d = .cross → isx b a c d = isx a b c d) : toldF (symmF b a c d) = toldF (symmF a b c d) := by
  unfold symmF; rw [rel_s1, symO_s1]
  cases hr : rel a b c d <;> dsimp only
  · exact told_two_s1
  · exact uniTouch_s1
  · exact uniCross_s1 (hi (.inr hr))
  · rw [subC_s1]
  · rw [subC_s2]
theorem sym_s2 (hi : rel a b c d = .touch ∨ rel a b c d = .cross → isx a b d c = isx a b c d) : toldF (symmF a b d c) = toldF (symmF a b c d) := by
  unfold symmF; rw [rel_s2, symO_s2]
  cases hr : rel a b c d <;> dsimp only
  · exact told_two_s2
  · exact uniTouch_s2 (maxP_rc _ _ _)
  · exact uniCross_s2 (hi (.inr hr))
  · rw [subC_s2]
  · rw [subC_s1]
end
end
section
set_option maxRecDepth 100000
set_option maxHeartbeats 2000000
set_option linter.unusedSimpArgs false
section
variable {a b c d : Pt}
theorem co1 : crossO c d a = far a b c d := by unfold crossO far; grind
theorem co2 : crossO c d b = far a b c d - cross a b c d := by unfold crossO far cross; grind
theorem co3 : crossO a b c = -near a b c d := by unfold crossO near; grind
theorem co4 : crossO a b d = cross a b c d - near a b c d := by unfold crossO near cross; grind
theorem co5 : crossO b a c = near a b c d := by unfold crossO near; grind
theorem co6 : crossO b a d = near a b c d - cross a b c d := by unfold crossO near cross; grind
theorem idx1 : (c.1 - a.1) * cross a b c d = (b.1 - a.1) * far a b c d - (d.1 - c.1) * near a b c d := by unfold near cross far; grind
theorem idx2 : (c.2 - a.2) * cross a b c d = (b.2 - a.2) * far a b c d - (d.2 - c.2) * near a b c d := by unfold near cross far; grind
theorem ne_xy (h : a ≠ b) : b.1 - a.1 ≠ 0 ∨ b.2 - a.2 ≠ 0 := by
  by_cases h1 : b.1 - a.1 = 0
  · by_cases h2 : b.2 - a.2 = 0
    · exact absurd (pt_ext.mpr ⟨by omega, by omega⟩) h
    · exact .inr h2
  · exact .inl h1
theorem far_zero (h : a ≠ b) (h0 : cross a b c d = 0) (h1 : near a b c d = 0) : far a b c d = 0 := by
  have e1 := @idx1 a b c d
  have e2 := @idx2 a b c d
  rw [h0, h1] at e1 e2
  simp only [Int.mul_zero, Int.sub_zero] at e1 e2
  rcases ne_xy h with k | k
  · rcases Int.mul_eq_zero.mp e1.symm with q | q
    · exact absurd q k
    · exact q
  · rcases Int.mul_eq_zero.mp e2.symm with q | q
    · exact absurd q k
    · exact q
theorem minL {p q : Pt} (h : Lt p q) : minP p q = p := by simp [minP, h.r]
theorem maxL {p q : Pt} (h : Lt p q) : maxP p q = q := by simp [maxP, gtP_eq, h.l]
theorem ori_zero {v f s : Pt} (h : crossO v f s = 0) : orient v f s = .col := by simp [orient, h]
theorem col_rel (hab : Lt a b) (hcd : Lt c d) (h0 : cross a b c d = 0) (h1 : near a b c d = 0) : rel a b c d = relO a b c d := by
  have hf := far_zero hab.n h0 h1
  have o1 : orient c d a = .col := ori_zero (by rw [@co1 a b c d]; exact hf)
  have o2 : orient c d b = .col := ori_zero (by rw [@co2 a b c d, hf, h0]; rfl)
  have o3 : orient a b c = .col := ori_zero (by rw [@co3 a b c d, h1]; rfl)
  have o4 : orient a b d = .col := ori_zero (by rw [@co4 a b c d, h1, h0]; rfl)
  unfold rel relC relO
  rw [minL hab, maxL hab, minL hcd, maxL hcd, o1, o2, o3, o4]
  simp
abbrev inR (C F N : Int) : Prop := (0 ≤ F ∧ F ≤ C ∧ 0 ≤ N ∧ N ≤ C) ∨ (C ≤ F ∧ F ≤ 0 ∧ C ≤ N ∧ N ≤ 0)
abbrev edge (C F N : Int) : Prop := F = 0 ∨ F = C ∨ N = 0 ∨ N = C
def sg (i : Int) : Ori := if i > 0 then .ccw else if i < 0 then .cw else .col
theorem sg_tri (i : Int) : (0 < i ∧ sg i = .ccw) ∨ (i = 0 ∧ sg i = .col) ∨ (i < 0 ∧ sg i = .cw) := by
  unfold sg
  by_cases h : i > 0
  · left; simp [h]
  · by_cases h2 : i < 0
    · right; right; simp [h, h2]
    · right; left; simp [h, h2]; omega
theorem ori_sg (v f s : Pt) : orient v f s = sg (crossO v f s) := rfl
abbrev btw (C F : Int) : Prop := (0 ≤ F ∧ F ≤ C) ∨ (C ≤ F ∧ F ≤ 0)
theorem sg_pos {i : Int} (h : 0 < i) : sg i = .ccw := by simp [sg, h]
theorem sg_neg' {i : Int} (h : i < 0) : sg i = .cw := by unfold sg; rw [if_neg (Int.not_lt.mpr (Int.le_of_lt h)), if_pos h]
theorem sg_col {i : Int} : sg i = .col ↔ i = 0 := by
  rcases sg_tri i with ⟨h, e⟩ | ⟨h, e⟩ | ⟨h, e⟩ <;> rw [e]
  · exact ⟨(fun k => nomatch k), fun k => absurd (k ▸ h) (Int.lt_irrefl 0)⟩
  · exact ⟨fun _ => h, fun _ => rfl⟩
  · exact ⟨(fun k => nomatch k), fun k => absurd (k ▸ h) (Int.lt_irrefl 0)⟩
theorem sg_same {i j : Int} : sg i = sg j ↔ ((0 < i ∧ 0 < j) ∨ (i = 0 ∧ j = 0) ∨ (i < 0 ∧ j < 0)) := by
  rcases sg_tri i with ⟨h, e⟩ | ⟨h, e⟩ | ⟨h, e⟩ <;> rcases sg_tri j with ⟨k, f⟩ | ⟨k, f⟩ | ⟨k, f⟩ <;> rw [e, f] <;> simp only [reduceCtorEq, true_iff, false_iff] <;> omega
theorem btwF {C F : Int} (hC : C ≠ 0) : sg F = sg (F - C) ↔ ¬ btw C F := by rw [sg_same]; unfold btw; omega
def flipO : Ori → Ori
  | .cw => .ccw
  | .col => .col
  | .ccw => .cw
theorem flipO_inj {x y : Ori} : flipO x = flipO y ↔ x = y := by
  constructor
  · intro h; cases x <;> cases y <;> first | rfl | exact Ori.noConfusion h
  · intro h; rw [h]
theorem sg_flip (i : Int) : sg (-i) = flipO (sg i) := by
  rcases sg_tri i with ⟨h, e⟩ | ⟨h, e⟩ | ⟨h, e⟩ <;> rw [e]
  · exact sg_neg' (Int.neg_neg_of_pos h)
  · subst h; rfl
  · exact sg_pos (Int.neg_pos_of_neg h)
theorem btwN {C N : Int} (hC : C ≠ 0) : sg (-N) = sg (C - N) ↔ ¬ btw C N := by
  rw [← Int.neg_sub N C, sg_flip, sg_flip, flipO_inj]; exact btwF hC
theorem inR_btw {C F N : Int} (hC : C ≠ 0) : inR C F N ↔ (btw C F ∧ btw C N) := by
  constructor
  · rintro (⟨a, b, c, d⟩ | ⟨a, b, c, d⟩)
    · exact ⟨.inl ⟨a, b⟩, .inl ⟨c, d⟩⟩
    · exact ⟨.inr ⟨a, b⟩, .inr ⟨c, d⟩⟩
  · rintro ⟨a | a, b | b⟩
    · exact .inl ⟨a.1, a.2, b.1, b.2⟩
    · exact absurd (Int.le_antisymm (Int.le_trans b.1 b.2) (Int.le_trans a.1 a.2)) hC
    · exact absurd (Int.le_antisymm (Int.le_trans a.1 a.2) (Int.le_trans b.1 b.2)) hC
    · exact .inr ⟨a.1, a.2, b.1, b.2⟩
theorem edge_col {C F N : Int} : (sg F = .col ∨ sg (F - C) = .col ∨ sg (-N) = .col ∨ sg (C - N) = .col) ↔ edge C F N := by
  rw [sg_col, sg_col, sg_col, sg_col, Int.sub_eq_zero, Int.neg_eq_zero, Int.sub_eq_zero, @eq_comm _ C N]
theorem nc_core {C F N : Int} (hC : C ≠ 0) : (if sg F = sg (F - C) ∨ sg (-N) = sg (C - N) then Rel.disjoint else if sg F = .col ∨ sg (F - C) = .col ∨ sg (-N) = .col ∨ sg (C - N) = .col then .touch else .cross) =
    (if inR C F N then (if edge C F N then .touch else .cross) else .disjoint) := by
  by_cases h : inR C F N
  · have k := (inR_btw hC).mp h
    rw [if_neg (fun e => e.elim (fun e => (btwF hC).mp e k.1) (fun e => (btwN hC).mp e k.2)), if_pos h]
    by_cases e : edge C F N
    · rw [if_pos (edge_col.mpr e), if_pos e]
    · rw [if_neg (fun x => e (edge_col.mp x)), if_neg e]
  · rw [if_neg h, if_pos]
    by_cases k : btw C F
    · exact .inr ((btwN hC).mpr fun l => h ((inR_btw hC).mpr ⟨k, l⟩))
    · exact .inl ((btwF hC).mpr k)
end
end
section
set_option maxRecDepth 100000
set_option maxHeartbeats 2000000
set_option linter.unusedSimpArgs false
section
variable {a b c d : Pt}
theorem cross_same (h1 : a = c) (h2 : b = d) : cross a b c d = 0 := by subst h1; subst h2; unfold cross; grind
theorem nc_rel (hab : Lt a b) (hcd : Lt c d) (hC : cross a b c d ≠ 0) :
    rel a b c d = if inR (cross a b c d) (far a b c d) (near a b c d) then (if edge (cross a b c d) (far a b c d) (near a b c d) then .touch else .cross) else .disjoint := by
  rw [← nc_core hC]
  unfold rel relC
  rw [minL hab, maxL hab, minL hcd, maxL hcd, ori_sg, ori_sg, ori_sg, ori_sg, @co1 a b c d, @co2 a b c d, @co3 a b c d, @co4 a b c d]
  rw [if_neg (fun e => hC (cross_same e.1 e.2))]
  have hn : ¬ (sg (far a b c d) = sg (far a b c d - cross a b c d) ∧ sg (far a b c d - cross a b c d) = sg (-near a b c d) ∧ sg (-near a b c d) = sg (cross a b c d - near a b c d) ∧ sg (cross a b c d - near a b c d) = .col) := by
    rintro ⟨e1, e2, e3, e4⟩
    rw [e4] at e3; rw [e3] at e2; rw [e2] at e1
    rcases sg_tri (far a b c d) with ⟨f, k1⟩ | ⟨f, k1⟩ | ⟨f, k1⟩
    · rw [k1] at e1; cases e1
    · rcases sg_tri (far a b c d - cross a b c d) with ⟨g, k2⟩ | ⟨g, k2⟩ | ⟨g, k2⟩
      · rw [k2] at e2; cases e2
      · omega
      · rw [k2] at e2; cases e2
    · rw [k1] at e1; cases e1
  exact if_neg hn
theorem par_rel (hab : Lt a b) (hcd : Lt c d) (hC : cross a b c d = 0) (hN : near a b c d ≠ 0) : rel a b c d = .disjoint := by
  unfold rel relC
  rw [minL hab, maxL hab, minL hcd, maxL hcd, ori_sg, ori_sg, ori_sg, ori_sg, @co1 a b c d, @co2 a b c d, @co3 a b c d, @co4 a b c d, hC]
  have hs : ¬ (a = c ∧ b = d) := fun e => hN (by obtain ⟨e1, e2⟩ := e; subst e1; unfold near; grind)
  rw [if_neg hs]
  have e0 : (0 : Int) - near a b c d = -near a b c d := by omega
  rw [e0]
  have hc : sg (-near a b c d) ≠ .col := by
    rcases sg_tri (-near a b c d) with ⟨f, k1⟩ | ⟨f, k1⟩ | ⟨f, k1⟩
    · rw [k1]; decide
    · omega
    · rw [k1]; decide
  dsimp only
  rw [if_neg (fun e => hc e.2.2.2), if_pos (.inr rfl)]
/-- the crossing point, told without dividing -/
def Spt (a b c d p : Pt) : Prop := (p.1 - a.1) * cross a b c d = (b.1 - a.1) * far a b c d ∧ (p.2 - a.2) * cross a b c d = (b.2 - a.2) * far a b c d
theorem Spt.uniq {p q : Pt} (hC : cross a b c d ≠ 0) (h : Spt a b c d p) (k : Spt a b c d q) : p = q := by
  have h1 : (p.1 - q.1) * cross a b c d = 0 := by have := h.1; have := k.1; grind
  have h2 : (p.2 - q.2) * cross a b c d = 0 := by have := h.2; have := k.2; grind
  rcases Int.mul_eq_zero.mp h1 with e1 | e1
  · rcases Int.mul_eq_zero.mp h2 with e2 | e2
    · exact pt_ext.mpr ⟨by omega, by omega⟩
    · exact absurd e2 hC
  · exact absurd e1 hC
theorem Spt.two {p : Pt} (h : Spt a b c d p) (hC : cross a b c d ≠ 0) : (p.1 - c.1) * cross a b c d = (d.1 - c.1) * near a b c d ∧ (p.2 - c.2) * cross a b c d = (d.2 - c.2) * near a b c d := by
  have e1 := @idx1 a b c d
  have e2 := @idx2 a b c d
  have h1 := h.1
  have h2 := h.2
  constructor
  · grind
  · grind
theorem cross_s1 : cross b a c d = -cross a b c d := by unfold cross; grind
theorem cross_s2 : cross a b d c = -cross a b c d := by unfold cross; grind
theorem far_s1 : far b a c d = far a b c d - cross a b c d := by unfold far cross; grind
theorem far_s2 : far a b d c = -far a b c d := by unfold far; grind
theorem near_s1 : near b a c d = cross a b c d - near a b c d ∨ True := .inr trivial
theorem Spt.s1 {p : Pt} (h : Spt a b c d p) : Spt b a c d p := by
  have h1 := h.1
  have h2 := h.2
  unfold Spt
  rw [cross_s1, far_s1]
  constructor
  · grind
  · grind
theorem Spt.s2 {p : Pt} (h : Spt a b c d p) : Spt a b d c p := by
  have h1 := h.1
  have h2 := h.2
  unfold Spt
  rw [cross_s2, far_s2]
  constructor
  · grind
  · grind
end
end
section
set_option maxRecDepth 100000
set_option maxHeartbeats 2000000
set_option linter.unusedSimpArgs false
theorem fdiv_mul {n k : Int} (h : n.fmod k = 0) : n.fdiv k * k = n := by
  have := Int.mul_fdiv_add_fmod n k
  rw [h] at this
  rw [Int.mul_comm]; omega
section
variable {a b c d : Pt}
theorem isx_spt (hd : ¬ (a = c ∨ a = d) → ¬ (b = c ∨ b = d) → ((b.1 - a.1) * far a b c d).fmod (cross a b c d) = 0 ∧ ((b.2 - a.2) * far a b c d).fmod (cross a b c d) = 0) : Spt a b c d (isx a b c d) := by
  by_cases h1 : a = c ∨ a = d
  · have e : isx a b c d = a := by unfold isx; rw [if_pos h1]
    rw [e]
    have hf : far a b c d = 0 := by
      rcases h1 with h | h <;> subst h <;> unfold far <;> grind
    unfold Spt; rw [hf]; constructor <;> grind
  · by_cases h2 : b = c ∨ b = d
    · have e : isx a b c d = b := by unfold isx; rw [if_neg h1, if_pos h2]
      rw [e]
      have hf : far a b c d = cross a b c d := by
        rcases h2 with h | h <;> subst h <;> unfold far cross <;> grind
      unfold Spt; rw [hf]; exact ⟨rfl, rfl⟩
    · obtain ⟨k1, k2⟩ := hd h1 h2
      have e : isx a b c d = (a.1 + ((b.1 - a.1) * far a b c d).fdiv (cross a b c d), a.2 + ((b.2 - a.2) * far a b c d).fdiv (cross a b c d)) := by unfold isx; rw [if_neg h1, if_neg h2]; rfl
      rw [e]
      unfold Spt
      constructor
      · show (a.1 + _ - a.1) * _ = _
        rw [Int.add_comm, Int.add_sub_cancel]; exact fdiv_mul k1
      · show (a.2 + _ - a.2) * _ = _
        rw [Int.add_comm, Int.add_sub_cancel]; exact fdiv_mul k2
/-- the law's own spot -/
theorem spot_spt {C F : Int} (hs : (C = cross a b c d ∧ F = far a b c d) ∨ (C = -cross a b c d ∧ F = -far a b c d)) (hC : cross a b c d ≠ 0)
    (k1 : ((b.1 - a.1) * F).fmod C = 0) (k2 : ((b.2 - a.2) * F).fmod C = 0) : Spt a b c d (a.1 + ((b.1 - a.1) * F).fdiv C, a.2 + ((b.2 - a.2) * F).fdiv C) := by
  have e1 := fdiv_mul k1
  have e2 := fdiv_mul k2
  unfold Spt
  constructor
  · show (a.1 + _ - a.1) * _ = _
    rw [Int.add_comm, Int.add_sub_cancel]
    rcases hs with ⟨rfl, rfl⟩ | ⟨rfl, rfl⟩
    · exact e1
    · grind
  · show (a.2 + _ - a.2) * _ = _
    rw [Int.add_comm, Int.add_sub_cancel]
    rcases hs with ⟨rfl, rfl⟩ | ⟨rfl, rfl⟩
    · exact e2
    · grind
/-- where the spot lies: at an end or between -/
theorem spt_a {p : Pt} (hab : a ≠ b) (hC : cross a b c d ≠ 0) (h : Spt a b c d p) : p = a ↔ far a b c d = 0 := by
  obtain ⟨h1, h2⟩ := h
  constructor
  · intro e; subst e
    rcases ne_xy hab with k | k
    · have : (b.1 - p.1) * far p b c d = 0 := by rw [← h1]; grind
      exact (Int.mul_eq_zero.mp this).resolve_left k
    · have : (b.2 - p.2) * far p b c d = 0 := by rw [← h2]; grind
      exact (Int.mul_eq_zero.mp this).resolve_left k
  · intro e
    rw [e] at h1 h2
    have q1 := (Int.mul_eq_zero.mp (show (p.1 - a.1) * cross a b c d = 0 by rw [h1]; grind)).resolve_right hC
    have q2 := (Int.mul_eq_zero.mp (show (p.2 - a.2) * cross a b c d = 0 by rw [h2]; grind)).resolve_right hC
    exact pt_ext.mpr ⟨by omega, by omega⟩
theorem spt_b {p : Pt} (hab : a ≠ b) (hC : cross a b c d ≠ 0) (h : Spt a b c d p) : p = b ↔ far a b c d = cross a b c d := by
  have k := spt_a (a := b) (b := a) (fun e => hab e.symm) (by rw [cross_s1]; omega) h.s1
  rw [k, far_s1]; omega
end
end
section
set_option maxRecDepth 100000
set_option maxHeartbeats 2000000
set_option linter.unusedSimpArgs false
set_option linter.unusedVariables false
section
variable {a b c d : Pt}
theorem spt_c {p : Pt} (hcd : c ≠ d) (hC : cross a b c d ≠ 0) (h : Spt a b c d p) : p = c ↔ near a b c d = 0 := by
  obtain ⟨h1, h2⟩ := h.two hC
  constructor
  · intro e
    have q1 : p.1 - c.1 = 0 := by rw [e]; omega
    have q2 : p.2 - c.2 = 0 := by rw [e]; omega
    rw [q1] at h1; rw [q2] at h2
    rcases ne_xy hcd with k | k
    · exact (Int.mul_eq_zero.mp (show (d.1 - c.1) * near a b c d = 0 by rw [← h1]; grind)).resolve_left k
    · exact (Int.mul_eq_zero.mp (show (d.2 - c.2) * near a b c d = 0 by rw [← h2]; grind)).resolve_left k
  · intro e
    rw [e] at h1 h2
    have q1 := (Int.mul_eq_zero.mp (show (p.1 - c.1) * cross a b c d = 0 by rw [h1]; grind)).resolve_right hC
    have q2 := (Int.mul_eq_zero.mp (show (p.2 - c.2) * cross a b c d = 0 by rw [h2]; grind)).resolve_right hC
    exact pt_ext.mpr ⟨by omega, by omega⟩
theorem near_s2 : near a b d c = near a b c d - cross a b c d := by unfold near cross; grind
theorem spt_d {p : Pt} (hcd : c ≠ d) (hC : cross a b c d ≠ 0) (h : Spt a b c d p) : p = d ↔ near a b c d = cross a b c d := by
  have k := spt_c (c := d) (d := c) (fun e => hcd e.symm) (by rw [cross_s2]; omega) h.s2
  rw [k, near_s2]; omega
theorem pos_l {q C : Int} (h : 0 < q * C) (hC : 0 < C) : 0 < q := by
  rcases Int.lt_or_le 0 q with k | k
  · exact k
  · have := Int.mul_le_mul_of_nonneg_right k (Int.le_of_lt hC)
    rw [Int.zero_mul] at this; omega
theorem sgn_of {q x C F : Int} (h : q * C = x * F) (hs : (0 < F ∧ 0 < C) ∨ (F < 0 ∧ C < 0)) : (0 < x → 0 < q) ∧ (x = 0 → q = 0) := by
  rcases hs with ⟨hF, hC⟩ | ⟨hF, hC⟩
  · constructor
    · intro hx
      have : 0 < q * C := by rw [h]; exact Int.mul_pos hx hF
      exact pos_l this hC
    · intro hx
      have : q * C = 0 := by rw [h, hx]; exact Int.zero_mul _
      exact (Int.mul_eq_zero.mp this).resolve_right (by omega)
  · constructor
    · intro hx
      have h2 : q * (-C) = x * (-F) := by grind
      have : 0 < q * (-C) := by rw [h2]; exact Int.mul_pos hx (by omega)
      exact pos_l this (by omega)
    · intro hx
      have : q * C = 0 := by rw [h, hx]; exact Int.zero_mul _
      exact (Int.mul_eq_zero.mp this).resolve_right (by omega)
theorem lt_of_dir {p q : Pt} (h1 : 0 < q.1 - p.1 ∨ (q.1 - p.1 = 0 ∧ 0 < q.2 - p.2)) : Lt p q := .of (by rw [ltP_iff]; omega)
theorem dir_of_lt {p q : Pt} (h : Lt p q) : 0 < q.1 - p.1 ∨ (q.1 - p.1 = 0 ∧ 0 < q.2 - p.2) := by have := ltP_iff.mp h.l; omega
theorem lt_first {x1 x2 y1 y2 C F : Int} {p q : Pt} (e1 : (q.1 - p.1) * C = x1 * F) (e2 : (q.2 - p.2) * C = x2 * F) (hx : 0 < x1 ∨ (x1 = 0 ∧ 0 < x2)) (hs : (0 < F ∧ 0 < C) ∨ (F < 0 ∧ C < 0)) : Lt p q := by
  have s1 := sgn_of e1 hs
  have s2 := sgn_of e2 hs
  apply lt_of_dir
  rcases hx with h | ⟨h, k⟩
  · exact .inl (s1.1 h)
  · exact .inr ⟨s1.2 h, s2.1 k⟩
theorem spt_between {p : Pt} (hab : Lt a b) (hcd : Lt c d) (hC : cross a b c d ≠ 0) (h : Spt a b c d p) (hr : inR (cross a b c d) (far a b c d) (near a b c d)) (he : ¬ edge (cross a b c d) (far a b c d) (near a b c d)) :
    Lt a p ∧ Lt p b ∧ Lt c p ∧ Lt p d := by
  have t := h.two hC
  obtain ⟨h1, h2⟩ := h
  obtain ⟨t1, t2⟩ := t
  refine ⟨?_, ?_, ?_, ?_⟩
  · exact lt_first (y1 := 0) (y2 := 0) h1 h2 (dir_of_lt hab) (by omega)
  · exact lt_first (y1 := 0) (y2 := 0) (C := cross a b c d) (F := cross a b c d - far a b c d) (x1 := b.1 - a.1) (x2 := b.2 - a.2) (by grind) (by grind) (dir_of_lt hab) (by omega)
  · exact lt_first (y1 := 0) (y2 := 0) t1 t2 (dir_of_lt hcd) (by omega)
  · exact lt_first (y1 := 0) (y2 := 0) (C := cross a b c d) (F := cross a b c d - near a b c d) (x1 := d.1 - c.1) (x2 := d.2 - c.2) (by grind) (by grind) (dir_of_lt hcd) (by omega)
theorem nrmL {p q : Pt} (h : Lt p q) : nrm (p, q) = (p, q) := by unfold nrm; rw [minL h, maxL h]
theorem touch_open (hC : cross a b c d ≠ 0) : uniTouch a b c d = .mseg [(a, b), (c, d)] := by
  unfold uniTouch
  have nz : ∀ {i : Int}, i ≠ 0 → sg i ≠ .col := fun {i} h => by
    rcases sg_tri i with ⟨f, k⟩ | ⟨f, k⟩ | ⟨f, k⟩
    · rw [k]; decide
    · exact absurd f h
    · rw [k]; decide
  rw [if_pos]
  refine ⟨?_, ?_, ?_, ?_⟩
  · by_cases e : a = c
    · right; rw [ori_sg]; refine nz ?_; subst e; unfold crossO; unfold cross at hC; intro k; exact hC (by grind)
    · exact .inl e
  · by_cases e : a = d
    · right; rw [ori_sg]; refine nz ?_; subst e; unfold crossO; unfold cross at hC; intro k; exact hC (by grind)
    · exact .inl e
  · by_cases e : b = c
    · right; rw [ori_sg]; refine nz ?_; subst e; unfold crossO; unfold cross at hC; intro k; exact hC (by grind)
    · exact .inl e
  · by_cases e : b = d
    · right; rw [ori_sg]; refine nz ?_; subst e; unfold crossO; unfold cross at hC; intro k; exact hC (by grind)
    · exact .inl e
end
end
section
set_option maxRecDepth 100000
set_option maxHeartbeats 2000000
set_option linter.unusedSimpArgs false
set_option linter.unusedVariables false
def specNC (one two : Sg) (C F N : Int) (p : Pt) : Spec :=
  if inR C F N then (if edge C F N then ⟨([p], []), [one], srtS [one, two], srtS [one, two]⟩
    else ⟨([p], []), [one], srtS [(one.1, p), (p, one.2), (two.1, p), (p, two.2)], srtS [(one.1, p), (p, one.2), (two.1, p), (p, two.2)]⟩)
  else ⟨([], []), [one], srtS [one, two], srtS [one, two]⟩
/-- what the text's four answers tell is what the spec says -/
def Agree (a b c d : Pt) (S : Spec) : Prop := toldF (intersectF a b c d) = S.met ∧ toldF (subtractF a b c d) = ([], S.left) ∧ toldF (uniteF a b c d) = ([], S.joined) ∧ toldF (symmF a b c d) = ([], S.single)
section
variable {a b c d : Pt}
theorem told_one (hab : Lt a b) : toldF (.seg (a, b)) = ([], [(a, b)]) := by show ([], [nrm (a, b)]) = _; rw [nrmL hab]
theorem told_two (hab : Lt a b) (hcd : Lt c d) : toldF (.mseg [(a, b), (c, d)]) = ([], srtS [(a, b), (c, d)]) := by show ([], srtS [nrm (a, b), nrm (c, d)]) = _; rw [nrmL hab, nrmL hcd]
theorem dis_all (hab : Lt a b) (hcd : Lt c d) (hr : rel a b c d = .disjoint) : Agree a b c d ⟨([], []), [(a, b)], srtS [(a, b), (c, d)], srtS [(a, b), (c, d)]⟩ := by
  unfold Agree intersectF subtractF uniteF symmF
  rw [hr]
  exact ⟨rfl, told_one hab, told_two hab hcd, told_two hab hcd⟩
theorem cross_told {p : Pt} (ha : Lt a p) (hb : Lt p b) (hc : Lt c p) (hd : Lt p d) (hi : isx a b c d = p) : toldF (uniCross a b c d) = ([], srtS [(a, p), (p, b), (c, p), (p, d)]) := by
  unfold uniCross
  rw [hi]
  show ([], srtS [nrm (a, p), nrm (c, p), nrm (p, b), nrm (p, d)]) = _
  rw [nrmL ha, nrmL hb, nrmL hc, nrmL hd]
  show ([], insL ltS (p, d) (insL ltS (p, b) (insL ltS (c, p) (insL ltS (a, p) [])))) = ([], insL ltS (p, d) (insL ltS (c, p) (insL ltS (p, b) (insL ltS (a, p) []))))
  rw [insL_comm totS (p, b) (c, p)]
theorem nc_all {p : Pt} (hab : Lt a b) (hcd : Lt c d) (hC : cross a b c d ≠ 0) (h : Spt a b c d p) (hi : isx a b c d = p) : Agree a b c d (specNC (a, b) (c, d) (cross a b c d) (far a b c d) (near a b c d) p) := by
  have hr := nc_rel hab hcd hC
  unfold specNC
  by_cases h1 : inR (cross a b c d) (far a b c d) (near a b c d)
  · by_cases h2 : edge (cross a b c d) (far a b c d) (near a b c d)
    · rw [if_pos h1, if_pos h2] at hr ⊢
      unfold Agree intersectF subtractF uniteF symmF
      rw [hr]
      dsimp only
      rw [touch_open hC, hi]
      exact ⟨rfl, told_one hab, told_two hab hcd, told_two hab hcd⟩
    · rw [if_pos h1, if_neg h2] at hr ⊢
      obtain ⟨q1, q2, q3, q4⟩ := spt_between hab hcd hC h h1 h2
      unfold Agree intersectF subtractF uniteF symmF
      rw [hr]
      dsimp only
      refine ⟨by rw [hi]; rfl, told_one hab, cross_told q1 q2 q3 q4 hi, cross_told q1 q2 q3 q4 hi⟩
  · rw [if_neg h1] at hr ⊢
    exact dis_all hab hcd hr
theorem par_all (hab : Lt a b) (hcd : Lt c d) (hC : cross a b c d = 0) (hN : near a b c d ≠ 0) : Agree a b c d ⟨([], []), [(a, b)], srtS [(a, b), (c, d)], srtS [(a, b), (c, d)]⟩ := dis_all hab hcd (par_rel hab hcd hC hN)
theorem col_all (hab : Lt a b) (hcd : Lt c d) (hC : cross a b c d = 0) (hN : near a b c d = 0) : Agree a b c d (specCol (a, b) (c, d)) := by
  have hr := col_rel hab hcd hC hN
  have hf := far_zero hab.n hC hN
  have o3 : orient a b c = .col := ori_zero (by rw [@co3 a b c d, hN]; rfl)
  have o4 : orient a b d = .col := ori_zero (by rw [@co4 a b c d, hN, hC]; rfl)
  have o5 : orient b a c = .col := ori_zero (by rw [@co5 a b c d, hN])
  have o6 : orient b a d = .col := ori_zero (by rw [@co6 a b c d, hN, hC]; rfl)
  exact ⟨col_met hab hcd hr, col_left hab hcd hr, col_joined hab hcd hr o3 o4 o5 o6, col_single hab hcd hr o3 o4 o5 o6⟩
/-- swapping ends changes nothing that is told -/
theorem Agree.s1 {S : Spec} (h : Agree a b c d S) (hi : rel a b c d = .touch ∨ rel a b c d = .cross → isx b a c d = isx a b c d) : Agree b a c d S := by
  obtain ⟨h1, h2, h3, h4⟩ := h
  exact ⟨(int_s1 hi).trans h1, sub_s1.trans h2, (uni_s1 hi).trans h3, (sym_s1 hi).trans h4⟩
theorem Agree.s2 {S : Spec} (h : Agree a b c d S) (hi : rel a b c d = .touch ∨ rel a b c d = .cross → isx a b d c = isx a b c d) : Agree a b d c S := by
  obtain ⟨h1, h2, h3, h4⟩ := h
  exact ⟨(int_s2 hi).trans h1, sub_s2.trans h2, (uni_s2 hi).trans h3, (sym_s2 hi).trans h4⟩
end
end
section
set_option maxRecDepth 100000
set_option maxHeartbeats 2000000
set_option linter.unusedSimpArgs false
set_option linter.unusedVariables false
section
variable {a b c d : Pt}
/-- the crossing point is whole -/
def Whole (a b c d : Pt) : Prop := cross a b c d ∣ (b.1 - a.1) * far a b c d ∧ cross a b c d ∣ (b.2 - a.2) * far a b c d
theorem Whole.spt (h : Whole a b c d) : Spt a b c d (isx a b c d) := isx_spt fun _ _ => ⟨Int.fmod_eq_zero_of_dvd h.1, Int.fmod_eq_zero_of_dvd h.2⟩
theorem Whole.s1 (h : Whole a b c d) : Whole b a c d := by
  obtain ⟨⟨k, h1⟩, ⟨l, h2⟩⟩ := h
  unfold Whole
  rw [cross_s1, far_s1]
  exact ⟨⟨k - (b.1 - a.1), by grind⟩, ⟨l - (b.2 - a.2), by grind⟩⟩
theorem Whole.s2 (h : Whole a b c d) : Whole a b d c := by
  obtain ⟨⟨k, h1⟩, ⟨l, h2⟩⟩ := h
  unfold Whole
  rw [cross_s2, far_s2]
  exact ⟨⟨k, by grind⟩, ⟨l, by grind⟩⟩
theorem near_s1' : near b a c d = -near a b c d := by unfold near; grind
theorem isx_s1 (hC : cross a b c d ≠ 0) (h : Whole a b c d) : isx b a c d = isx a b c d := Spt.uniq (a := b) (b := a) (c := c) (d := d) (by rw [cross_s1]; omega) h.s1.spt h.spt.s1
theorem isx_s2 (hC : cross a b c d ≠ 0) (h : Whole a b c d) : isx a b d c = isx a b c d := Spt.uniq (a := a) (b := b) (c := d) (d := c) (by rw [cross_s2]; omega) h.s2.spt h.spt.s2
theorem specNC_eq {one two : Sg} {C F N C' F' N' : Int} {p : Pt} (h1 : inR C F N ↔ inR C' F' N') (h2 : edge C F N ↔ edge C' F' N') : specNC one two C F N p = specNC one two C' F' N' p := by
  unfold specNC
  by_cases k1 : inR C F N
  · by_cases k2 : edge C F N
    · rw [if_pos k1, if_pos k2, if_pos (h1.mp k1), if_pos (h2.mp k2)]
    · rw [if_pos k1, if_neg k2, if_pos (h1.mp k1), if_neg (fun e => k2 (h2.mpr e))]
  · rw [if_neg k1, if_neg (fun e => k1 (h1.mpr e))]
theorem inR_s1 {C F N : Int} : inR C F N ↔ inR (-C) (F - C) (-N) := by
  have f1 : 0 ≤ F ↔ -C ≤ F - C := by omega
  have f2 : F ≤ C ↔ F - C ≤ 0 := by omega
  have f3 : C ≤ F ↔ 0 ≤ F - C := by omega
  have f4 : F ≤ 0 ↔ F - C ≤ -C := by omega
  have n1 : 0 ≤ N ↔ -N ≤ 0 := by omega
  have n2 : N ≤ C ↔ -C ≤ -N := by omega
  have n3 : C ≤ N ↔ -N ≤ -C := by omega
  have n4 : N ≤ 0 ↔ 0 ≤ -N := by omega
  constructor
  · rintro (⟨x, y, z, u⟩ | ⟨x, y, z, u⟩)
    · exact .inr ⟨f1.mp x, f2.mp y, n2.mp u, n1.mp z⟩
    · exact .inl ⟨f3.mp x, f4.mp y, n4.mp u, n3.mp z⟩
  · rintro (⟨x, y, z, u⟩ | ⟨x, y, z, u⟩)
    · exact .inr ⟨f3.mpr x, f4.mpr y, n3.mpr u, n4.mpr z⟩
    · exact .inl ⟨f1.mpr x, f2.mpr y, n1.mpr u, n2.mpr z⟩
theorem inR_sw {C F N : Int} (h : inR C F N) : inR C N F := by
  rcases h with ⟨x, y, z, u⟩ | ⟨x, y, z, u⟩
  · exact .inl ⟨z, u, x, y⟩
  · exact .inr ⟨z, u, x, y⟩
theorem inR_swap {C F N : Int} : inR C F N ↔ inR C N F := ⟨inR_sw, inR_sw⟩
theorem edge_s1 {C F N : Int} : edge C F N ↔ edge (-C) (F - C) (-N) := by
  have f1 : F = 0 ↔ F - C = -C := by omega
  have f2 : F = C ↔ F - C = 0 := by omega
  have n1 : N = 0 ↔ -N = 0 := by omega
  have n2 : N = C ↔ -N = -C := by omega
  constructor
  · rintro (h | h | h | h)
    · exact .inr (.inl (f1.mp h))
    · exact .inl (f2.mp h)
    · exact .inr (.inr (.inl (n1.mp h)))
    · exact .inr (.inr (.inr (n2.mp h)))
  · rintro (h | h | h | h)
    · exact .inr (.inl (f2.mpr h))
    · exact .inl (f1.mpr h)
    · exact .inr (.inr (.inl (n1.mpr h)))
    · exact .inr (.inr (.inr (n2.mpr h)))
theorem edge_sw {C F N : Int} (h : edge C F N) : edge C N F := by
  rcases h with h | h | h | h
  · exact .inr (.inr (.inl h))
  · exact .inr (.inr (.inr h))
  · exact .inl h
  · exact .inr (.inl h)
theorem edge_swap {C F N : Int} : edge C F N ↔ edge C N F := ⟨edge_sw, edge_sw⟩
theorem nc_gen1 (hab : a ≠ b) (hcd : Lt c d) (hC : cross a b c d ≠ 0) (h : Whole a b c d) : Agree a b c d (specNC (minP a b, maxP a b) (c, d) (cross a b c d) (far a b c d) (near a b c d) (isx a b c d)) := by
  rcases triL a b with k | k | k
  · rw [minL k, maxL k]; exact nc_all k hcd hC h.spt rfl
  · exact absurd k hab
  · have e := (nc_all k hcd (by rw [cross_s1]; omega) h.s1.spt rfl)
    have e2 := e.s1 (fun _ => (isx_s1 hC h).symm)
    rw [minP_comm, maxP_comm, minL k, maxL k, specNC_eq (C' := cross b a c d) (F' := far b a c d) (N' := near b a c d), ← isx_s1 hC h]
    · exact e2
    · rw [cross_s1, far_s1, near_s1']; exact inR_s1.symm
    · rw [cross_s1, far_s1, near_s1']; exact edge_s1.symm
theorem nc_gen (hab : a ≠ b) (hcd : c ≠ d) (hC : cross a b c d ≠ 0) (h : Whole a b c d) : Agree a b c d (specNC (minP a b, maxP a b) (minP c d, maxP c d) (cross a b c d) (far a b c d) (near a b c d) (isx a b c d)) := by
  rcases triL c d with k | k | k
  · rw [minL k, maxL k]; exact nc_gen1 hab k hC h
  · exact absurd k hcd
  · have e := nc_gen1 hab k (by rw [cross_s2]; omega) h.s2
    have e2 := e.s2 (fun _ => (isx_s2 hC h).symm)
    rw [minP_comm c d, maxP_comm c d, minL k, maxL k, specNC_eq (C' := cross a b d c) (F' := far a b d c) (N' := near a b d c), ← isx_s2 hC h]
    · exact e2
    · rw [cross_s2, far_s2, near_s2]; exact (inR_swap.trans (inR_s1.trans inR_swap)).symm
    · rw [cross_s2, far_s2, near_s2]; exact (edge_swap.trans (edge_s1.trans edge_swap)).symm
theorem par_gen (hab : a ≠ b) (hcd : c ≠ d) (hr : rel a b c d = .disjoint) : Agree a b c d ⟨([], []), [(minP a b, maxP a b)], srtS [(minP a b, maxP a b), (minP c d, maxP c d)], srtS [(minP a b, maxP a b), (minP c d, maxP c d)]⟩ := by
  unfold Agree intersectF subtractF uniteF symmF
  rw [hr]
  exact ⟨rfl, rfl, rfl, rfl⟩
end
end
section
set_option maxRecDepth 100000
set_option maxHeartbeats 2000000
set_option linter.unusedSimpArgs false
set_option linter.unusedVariables false
section
variable {a b c d : Pt}
theorem par_rel_gen (hab : a ≠ b) (hcd : c ≠ d) (hC : cross a b c d = 0) (hN : near a b c d ≠ 0) : rel a b c d = .disjoint := by
  have go : ∀ {a b : Pt}, a ≠ b → Lt c d → cross a b c d = 0 → near a b c d ≠ 0 → rel a b c d = .disjoint := fun {a b} hab k hC hN => by
    rcases triL a b with j | j | j
    · exact par_rel j k hC hN
    · exact absurd j hab
    · rw [← rel_s1]; exact par_rel j k (by rw [cross_s1]; omega) (by rw [near_s1']; omega)
  rcases triL c d with k | k | k
  · exact go hab k hC hN
  · exact absurd k hcd
  · rw [← rel_s2]
    have go2 : ∀ {a b : Pt}, a ≠ b → cross a b d c = 0 → near a b d c ≠ 0 → rel a b d c = .disjoint := fun {a b} hab hC hN => by
      rcases triL a b with j | j | j
      · exact par_rel j k hC hN
      · exact absurd j hab
      · rw [← rel_s1]; exact par_rel j k (by rw [cross_s1]; omega) (by rw [near_s1']; omega)
    exact go2 hab (by rw [cross_s2]; omega) (by rw [near_s2]; omega)
/-- upon one line a touch shares one end -/
theorem touch_ends (h : rel a b c d = .touch) (hO : rel a b c d = relO (minP a b) (maxP a b) (minP c d) (maxP c d)) : (a = c ∨ a = d ∨ b = c ∨ b = d) := by
  rw [h] at hO
  unfold relO at hO
  have m1 : minP a b = a ∨ minP a b = b := by unfold minP; split <;> simp
  have m2 : maxP a b = a ∨ maxP a b = b := by unfold maxP; split <;> simp
  have m3 : minP c d = c ∨ minP c d = d := by unfold minP; split <;> simp
  have m4 : maxP c d = c ∨ maxP c d = d := by unfold maxP; split <;> simp
  by_cases k : maxP c d = minP a b ∨ maxP a b = minP c d
  · rcases k with k | k
    · rcases m4 with e | e <;> rcases m1 with f | f <;> rw [e, f] at k <;> simp [k]
    · rcases m2 with e | e <;> rcases m3 with f | f <;> rw [e, f] at k <;> simp [k]
  · exfalso
    rw [if_neg k] at hO
    revert hO
    repeat' split
    all_goals (intro hO; cases hO)
theorem both_ends (h : (a = c ∨ a = d) ∧ (b = c ∨ b = d)) (hab : a ≠ b) : rel a b c d = .equal := by
  have e : minP a b = minP c d ∧ maxP a b = maxP c d := by
    rcases h with ⟨h1 | h1, h2 | h2⟩
    · exact absurd (h1.trans h2.symm) hab
    · rw [h1, h2]; exact ⟨rfl, rfl⟩
    · rw [h1, h2]; exact ⟨minP_comm _ _, maxP_comm _ _⟩
    · exact absurd (h1.trans h2.symm) hab
  unfold rel relC
  rw [if_pos e]
theorem isx_t1 (h : a = c ∨ a = d ∨ b = c ∨ b = d) (hn : ¬ ((a = c ∨ a = d) ∧ (b = c ∨ b = d))) : isx b a c d = isx a b c d := by
  unfold isx
  by_cases k1 : a = c ∨ a = d
  · have k2 : ¬ (b = c ∨ b = d) := fun e => hn ⟨k1, e⟩
    simp only [if_pos k1, if_neg k2]
  · have k2 : b = c ∨ b = d := by rcases h with h | h | h | h <;> simp_all
    simp only [if_neg k1, if_pos k2]
theorem isx_t2 (h : a = c ∨ a = d ∨ b = c ∨ b = d) : isx a b d c = isx a b c d := by
  unfold isx
  by_cases k1 : a = c ∨ a = d
  · rw [if_pos k1, if_pos k1.symm]
  · have k2 : b = c ∨ b = d := by rcases h with h | h | h | h <;> simp_all
    rw [if_neg k1, if_neg (fun e => k1 e.symm), if_pos k2, if_pos k2.symm]
/-- lines that fall together, ends in any order -/
theorem col_gen1 (hab : a ≠ b) (hcd : Lt c d) (hC : cross a b c d = 0) (hN : near a b c d = 0) : Agree a b c d (specCol (minP a b, maxP a b) (c, d)) ∧ rel a b c d = relO (minP a b) (maxP a b) c d := by
  rcases triL a b with k | k | k
  · rw [minL k, maxL k]; exact ⟨col_all k hcd hC hN, col_rel k hcd hC hN⟩
  · exact absurd k hab
  · have hC' : cross b a c d = 0 := by rw [cross_s1]; omega
    have hN' : near b a c d = 0 := by rw [near_s1']; omega
    have e := col_all k hcd hC' hN'
    have hr := col_rel k hcd hC' hN'
    rw [minP_comm a b, maxP_comm a b, minL k, maxL k]
    have hr2 : rel a b c d = relO b a c d := by rw [← rel_s1]; exact hr
    refine ⟨e.s1 fun ht => ?_, hr2⟩
    rcases ht with ht | ht
    · have h1 := touch_ends ht (by rw [minL k, maxL k, minL hcd, maxL hcd]; exact hr)
      exact isx_t1 h1 fun hb => by rw [both_ends hb k.n] at ht; cases ht
    · exfalso
      rw [hr] at ht
      unfold relO at ht
      revert ht
      repeat' split
      all_goals (intro ht; cases ht)
theorem col_gen (hab : a ≠ b) (hcd : c ≠ d) (hC : cross a b c d = 0) (hN : near a b c d = 0) : Agree a b c d (specCol (minP a b, maxP a b) (minP c d, maxP c d)) ∧ rel a b c d = relO (minP a b) (maxP a b) (minP c d) (maxP c d) := by
  rcases triL c d with k | k | k
  · rw [minL k, maxL k]; exact col_gen1 hab k hC hN
  · exact absurd k hcd
  · have hC' : cross a b d c = 0 := by rw [cross_s2]; omega
    have hN' : near a b d c = 0 := by rw [near_s2]; omega
    obtain ⟨e, hr⟩ := col_gen1 hab k hC' hN'
    rw [minP_comm c d, maxP_comm c d, minL k, maxL k]
    refine ⟨e.s2 fun ht => ?_, by rw [← rel_s2]; exact hr⟩
    rcases ht with ht | ht
    · exact isx_t2 (touch_ends ht (by rw [minL k, maxL k]; exact hr))
    · exfalso
      rw [hr] at ht
      unfold relO at ht
      revert ht
      repeat' split
      all_goals (intro ht; cases ht)
end
end
section
set_option maxRecDepth 100000
set_option maxHeartbeats 2000000
set_option linter.unusedSimpArgs false
set_option linter.unusedVariables false
def scl (S : Int) (p : Pt) : Pt := (p.1 * S, p.2 * S)
section
variable {a b c d : Pt} {S : Int}
theorem cross_scl : cross (scl S a) (scl S b) (scl S c) (scl S d) = cross a b c d * (S * S) := by unfold cross scl; dsimp only; grind
theorem far_scl : far (scl S a) (scl S b) (scl S c) (scl S d) = far a b c d * (S * S) := by unfold far scl; dsimp only; grind
theorem near_scl : near (scl S a) (scl S b) (scl S c) (scl S d) = near a b c d * (S * S) := by unfold near scl; dsimp only; grind
theorem whole_scl (hS : S = cross a b c d ∨ S = -cross a b c d) : Whole (scl S a) (scl S b) (scl S c) (scl S d) := by
  unfold Whole
  rw [cross_scl, far_scl]
  generalize hF : far a b c d = F
  generalize hC : cross a b c d = C at hS ⊢
  unfold scl
  dsimp only
  rcases hS with h | h
  · exact ⟨⟨(b.1 - a.1) * F, by rw [h]; grind⟩, ⟨(b.2 - a.2) * F, by rw [h]; grind⟩⟩
  · exact ⟨⟨-((b.1 - a.1) * F), by rw [h]; grind⟩, ⟨-((b.2 - a.2) * F), by rw [h]; grind⟩⟩
theorem scl_ne (hS : S ≠ 0) (h : a ≠ b) : scl S a ≠ scl S b := by
  intro e
  have e1 : a.1 * S = b.1 * S := congrArg Prod.fst e
  have e2 : a.2 * S = b.2 * S := congrArg Prod.snd e
  exact h (pt_ext.mpr ⟨Int.eq_of_mul_eq_mul_right hS e1, Int.eq_of_mul_eq_mul_right hS e2⟩)
/-- the text's own division is sound wherever it is reached -/
theorem ok_gen (hab : a ≠ b) (hcd : c ≠ d) (hW : cross a b c d ≠ 0 → Whole a b c d) (hr : rel a b c d = .touch ∨ rel a b c d = .cross) (h1 : ¬ (a = c ∨ a = d)) (h2 : ¬ (b = c ∨ b = d)) :
    cross a b c d ≠ 0 ∧ ((b.1 - a.1) * far a b c d).fmod (cross a b c d) = 0 ∧ ((b.2 - a.2) * far a b c d).fmod (cross a b c d) = 0 := by
  by_cases hC : cross a b c d = 0
  · exfalso
    by_cases hN : near a b c d = 0
    · obtain ⟨_, ho⟩ := col_gen hab hcd hC hN
      rcases hr with hr | hr
      · rcases touch_ends hr ho with e | e | e | e
        · exact h1 (.inl e)
        · exact h1 (.inr e)
        · exact h2 (.inl e)
        · exact h2 (.inr e)
      · rw [ho] at hr
        unfold relO at hr
        revert hr
        repeat' split
        all_goals (intro ht; cases ht)
    · rw [par_rel_gen hab hcd hC hN] at hr
      rcases hr with hr | hr <;> cases hr
  · have w := hW hC
    exact ⟨hC, Int.fmod_eq_zero_of_dvd w.1, Int.fmod_eq_zero_of_dvd w.2⟩
end
end
section
set_option maxRecDepth 100000
set_option maxHeartbeats 2000000
set_option linter.unusedSimpArgs false
set_option linter.unusedVariables false
/-- the sign taken away, the range is the same -/
theorem hi_of {C F N c f n : Int} (hs : (C = c ∧ F = f ∧ N = n) ∨ (C = -c ∧ F = -f ∧ N = -n)) (hp : 0 < C) : (0 ≤ F ∧ F ≤ C ∧ 0 ≤ N ∧ N ≤ C) ↔ inR c f n := by
  rcases hs with ⟨e1, e2, e3⟩ | ⟨e1, e2, e3⟩
  · subst e1 e2 e3
    exact ⟨.inl, fun h => h.elim id fun h => absurd hp (Int.not_lt.mpr (Int.le_trans h.1 h.2.1))⟩
  · subst e1 e2 e3
    constructor
    · rintro ⟨x, y, z, u⟩
      exact .inr ⟨Int.le_of_neg_le_neg y, Int.nonpos_of_neg_nonneg x, Int.le_of_neg_le_neg u, Int.nonpos_of_neg_nonneg z⟩
    · rintro (⟨x, y, z, u⟩ | ⟨x, y, z, u⟩)
      · exact absurd (Int.le_trans x y) (Int.not_le.mpr (Int.neg_of_neg_pos hp))
      · exact ⟨Int.neg_nonneg_of_nonpos y, Int.neg_le_neg x, Int.neg_nonneg_of_nonpos u, Int.neg_le_neg z⟩
def dflt (one two : Sg) : Spec := ⟨([], []), [one], srtS [one, two], srtS [one, two]⟩
/-- the crossing part of the law, after cross has been made positive -/
def specPos (a b : Pt) (one two : Sg) (C F N : Int) : Spec :=
  if 0 ≤ F ∧ F ≤ C ∧ 0 ≤ N ∧ N ≤ C then
    let spot : Pt := (a.1 + ((b.1 - a.1) * F).fdiv C, a.2 + ((b.2 - a.2) * F).fdiv C)
    if (spot ≠ one.1 ∧ spot ≠ one.2) ∧ (spot ≠ two.1 ∧ spot ≠ two.2) then ⟨([spot], []), [one], srtS [(one.1, spot), (spot, one.2), (two.1, spot), (spot, two.2)], srtS [(one.1, spot), (spot, one.2), (two.1, spot), (spot, two.2)]⟩
    else ⟨([spot], []), [one], srtS [one, two], srtS [one, two]⟩
  else dflt one two
def lawSpec (a b c d : Pt) : Spec :=
  let one := (minP a b, maxP a b)
  let two := (minP c d, maxP c d)
  if cross a b c d = 0 then (if near a b c d = 0 then specCol one two else dflt one two)
  else if cross a b c d < 0 then specPos a b one two (-cross a b c d) (-far a b c d) (-near a b c d)
  else specPos a b one two (cross a b c d) (far a b c d) (near a b c d)
section
variable {a b c d : Pt}
theorem ends_or {p : Pt} : (p = minP a b ∨ p = maxP a b) ↔ (p = a ∨ p = b) := by
  rcases triL a b with k | k | k
  · rw [minL k, maxL k]
  · subst k; simp [minP, maxP, ltP_irr, gtP_eq]
  · rw [minP_comm, maxP_comm, minL k, maxL k]; exact or_comm
theorem edge_iff {p : Pt} (hab : a ≠ b) (hcd : c ≠ d) (hC : cross a b c d ≠ 0) (h : Spt a b c d p) : edge (cross a b c d) (far a b c d) (near a b c d) ↔ ((p = minP a b ∨ p = maxP a b) ∨ (p = minP c d ∨ p = maxP c d)) := by
  rw [ends_or, ends_or, spt_a hab hC h, spt_b hab hC h, spt_c hcd hC h, spt_d hcd hC h]
  unfold edge
  exact ⟨fun h => by rcases h with h | h | h | h <;> simp [h], fun h => by rcases h with (h | h) | (h | h) <;> simp [h]⟩
theorem specPos_eq {C F N : Int} (hab : a ≠ b) (hcd : c ≠ d) (hC : cross a b c d ≠ 0) (hW : Whole a b c d)
    (hs : (C = cross a b c d ∧ F = far a b c d ∧ N = near a b c d) ∨ (C = -cross a b c d ∧ F = -far a b c d ∧ N = -near a b c d)) (hp : 0 < C) :
    specPos a b (minP a b, maxP a b) (minP c d, maxP c d) C F N = specNC (minP a b, maxP a b) (minP c d, maxP c d) (cross a b c d) (far a b c d) (near a b c d) (isx a b c d) := by
  obtain ⟨⟨k, w1⟩, ⟨l, w2⟩⟩ := id hW
  have v1 : ((b.1 - a.1) * F).fmod C = 0 := by
    rcases hs with ⟨e1, e2, _⟩ | ⟨e1, e2, _⟩ <;> rw [e1, e2]
    · exact Int.fmod_eq_zero_of_dvd ⟨k, w1⟩
    · exact Int.fmod_eq_zero_of_dvd ⟨k, by grind⟩
  have v2 : ((b.2 - a.2) * F).fmod C = 0 := by
    rcases hs with ⟨e1, e2, _⟩ | ⟨e1, e2, _⟩ <;> rw [e1, e2]
    · exact Int.fmod_eq_zero_of_dvd ⟨l, w2⟩
    · exact Int.fmod_eq_zero_of_dvd ⟨l, by grind⟩
  have sp := spot_spt (C := C) (F := F) (by rcases hs with ⟨e1, e2, _⟩ | ⟨e1, e2, _⟩; exact .inl ⟨e1, e2⟩; exact .inr ⟨e1, e2⟩) hC v1 v2
  have es : ((a.1 + ((b.1 - a.1) * F).fdiv C, a.2 + ((b.2 - a.2) * F).fdiv C) : Pt) = isx a b c d := Spt.uniq hC sp hW.spt
  have hi := hi_of hs hp
  have he := edge_iff hab hcd hC hW.spt
  unfold specPos specNC
  by_cases h1 : inR (cross a b c d) (far a b c d) (near a b c d)
  · rw [if_pos (hi.mpr h1), if_pos h1]
    dsimp only
    rw [es]
    by_cases h2 : edge (cross a b c d) (far a b c d) (near a b c d)
    · rw [if_pos h2, if_neg]
      rintro ⟨⟨q1, q2⟩, q3, q4⟩
      rcases he.mp h2 with (q | q) | (q | q)
      · exact q1 q
      · exact q2 q
      · exact q3 q
      · exact q4 q
    · rw [if_neg h2, if_pos]
      exact ⟨⟨fun q => h2 (he.mpr (.inl (.inl q))), fun q => h2 (he.mpr (.inl (.inr q)))⟩, fun q => h2 (he.mpr (.inr (.inl q))), fun q => h2 (he.mpr (.inr (.inr q)))⟩
  · rw [if_neg (fun q => h1 (hi.mp q)), if_neg h1]; rfl
/-- THE PLAIN LAW -/
theorem law_plain (hab : a ≠ b) (hcd : c ≠ d) (hW : cross a b c d ≠ 0 → Whole a b c d) : Agree a b c d (lawSpec a b c d) := by
  unfold lawSpec
  dsimp only
  by_cases hC : cross a b c d = 0
  · rw [if_pos hC]
    by_cases hN : near a b c d = 0
    · rw [if_pos hN]; exact (col_gen hab hcd hC hN).1
    · rw [if_neg hN]; exact par_gen hab hcd (par_rel_gen hab hcd hC hN)
  · rw [if_neg hC]
    have h := nc_gen hab hcd hC (hW hC)
    by_cases hn : cross a b c d < 0
    · rw [if_pos hn, specPos_eq hab hcd hC (hW hC) (.inr ⟨rfl, rfl, rfl⟩) (by omega)]; exact h
    · rw [if_neg hn, specPos_eq hab hcd hC (hW hC) (.inl ⟨rfl, rfl, rfl⟩) (by omega)]; exact h
end
end
section
open PySem PySem.W PyProof.Rows PySem.Calls PySem.Spec
set_option Elab.async false
set_option maxRecDepth 100000
set_option maxHeartbeats 1000000
def CmpAs (prog : Program) (w : World) (k : Nat) (h : Heap) (op : CmpOp) (u v : Value) (e : Bool) : Prop :=
  ∀ (A : Around) (E Q : Value → Shared → Prop) (s : Shared), s.heap = h → A.units + k < cLine → Q (.bool e) s → wpAny (model prog w) A (richCompare op u v) Q E s
def EqbAs (prog : Program) (w : World) (k : Nat) (h : Heap) (u v : Value) (e : Bool) : Prop :=
  ∀ (A : Around) (E : Value → Shared → Prop) (Q : Bool → Shared → Prop) (s : Shared), s.heap = h → A.units + k < cLine → Q e s → wpAny (model prog w) A (eqBool u v) Q E s
structure TupCls (M : Model) (h : Heap) (c : Value) : Prop where
  eq : Looks M h (typeLookup c "__eq__") (some (.builtin "tuple.__eq__"))
  ne : Looks M h (typeLookup c "__ne__") (some (.builtin "tuple.__ne__"))
  lt : Looks M h (typeLookup c "__lt__") (some (.builtin "tuple.__lt__"))
  le : Looks M h (typeLookup c "__le__") (some (.builtin "tuple.__le__"))
  gt : Looks M h (typeLookup c "__gt__") (some (.builtin "tuple.__gt__"))
  sub : Looks M h (isSubtype c (.type "tuple")) true
def IsTp (h : Heap) (a : Addr) (c : Value) (xs : List Value) : Prop := ∃ o, h.get? a = some o ∧ o.cls = c ∧ ∃ n, o.data = .seq xs.toArray n
section
variable {prog : Program} {w : World} {h : Heap} {k : Nat}
theorem eqb_int {x y : Int} {t u : Tok} : EqbAs prog w k h (.int x t) (.int y u) (decide (x = y)) := by
  intro A E Q s hs hu hq
  refine wpAny_eqBool_int ?_
  exact (show (x == y) = decide (x = y) from rfl) ▸ hq
theorem eqb_ref {a b : Addr} {e : Bool} (hc : CmpAs prog w k h .Eq (.ref a) (.ref b) e) (hs : a = b → e = true) : EqbAs prog w k h (.ref a) (.ref b) e := by
  intro A E Q s hh hu hq
  unfold eqBool
  try with_reducible refine wpAny_holding ?_
  show wpAny _ _ (if (Value.ref a == Value.ref b) = true then _ else _) Q E s
  by_cases hab : (Value.ref a == Value.ref b) = true
  · rw [if_pos hab]
    have e' : a = b := by have := eq_of_beq hab; injection this
    rw [hs e'] at hq
    exact wpAny_bind (wpAny_rule (wpAny_pure hq))
  · rw [if_neg hab]
    exact wpAny_bind (hc A E _ s hh hu (wpAny_truthy_bool hq))
theorem IsTp.type {M : Model} {a : Addr} {c : Value} {xs : List Value} (t : IsTp h a c xs) : Looks M h (typeOf (.ref a)) c := by
  obtain ⟨o, ho, hc, _⟩ := t
  exact hc ▸ (Looks.ld ho).andThen .now
/-- one comparison of two tuples of one class: the built-in's own code is what is left -/
theorem cmp_open {op : CmpOp} {id : String} {B : Builtin} {a b : Addr} {c : Value} {xs ys : List Value} {A : Around} {E Q : Value → Shared → Prop} {s : Shared}
    (S : Slot "tuple" (cmpInfo op).2.1 id) (hk : builtinKind id = some .slot) (hsp : splitId id = some ("tuple", (cmpInfo op).2.1.toString)) (en : entryFor table id = some B) (ar : argsOk id ⟨[.ref a, .ref b], []⟩)
    (ta : IsTp s.heap a c xs) (tb : IsTp s.heap b c ys) (L : Looks (model prog w) s.heap (typeLookup c (cmpInfo op).2.1) (some (.builtin id))) (sub : Looks (model prog w) s.heap (isSubtype c (.type "tuple")) true) (hu : A.units < cLine)
    (hb : wpAny (model prog w) A.in1 (B ⟨[.ref a, .ref b], []⟩) (fun fin s' => ∃ v, fin = .done (.ret v) ∧ v ≠ .notImplemented ∧ Q v s') E s) :
    wpAny (model prog w) A (richCompare op (.ref a) (.ref b)) Q E s := by
  have La := ta.type (M := model prog w)
  have Lb := tb.type (M := model prog w)
  unfold richCompare
  simp only [oneThing_ref]
  refine wpAny_holding (wpAny_bind (wpAny_cRoomFor hu ?_))
  refine wpAny_bind (La.here (wpAny_bind (Lb.here ?_)))
  simp only [bne_self_eq_false, Bool.false_eq_true, if_false, pure_bind]
  have one : wpAny (model prog w) A (tryCompare (.ref a) (cmpInfo op).2.1 (.ref b)) (fun r s' => ∃ v, r = some v ∧ Q v s') E s := by
    unfold tryCompare
    refine wpAny_bind (?_ : wpAny _ _ (callSpecialIfBound? _ _ _) (fun r s' => wpAny _ _ _ _ E s') E s)
    simp only [callSpecialIfBound?, bindSpecialIfBound?]
    refine wpAny_holding (wpAny_bind (wpAny_bind (wpAny_bind (La.here (L.here ?_)))))
    simp only [S.bind]
    refine wpAny_bind (wpAny_askSetting (wpAny_ite ?_))
    have fin : wpAny (model prog w) A (call (.builtin id) ([.ref a] ++ [.ref b]) >>= fun v => pure (some v)) (fun r s' => wpAny (model prog w) A (match r with | some .notImplemented | none => pure none | some v => pure (some v)) (fun r s' => ∃ v, r = some v ∧ Q v s') E s') E s := by
      refine wpAny_bind (wpAny_call (codeAny_call_builtin S.plain en ?_))
      refine check_slot (owner := "tuple") hk hsp (La.andThen sub) ar ?_
      refine wpAny_mono hb (fun fin s' z => ?_) fun _ _ z => z
      obtain ⟨v, rfl, hv, hq⟩ := z
      refine wpAny_pure ?_
      cases v <;> first | exact absurd rfl hv | exact wpAny_pure ⟨_, rfl, hq⟩
    split
    · exact wpAny_bind (wpAny_pure (wpAny_pure fin))
    · exact wpAny_tryCatch (wpAny_bind (wpAny_pure (wpAny_pure fin)))
  refine wpAny_bind (wpAny_mono one (fun r s' z => ?_) fun _ _ z => z)
  obtain ⟨v, rfl, hq⟩ := z
  exact wpAny_pure hq
end
end
section
open PySem PySem.W PyProof.Rows PySem.Calls PySem.Spec
set_option Elab.async false
set_option maxRecDepth 100000
set_option maxHeartbeats 1000000
theorem slot_lt : Slot "tuple" (cmpInfo .Lt).2.1 "tuple.__lt__" :=
  .of (owner := "tuple") (n := "__lt__") (by rw [typeLookup_type, builtinLookup_eq_fast]; kernel_rfl) (by decide +kernel) (by decide +kernel) (by decide +kernel)
    (by first | exact .inl (by decide +kernel) | exact .inr (by decide +kernel)) (by rw [isSubtype_type]; kernel_rfl)
theorem slot_le : Slot "tuple" (cmpInfo .LtE).2.1 "tuple.__le__" :=
  .of (owner := "tuple") (n := "__le__") (by rw [typeLookup_type, builtinLookup_eq_fast]; kernel_rfl) (by decide +kernel) (by decide +kernel) (by decide +kernel)
    (by first | exact .inl (by decide +kernel) | exact .inr (by decide +kernel)) (by rw [isSubtype_type]; kernel_rfl)
theorem slot_gt : Slot "tuple" (cmpInfo .Gt).2.1 "tuple.__gt__" :=
  .of (owner := "tuple") (n := "__gt__") (by rw [typeLookup_type, builtinLookup_eq_fast]; kernel_rfl) (by decide +kernel) (by decide +kernel) (by decide +kernel)
    (by first | exact .inl (by decide +kernel) | exact .inr (by decide +kernel)) (by rw [isSubtype_type]; kernel_rfl)
theorem slot_ne : Slot "tuple" (cmpInfo .NotEq).2.1 "tuple.__ne__" :=
  .of (owner := "tuple") (n := "__ne__") (by rw [typeLookup_type, builtinLookup_eq_fast]; kernel_rfl) (by decide +kernel) (by decide +kernel) (by decide +kernel)
    (by first | exact .inl (by decide +kernel) | exact .inr (by decide +kernel)) (by rw [isSubtype_type]; kernel_rfl)
theorem slot_eq : Slot "tuple" (cmpInfo .Eq).2.1 "tuple.__eq__" :=
  .of (owner := "tuple") (n := "__eq__") (by rw [typeLookup_type, builtinLookup_eq_fast]; kernel_rfl) (by decide +kernel) (by decide +kernel) (by decide +kernel)
    (by first | exact .inl (by decide +kernel) | exact .inr (by decide +kernel)) (by rw [isSubtype_type]; kernel_rfl)
theorem entry_lt : entryFor table "tuple.__lt__" = some Builtin.«tuple.__lt__» := entryFor_of_tree (by kernel_rfl)
theorem entry_le : entryFor table "tuple.__le__" = some Builtin.«tuple.__le__» := entryFor_of_tree (by kernel_rfl)
theorem entry_gt : entryFor table "tuple.__gt__" = some Builtin.«tuple.__gt__» := entryFor_of_tree (by kernel_rfl)
theorem entry_ne : entryFor table "tuple.__ne__" = some Builtin.«tuple.__ne__» := entryFor_of_tree (by kernel_rfl)
theorem entry_eq : entryFor table "tuple.__eq__" = some Builtin.«tuple.__eq__» := entryFor_of_tree (by kernel_rfl)
theorem args_lt (a b : Value) : argsOk "tuple.__lt__" ⟨[a, b], []⟩ := by unfold argsOk; kernel_rfl
theorem args_le (a b : Value) : argsOk "tuple.__le__" ⟨[a, b], []⟩ := by unfold argsOk; kernel_rfl
theorem args_gt (a b : Value) : argsOk "tuple.__gt__" ⟨[a, b], []⟩ := by unfold argsOk; kernel_rfl
theorem args_ne (a b : Value) : argsOk "tuple.__ne__" ⟨[a, b], []⟩ := by unfold argsOk; kernel_rfl
theorem args_eq (a b : Value) : argsOk "tuple.__eq__" ⟨[a, b], []⟩ := by unfold argsOk; kernel_rfl
theorem tupCls_tuple (M : Model) (h : Heap) : TupCls M h (.type "tuple") :=
  ⟨Looks.of_pure slot_eq.lookup, Looks.of_pure slot_ne.lookup, Looks.of_pure slot_lt.lookup, Looks.of_pure slot_le.lookup, Looks.of_pure slot_gt.lookup, Looks.of_pure isSubtype_tuple_tuple⟩
section
variable {prog : Program} {w : World} {A : Around} {E : Value → Shared → Prop} {s : Shared} {k : Nat} {a b : Addr} {c : Value} {x1 x2 y1 y2 : Value} {e1 e2 l1 l2 : Bool} {Q : Value → Shared → Prop}
theorem body_lt (ta : IsTp s.heap a c [x1, x2]) (tb : IsTp s.heap b c [y1, y2]) (sub : Looks (model prog w) s.heap (isSubtype c (.type "tuple")) true) (hu : A.units + k < cLine)
    (h1 : EqbAs prog w k s.heap x1 y1 e1) (h2 : EqbAs prog w k s.heap x2 y2 e2) (c1 : e1 = false → CmpAs prog w k s.heap .Lt x1 y1 l1) (c2 : e2 = false → CmpAs prog w k s.heap .Lt x2 y2 l2)
    (h : Q (.bool (if e1 then (if e2 then false else l2) else l1)) s) :
    wpAny (model prog w) A (Builtin.«tuple.__lt__» ⟨[.ref a, .ref b], []⟩) (fun fin s' => ∃ v, fin = .done (.ret v) ∧ v ≠ .notImplemented ∧ Q v s') E s := by
  have Lb := tb.type (M := model prog w)
  obtain ⟨oa, hoa, _, na, hda⟩ := ta
  obtain ⟨ob, hob, _, nb, hdb⟩ := tb
  show wpAny _ _ (isInstance (.ref b) (.type "tuple") >>= _) _ _ s
  refine wpAny_bind ((Lb.andThen sub).here ?_)
  simp only [Bool.not_true, Bool.false_eq_true, if_false]
  refine wpAny_bind (wpAny_tupleItemsOf hoa hda (wpAny_bind (wpAny_tupleItemsOf hob hdb ?_)))
  simp only [List.zip_cons_cons, List.zip_nil_right, List.forIn_cons, List.forIn_nil]
  refine wpAny_bind (wpAny_bind (wpAny_bind (h1 _ _ _ s rfl hu ?_)))
  cases e1 with
  | false =>
    simp only [Bool.not_false, if_true]
    exact wpAny_bind (wpAny_rule (wpAny_bind (c1 rfl _ _ _ s rfl hu (wpAny_bind (wpAny_pure (wpAny_pure (wpAny_pure (wpAny_pure ⟨_, rfl, (fun e => nomatch e), h⟩))))))))
  | true =>
    simp only [Bool.not_true, Bool.false_eq_true, if_false]
    refine wpAny_pure (wpAny_bind (wpAny_bind (h2 _ _ _ s rfl hu ?_)))
    cases e2 with
    | false =>
      simp only [Bool.not_false, if_true]
      exact wpAny_bind (wpAny_rule (wpAny_bind (c2 rfl _ _ _ s rfl hu (wpAny_bind (wpAny_pure (wpAny_pure (wpAny_pure (wpAny_pure ⟨_, rfl, (fun e => nomatch e), h⟩))))))))
    | true =>
      simp only [Bool.not_true, Bool.false_eq_true, if_false]
      exact wpAny_pure (wpAny_pure (wpAny_pure ⟨_, rfl, (fun e => nomatch e), h⟩))
theorem body_le (ta : IsTp s.heap a c [x1, x2]) (tb : IsTp s.heap b c [y1, y2]) (sub : Looks (model prog w) s.heap (isSubtype c (.type "tuple")) true) (hu : A.units + k < cLine)
    (h1 : EqbAs prog w k s.heap x1 y1 e1) (h2 : EqbAs prog w k s.heap x2 y2 e2) (c1 : e1 = false → CmpAs prog w k s.heap .LtE x1 y1 l1) (c2 : e2 = false → CmpAs prog w k s.heap .LtE x2 y2 l2)
    (h : Q (.bool (if e1 then (if e2 then true else l2) else l1)) s) :
    wpAny (model prog w) A (Builtin.«tuple.__le__» ⟨[.ref a, .ref b], []⟩) (fun fin s' => ∃ v, fin = .done (.ret v) ∧ v ≠ .notImplemented ∧ Q v s') E s := by
  have Lb := tb.type (M := model prog w)
  obtain ⟨oa, hoa, _, na, hda⟩ := ta
  obtain ⟨ob, hob, _, nb, hdb⟩ := tb
  show wpAny _ _ (isInstance (.ref b) (.type "tuple") >>= _) _ _ s
  refine wpAny_bind ((Lb.andThen sub).here ?_)
  simp only [Bool.not_true, Bool.false_eq_true, if_false]
  refine wpAny_bind (wpAny_tupleItemsOf hoa hda (wpAny_bind (wpAny_tupleItemsOf hob hdb ?_)))
  simp only [List.zip_cons_cons, List.zip_nil_right, List.forIn_cons, List.forIn_nil]
  refine wpAny_bind (wpAny_bind (wpAny_bind (h1 _ _ _ s rfl hu ?_)))
  cases e1 with
  | false =>
    simp only [Bool.not_false, if_true]
    exact wpAny_bind (wpAny_rule (wpAny_bind (c1 rfl _ _ _ s rfl hu (wpAny_bind (wpAny_pure (wpAny_pure (wpAny_pure (wpAny_pure ⟨_, rfl, (fun e => nomatch e), h⟩))))))))
  | true =>
    simp only [Bool.not_true, Bool.false_eq_true, if_false]
    refine wpAny_pure (wpAny_bind (wpAny_bind (h2 _ _ _ s rfl hu ?_)))
    cases e2 with
    | false =>
      simp only [Bool.not_false, if_true]
      exact wpAny_bind (wpAny_rule (wpAny_bind (c2 rfl _ _ _ s rfl hu (wpAny_bind (wpAny_pure (wpAny_pure (wpAny_pure (wpAny_pure ⟨_, rfl, (fun e => nomatch e), h⟩))))))))
    | true =>
      simp only [Bool.not_true, Bool.false_eq_true, if_false]
      exact wpAny_pure (wpAny_pure (wpAny_pure ⟨_, rfl, (fun e => nomatch e), h⟩))
theorem body_gt (ta : IsTp s.heap a c [x1, x2]) (tb : IsTp s.heap b c [y1, y2]) (sub : Looks (model prog w) s.heap (isSubtype c (.type "tuple")) true) (hu : A.units + k < cLine)
    (h1 : EqbAs prog w k s.heap x1 y1 e1) (h2 : EqbAs prog w k s.heap x2 y2 e2) (c1 : e1 = false → CmpAs prog w k s.heap .Gt x1 y1 l1) (c2 : e2 = false → CmpAs prog w k s.heap .Gt x2 y2 l2)
    (h : Q (.bool (if e1 then (if e2 then false else l2) else l1)) s) :
    wpAny (model prog w) A (Builtin.«tuple.__gt__» ⟨[.ref a, .ref b], []⟩) (fun fin s' => ∃ v, fin = .done (.ret v) ∧ v ≠ .notImplemented ∧ Q v s') E s := by
  have Lb := tb.type (M := model prog w)
  obtain ⟨oa, hoa, _, na, hda⟩ := ta
  obtain ⟨ob, hob, _, nb, hdb⟩ := tb
  show wpAny _ _ (isInstance (.ref b) (.type "tuple") >>= _) _ _ s
  refine wpAny_bind ((Lb.andThen sub).here ?_)
  simp only [Bool.not_true, Bool.false_eq_true, if_false]
  refine wpAny_bind (wpAny_tupleItemsOf hoa hda (wpAny_bind (wpAny_tupleItemsOf hob hdb ?_)))
  simp only [List.zip_cons_cons, List.zip_nil_right, List.forIn_cons, List.forIn_nil]
  refine wpAny_bind (wpAny_bind (wpAny_bind (h1 _ _ _ s rfl hu ?_)))
  cases e1 with
  | false =>
    simp only [Bool.not_false, if_true]
    exact wpAny_bind (wpAny_rule (wpAny_bind (c1 rfl _ _ _ s rfl hu (wpAny_bind (wpAny_pure (wpAny_pure (wpAny_pure (wpAny_pure ⟨_, rfl, (fun e => nomatch e), h⟩))))))))
  | true =>
    simp only [Bool.not_true, Bool.false_eq_true, if_false]
    refine wpAny_pure (wpAny_bind (wpAny_bind (h2 _ _ _ s rfl hu ?_)))
    cases e2 with
    | false =>
      simp only [Bool.not_false, if_true]
      exact wpAny_bind (wpAny_rule (wpAny_bind (c2 rfl _ _ _ s rfl hu (wpAny_bind (wpAny_pure (wpAny_pure (wpAny_pure (wpAny_pure ⟨_, rfl, (fun e => nomatch e), h⟩))))))))
    | true =>
      simp only [Bool.not_true, Bool.false_eq_true, if_false]
      exact wpAny_pure (wpAny_pure (wpAny_pure ⟨_, rfl, (fun e => nomatch e), h⟩))
theorem body_eq (ta : IsTp s.heap a c [x1, x2]) (tb : IsTp s.heap b c [y1, y2]) (sub : Looks (model prog w) s.heap (isSubtype c (.type "tuple")) true) (hu : A.units + k < cLine)
    (h1 : EqbAs prog w k s.heap x1 y1 e1) (h2 : EqbAs prog w k s.heap x2 y2 e2)
    (h : Q (.bool (if e1 then (if e2 then true else false) else false)) s) :
    wpAny (model prog w) A (Builtin.«tuple.__eq__» ⟨[.ref a, .ref b], []⟩) (fun fin s' => ∃ v, fin = .done (.ret v) ∧ v ≠ .notImplemented ∧ Q v s') E s := by
  have Lb := tb.type (M := model prog w)
  obtain ⟨oa, hoa, _, na, hda⟩ := ta
  obtain ⟨ob, hob, _, nb, hdb⟩ := tb
  show wpAny _ _ (isInstance (.ref b) (.type "tuple") >>= _) _ _ s
  refine wpAny_bind ((Lb.andThen sub).here ?_)
  simp only [Bool.not_true, Bool.false_eq_true, if_false]
  refine wpAny_bind (wpAny_tupleItemsOf hoa hda (wpAny_bind (wpAny_tupleItemsOf hob hdb ?_)))
  simp only [List.zip_cons_cons, List.zip_nil_right, List.forIn_cons, List.forIn_nil]
  refine wpAny_bind (wpAny_bind (wpAny_bind (h1 _ _ _ s rfl hu ?_)))
  cases e1 with
  | false =>
    simp only [Bool.not_false, if_true]
    exact wpAny_bind (wpAny_pure (wpAny_pure (wpAny_pure (wpAny_pure ⟨_, rfl, (fun e => nomatch e), h⟩))))
  | true =>
    simp only [Bool.not_true, Bool.false_eq_true, if_false]
    refine wpAny_pure (wpAny_bind (wpAny_bind (h2 _ _ _ s rfl hu ?_)))
    cases e2 with
    | false =>
      simp only [Bool.not_false, if_true]
      exact wpAny_bind (wpAny_pure (wpAny_pure (wpAny_pure (wpAny_pure ⟨_, rfl, (fun e => nomatch e), h⟩))))
    | true =>
      simp only [Bool.not_true, Bool.false_eq_true, if_false]
      exact wpAny_pure (wpAny_pure (wpAny_pure ⟨_, rfl, (fun e => nomatch e), h⟩))
theorem body_ne (ta : IsTp s.heap a c [x1, x2]) (tb : IsTp s.heap b c [y1, y2]) (sub : Looks (model prog w) s.heap (isSubtype c (.type "tuple")) true) (hu : A.units + k < cLine)
    (h1 : EqbAs prog w k s.heap x1 y1 e1) (h2 : EqbAs prog w k s.heap x2 y2 e2)
    (h : Q (.bool (if e1 then (if e2 then false else true) else true)) s) :
    wpAny (model prog w) A (Builtin.«tuple.__ne__» ⟨[.ref a, .ref b], []⟩) (fun fin s' => ∃ v, fin = .done (.ret v) ∧ v ≠ .notImplemented ∧ Q v s') E s := by
  have Lb := tb.type (M := model prog w)
  obtain ⟨oa, hoa, _, na, hda⟩ := ta
  obtain ⟨ob, hob, _, nb, hdb⟩ := tb
  show wpAny _ _ (isInstance (.ref b) (.type "tuple") >>= _) _ _ s
  refine wpAny_bind ((Lb.andThen sub).here ?_)
  simp only [Bool.not_true, Bool.false_eq_true, if_false]
  refine wpAny_bind (wpAny_tupleItemsOf hoa hda (wpAny_bind (wpAny_tupleItemsOf hob hdb ?_)))
  simp only [List.zip_cons_cons, List.zip_nil_right, List.forIn_cons, List.forIn_nil]
  refine wpAny_bind (wpAny_bind (wpAny_bind (h1 _ _ _ s rfl hu ?_)))
  cases e1 with
  | false =>
    simp only [Bool.not_false, if_true]
    exact wpAny_bind (wpAny_pure (wpAny_pure (wpAny_pure (wpAny_pure ⟨_, rfl, (fun e => nomatch e), h⟩))))
  | true =>
    simp only [Bool.not_true, Bool.false_eq_true, if_false]
    refine wpAny_pure (wpAny_bind (wpAny_bind (h2 _ _ _ s rfl hu ?_)))
    cases e2 with
    | false =>
      simp only [Bool.not_false, if_true]
      exact wpAny_bind (wpAny_pure (wpAny_pure (wpAny_pure (wpAny_pure ⟨_, rfl, (fun e => nomatch e), h⟩))))
    | true =>
      simp only [Bool.not_true, Bool.false_eq_true, if_false]
      exact wpAny_pure (wpAny_pure (wpAny_pure ⟨_, rfl, (fun e => nomatch e), h⟩))
end
end
section
open PySem PySem.W PyProof.Rows PySem.Calls PySem.Spec
set_option Elab.async false
set_option maxRecDepth 100000
set_option maxHeartbeats 1000000
def IsPt (c : Value) (h : Heap) (v : Value) (p : Pt) : Prop := ∃ a t u, v = .ref a ∧ IsTp h a c [.int p.1 t, .int p.2 u]
def IsSg (h : Heap) (v : Value) (s : Sg) : Prop := ∃ a v1 v2, v = .ref a ∧ IsTp h a (.type "tuple") [v1, v2] ∧ IsPt (.type "tuple") h v1 s.1 ∧ IsPt (.type "tuple") h v2 s.2
section
variable {prog : Program} {w : World} {h h' : Heap} {k : Nat} {c u v : Value}
theorem IsTp.keeps {a : Addr} {xs : List Value} (t : IsTp h a c xs) (kp : ∀ b o, h.get? b = some o → h'.get? b = some o) : IsTp h' a c xs := by
  obtain ⟨o, ho, r⟩ := t
  exact ⟨o, kp _ _ ho, r⟩
theorem IsPt.keeps {p : Pt} (t : IsPt c h v p) (kp : ∀ b o, h.get? b = some o → h'.get? b = some o) : IsPt c h' v p := by
  obtain ⟨a, t, u, e, r⟩ := t
  exact ⟨a, t, u, e, r.keeps kp⟩
theorem IsSg.keeps {p : Sg} (t : IsSg h v p) (kp : ∀ b o, h.get? b = some o → h'.get? b = some o) : IsSg h' v p := by
  obtain ⟨a, v1, v2, e, r, r1, r2⟩ := t
  exact ⟨a, v1, v2, e, r.keeps kp, r1.keeps kp, r2.keeps kp⟩
theorem cmp_lt_int {x y : Int} {t u : Tok} : CmpAs prog w k h .Lt (.int x t) (.int y u) (decide (x < y)) := fun _ _ _ _ _ _ hq => lt_int hq
theorem cmp_le_int {x y : Int} {t u : Tok} : CmpAs prog w k h .LtE (.int x t) (.int y u) (decide (x ≤ y)) := fun _ _ _ _ _ _ hq => le_int hq
theorem cmp_gt_int {x y : Int} {t u : Tok} : CmpAs prog w k h .Gt (.int x t) (.int y u) (decide (x > y)) := fun _ _ _ _ _ _ hq => gt_int hq
theorem units_one (A : Around) : A.in1.units = A.units + 1 := units_in1 A
theorem IsTp.inj {a : Addr} {xs ys : List Value} (t : IsTp h a c xs) (r : IsTp h a c ys) : xs = ys := by
  obtain ⟨o, ho, _, n, hd⟩ := t
  obtain ⟨o', ho', _, n', hd'⟩ := r
  rw [ho] at ho'
  cases ho'
  rw [hd] at hd'
  cases hd'
  rfl
theorem IsPt.inj {p q : Pt} (t : IsPt c h v p) (r : IsPt c h v q) : p = q := by
  obtain ⟨a, _, _, e, t⟩ := t
  obtain ⟨b, _, _, e', r⟩ := r
  rw [e] at e'
  cases e'
  have := t.inj r
  simp only [List.cons.injEq, Value.int.injEq] at this
  exact pt_ext.mpr ⟨this.1.1, this.2.1.1⟩
theorem IsSg.inj {p q : Sg} (t : IsSg h v p) (r : IsSg h v q) : p = q := by
  obtain ⟨a, _, _, e, t, t1, t2⟩ := t
  obtain ⟨b, _, _, e', r, r1, r2⟩ := r
  rw [e] at e'
  cases e'
  have := t.inj r
  simp only [List.cons.injEq, and_true] at this
  obtain ⟨e1, e2⟩ := this
  subst e1 e2
  exact Prod.ext (t1.inj r1) (t2.inj r2)
variable {p q : Pt} (C : TupCls (model prog w) h c)
theorem dec_pt : (if decide (p.1 = q.1) = true then (if decide (p.2 = q.2) = true then true else false) else false) = decide (p = q) := by
  by_cases h1 : p.1 = q.1 <;> by_cases h2 : p.2 = q.2 <;> simp [h1, h2, pt_ext]
include C
theorem pt_lt (tu : IsPt c h u p) (tv : IsPt c h v q) : CmpAs prog w (k + 1) h .Lt u v (ltP p q) := by
  obtain ⟨a, _, _, rfl, ta⟩ := tu
  obtain ⟨b, _, _, rfl, tb⟩ := tv
  rintro A E Q s rfl hu hq
  refine cmp_open slot_lt (by decide +kernel) (by decide +kernel) entry_lt (args_lt _ _) ta tb C.lt C.sub (by omega) ?_
  refine body_lt (k := k) ta tb C.sub (by rw [units_one]; omega) eqb_int eqb_int (fun _ => cmp_lt_int) (fun _ => cmp_lt_int) ?_
  simpa only [ltP, decide_eq_true_eq] using hq
theorem pt_le (tu : IsPt c h u p) (tv : IsPt c h v q) : CmpAs prog w (k + 1) h .LtE u v (leP p q) := by
  obtain ⟨a, _, _, rfl, ta⟩ := tu
  obtain ⟨b, _, _, rfl, tb⟩ := tv
  rintro A E Q s rfl hu hq
  refine cmp_open slot_le (by decide +kernel) (by decide +kernel) entry_le (args_le _ _) ta tb C.le C.sub (by omega) ?_
  refine body_le (k := k) ta tb C.sub (by rw [units_one]; omega) eqb_int eqb_int (fun _ => cmp_le_int) (fun _ => cmp_le_int) ?_
  simpa only [leP, decide_eq_true_eq] using hq
theorem pt_gt (tu : IsPt c h u p) (tv : IsPt c h v q) : CmpAs prog w (k + 1) h .Gt u v (gtP p q) := by
  obtain ⟨a, _, _, rfl, ta⟩ := tu
  obtain ⟨b, _, _, rfl, tb⟩ := tv
  rintro A E Q s rfl hu hq
  refine cmp_open slot_gt (by decide +kernel) (by decide +kernel) entry_gt (args_gt _ _) ta tb C.gt C.sub (by omega) ?_
  refine body_gt (k := k) ta tb C.sub (by rw [units_one]; omega) eqb_int eqb_int (fun _ => cmp_gt_int) (fun _ => cmp_gt_int) ?_
  simpa only [gtP, decide_eq_true_eq] using hq
theorem pt_eq (tu : IsPt c h u p) (tv : IsPt c h v q) : CmpAs prog w (k + 1) h .Eq u v (decide (p = q)) := by
  obtain ⟨a, _, _, rfl, ta⟩ := tu
  obtain ⟨b, _, _, rfl, tb⟩ := tv
  rintro A E Q s rfl hu hq
  refine cmp_open slot_eq (by decide +kernel) (by decide +kernel) entry_eq (args_eq _ _) ta tb C.eq C.sub (by omega) ?_
  refine body_eq (k := k) ta tb C.sub (by rw [units_one]; omega) eqb_int eqb_int ?_
  rw [dec_pt]; exact hq
theorem pt_ne (tu : IsPt c h u p) (tv : IsPt c h v q) : CmpAs prog w (k + 1) h .NotEq u v (!decide (p = q)) := by
  obtain ⟨a, _, _, rfl, ta⟩ := tu
  obtain ⟨b, _, _, rfl, tb⟩ := tv
  rintro A E Q s rfl hu hq
  refine cmp_open slot_ne (by decide +kernel) (by decide +kernel) entry_ne (args_ne _ _) ta tb C.ne C.sub (by omega) ?_
  refine body_ne (k := k) ta tb C.sub (by rw [units_one]; omega) eqb_int eqb_int ?_
  rw [← dec_pt] at hq
  by_cases h1 : p.1 = q.1 <;> by_cases h2 : p.2 = q.2 <;> simpa [h1, h2] using hq
theorem pt_eqb (tu : IsPt c h u p) (tv : IsPt c h v q) : EqbAs prog w (k + 1) h u v (decide (p = q)) := by
  have := pt_eq (k := k) C tu tv
  have tu' := tu
  have tv' := tv
  obtain ⟨a, _, _, rfl, ta⟩ := tu
  obtain ⟨b, _, _, rfl, tb⟩ := tv
  exact eqb_ref this fun e => by subst e; exact decide_eq_true (tu'.inj tv')
end
section
variable {prog : Program} {w : World} {h h' : Heap} {k : Nat} {u v : Value} {p q : Sg}
theorem sg_lt (tu : IsSg h u p) (tv : IsSg h v q) : CmpAs prog w (k + 2) h .Lt u v (ltS p q) := by
  have C := tupCls_tuple (model prog w) h
  obtain ⟨a, _, _, rfl, ta, a1, a2⟩ := tu
  obtain ⟨b, _, _, rfl, tb, b1, b2⟩ := tv
  rintro A E Q s rfl hu hq
  refine cmp_open slot_lt (by decide +kernel) (by decide +kernel) entry_lt (args_lt _ _) ta tb C.lt C.sub (by omega) ?_
  refine body_lt (k := k + 1) ta tb C.sub (by rw [units_one]; omega) (pt_eqb C a1 b1) (pt_eqb C a2 b2) (fun _ => pt_lt C a1 b1) (fun _ => pt_lt C a2 b2) ?_
  simpa only [ltS, decide_eq_true_eq] using hq
theorem sg_eqb (tu : IsSg h u p) (tv : IsSg h v q) : EqbAs prog w (k + 2) h u v (decide (p = q)) := by
  have C := tupCls_tuple (model prog w) h
  have tu' := tu
  have tv' := tv
  obtain ⟨a, _, _, rfl, ta, a1, a2⟩ := tu
  obtain ⟨b, _, _, rfl, tb, b1, b2⟩ := tv
  refine eqb_ref ?_ fun e => by subst e; exact decide_eq_true (tu'.inj tv')
  rintro A E Q s rfl hu hq
  refine cmp_open slot_eq (by decide +kernel) (by decide +kernel) entry_eq (args_eq _ _) ta tb C.eq C.sub (by omega) ?_
  refine body_eq (k := k + 1) ta tb C.sub (by rw [units_one]; omega) (pt_eqb C a1 b1) (pt_eqb C a2 b2) ?_
  have e : (if decide (p.1 = q.1) = true then (if decide (p.2 = q.2) = true then true else false) else false) = decide (p = q) := by
    by_cases hpq : p = q
    · subst hpq; simp
    · rw [decide_eq_false hpq]
      by_cases h1 : p.1 = q.1
      · by_cases h2 : p.2 = q.2
        · exact absurd (Prod.ext h1 h2) hpq
        · simp [h2]
      · simp [h1]
  rw [e]; exact hq
end
end
section
open PySem PySem.W PyProof.Rows PySem.Calls PySem.Spec Builtin Builtin.ObjectAttr
set_option Elab.async false
set_option maxRecDepth 100000
set_option maxHeartbeats 1000000
section
variable {prog : Program} {w : World} {A : Around} {E Q : Value → Shared → Prop} {s : Shared} {K : Frag} {x C : Addr} {ox : Obj} {od : Option Obj} {name : Str} {expr : Bool}
theorem findObj_data1 {cd : ClassData} {od : Obj} {a g : Value} (hc : clsIn K C = some cd) (ha : findIn K (.ref C) name = some (some a)) (hg : specialIn K a "__get__" = some (some g)) (ht : takesIn K a = some true) : findObj K C (some od) name = some (.bind g a) :=
  findObj_data (by rw [hc]; rfl) ha hg ht
theorem getT_bind {g a : Value} (X : K.In s.heap) (I : InstAt s.heap x ox C od) (hga : findIn K (.ref C) "__getattribute__" = some (some (.builtin "tuple.__getattribute__")))
    (hf : findObj K C od name = some (.bind g a)) (hk : findIn K (.ref C) "__getattr__" = some none) (hs : subIn K (.ref C) (.type "tuple") = some true)
    (h : wpAny (model prog w) A.in1 (call g [a, .ref x, .ref C]) (fun v s' => handedIn v = true ∧ Q v s') (fun _ _ => False) { s with toks := s.toks + 1 }) :
    wpAny (model prog w) A (getAttr (.ref x) name expr) Q E s := by
  have L0 := I.type (M := model prog w)
  have L1 := looks_findIn (M := model prog w) X hga
  have L2 := looks_find (M := model prog w) X I hf
  have L3 := looks_findIn (M := model prog w) X hk
  have L4 := looks_subIn (M := model prog w) X hs
  unfold getAttr getAttrBy
  refine wpAny_bind (wpAny_mkText (wpAny_holding (wpAny_bind (L0 _ _ _ _ (fun _ _ e => e) (wpAny_bind (L1 _ _ _ _ (fun _ _ e => e) ?_))))))
  dsimp only
  rw [show (onTheHeap (Value.ref C) && Value.builtin "tuple.__getattribute__" == Value.builtin "object.__getattribute__") = false from by rw [show (Value.builtin "tuple.__getattribute__" == Value.builtin "object.__getattribute__") = false from by decide +kernel, Bool.and_false], if_neg (by decide)]
  unfold getAttrByItsOwn
  have hb : Looks (model prog w) s.heap (hookBefore (.ref C)) none := by
    unfold hookBefore
    exact L3
  refine wpAny_bind (hb _ _ _ _ (fun _ _ e => e) (wpAny_bind (wpAny_attempt (wpAny_holding ?_))))
  unfold callGetattribute
  rw [show (expr && onTheHeap (Value.builtin "tuple.__getattribute__")) = false from Bool.and_false _, if_neg (by decide)]
  unfold boundAndCalled
  rw [F.slot_tuple_getattribute.bind]
  refine wpAny_bind (wpAny_pure ?_)
  show wpAny _ _ (call (.builtin "tuple.__getattribute__") [.ref x, .str name s.toks]) _ _ _
  refine wpAny_call ?_
  refine codeAny_call_builtin F.slot_tuple_getattribute.plain F.entry_tuple_ga ?_
  refine @check_slot (model prog w) _ _ { s with toks := s.toks + 1 } "tuple.__getattribute__" "tuple" "__getattribute__" (.ref x) [.str name s.toks] [] _ (by decide +kernel) (by decide +kernel) (L0.andThen L4) (F.args_tuple_getattribute_2 _ _) ?_
  unfold Builtin.«object.__getattribute__»
  refine wpAny_bind (wpAny_pure (wpAny_bind (wpAny_pure (wpAny_bind (L0 _ _ _ _ (fun _ _ e => e) (wpAny_bind (L2 _ _ _ _ (fun _ _ e => e) ?_)))))))
  show wpAny _ _ (holding [a] (call g [a, .ref x, .ref C]) >>= ret) _ _ _
  refine wpAny_bind (wpAny_holding (wpAny_mono h (fun v s' z => ?_) fun _ _ z => z.elim))
  refine wpAny_pure ?_
  show wpAny _ _ (handedOut v) _ _ _
  rw [handedOut_of z.1]
  exact wpAny_pure z.2
end
end
section
open PySem PySem.W PyProof.Rows PySem.Calls PySem.Spec Builtin Builtin.ObjectAttr
set_option Elab.async false
set_option maxRecDepth 100000
set_option maxHeartbeats 1000000
section
variable {prog : Program} {w : World} {A : Around} {E Q : Value → Shared → Prop} {s : Shared} {K : Frag} {C : Addr} {cd : ClassData}
theorem issub_nested {M : Model} {E : Value → Shared → Prop} {dep : Int} {tk : Tok} {Q : PySem.Fin → Shared → Prop} (X : K.In s.heap) (hc : clsIn K C = some cd) (hsub : subIn K (.ref C) (.type "tuple") = some true) (h : Q (.done (.ret (.bool true))) s) :
    wpAny M A (Builtin.«issubclass.nested» ⟨[.ref C, .type "tuple", .int dep tk], []⟩) Q E s := by
  have L3 := looks_subIn (M := M) X hsub
  have L2 : Looks M s.heap (typeOf (.type "tuple")) (.type "type") := Looks.of_pure rfl
  unfold clsIn at hc
  obtain ⟨hh, g, d, tt, os⟩ := s
  unfold Builtin.«issubclass.nested»
  refine wpAny_bind (L2.at ?_)
  rw [if_pos (by decide)]
  k_delta "plainIsSubclass"
  unfold isType
  split at hc
  · rename_i ho
    refine wpAny_bind (wpAny_bind (wpAny_bind (wpAny_bind (wpAny_load (X _ _ ho) (wpAny_pure ?_)))))
    repeat lk
    exact h
  · cases hc
theorem issub_call (X : K.In s.heap) (hc : clsIn K C = some cd) (hsub : subIn K (.ref C) (.type "tuple") = some true) (h : Q (.bool true) s) :
    wpAny (model prog w) A (call (.builtin "issubclass") [.ref C, .type "tuple"]) Q E s :=
  call_issubclass (S := fun _ R s => K.In s.heap ∧ R (.ok (.ret (.bool true))) s) (fun _ _ _ _ _ hs => issubclass_outer (issub_nested hs.1 hc hsub hs.2)) ⟨X, h⟩
theorem meta_tuple : typeOf (.type "tuple") = pure (.type "type") := rfl
theorem tgi_body {l : Addr} {ox : Obj} {items : Array Value} {n : Nat} {i : Int} {u : Tok} {k : Nat} {y : Value} {Q : PySem.Fin → Shared → Prop} (hlo : -2 ^ 63 ≤ i) (hhi : i < 2 ^ 63) (hk : seqIndex? i items.size = some k) (hy : items[k]? = some y)
    (hl : s.heap.get? l = some ox) (hd : ox.data = .seq items n) (h : Q (.done (.ret y)) s) : wpAny (model prog w) A (Builtin.«tuple.__getitem__» ⟨[.ref l, .int i u], []⟩) Q E s := by
  have f1 := AutoSeq1.idx_int
  have hf : ¬ (decide (i < -2 ^ 63) || decide (i ≥ 2 ^ 63)) = true := by simp; omega
  unfold Builtin.«tuple.__getitem__»
  refine wpAny_bind (wpAny_pure (wpAny_bind (wpAny_tupleItemsOf hl hd ?_)))
  obtain ⟨hp, g, d, tk, os⟩ := s
  wp_walk
  rw [if_neg hf, hk, Option.bind_some, hy]
  exact wpAny_pure h
theorem tgi_call {l : Addr} {ox : Obj} {od : Option Obj} {items : Array Value} {n : Nat} {i : Int} {u : Tok} {k : Nat} {y : Value} (X : K.In s.heap) (I : InstAt s.heap l ox C od) (hs : subIn K (.ref C) (.type "tuple") = some true) (hd : ox.data = .seq items n)
    (hlo : -2 ^ 63 ≤ i) (hhi : i < 2 ^ 63) (hk : seqIndex? i items.size = some k) (hy : items[k]? = some y) (h : Q y s) : wpAny (model prog w) A (call (.builtin "tuple.__getitem__") [.ref l, .int i u]) Q E s := by
  have L0 := I.type (M := model prog w)
  have L4 := looks_subIn (M := model prog w) X hs
  refine wpAny_call (codeAny_call_builtin slot_tuple_getitem.plain entry_tuple_getitem ?_)
  refine @check_slot (model prog w) _ _ s "tuple.__getitem__" "tuple" "__getitem__" (.ref l) [.int i u] [] _ (by decide +kernel) (by decide +kernel) (L0.andThen L4) (args_tuple_getitem _ _) ?_
  refine wpAny_mono (tgi_body (E := fun _ _ => False) (Q := fun fin s' => fin = .done (.ret y) ∧ s' = s) hlo hhi hk hy I.at_ hd ⟨rfl, rfl⟩) ?_ fun _ _ z => z.elim
  rintro fin s' ⟨rfl, rfl⟩
  exact h
end
end
section
open PySem PySem.W PyProof.Rows PySem.Calls PySem.Spec
set_option Elab.async false
set_option maxRecDepth 100000
set_option maxHeartbeats 1000000
section
variable {M : Model} {A : Around} {E : Value → Shared → Prop} {s : Shared} {h₀ : Heap} {L a : Addr} {m : Str → Option Value} {cn : Str} {cs : Scope} {ccd : Value} {cl : List (Str × Addr)} {x : Str} {v : Value} {news : List (Addr × Obj)}
/-- a local stored: the frame after it by a name -/
theorem storeL {Q : Unit → Shared → Prop} (F : Fr h₀ L s.heap m) (N : News h₀ L s.heap news)
    (h : let m' : Str → Option Value := fun y => if y = x then some v else m y; ∀ h' tk', Fr h₀ L h' m' → News h₀ L h' news → Q () { s with heap := h', toks := tk' })
    (hk : cs.kind = .function) (hx : (envX cn cs L a ccd cl).kindOf x = some .local) : wpAny M A (storeName (envX cn cs L a ccd cl) x v) Q E s :=
  storeX_L F N (fun h' F' N' => h h' _ F' N') hk hx
/-- x is a local of this function's environment -/
def isLoc (env : Env) (x : Str) : Bool := (env.scope.kind == .function && env.kindOf x == some .local) && !(x == ("__debug__" : Str))
variable {env : Env} {xp pos : Pos} {attr : Str}
theorem nameL {Q : Value → Shared → Prop} (F : Fr h₀ L s.heap m) (hv : m x = some v) (h : Q v s) (ok : isLoc env x = true) (hl : env.locals = L) : wpAny M A (eval (.Name x xp) env) Q E s := by
  subst hl
  simp only [isLoc, Bool.and_eq_true, Bool.not_eq_true', beq_iff_eq] at ok
  obtain ⟨⟨hk, hx⟩, hd⟩ := ok
  exact wpAny_Name (wpAny_loadName_local hk hx F.ns hv h) hd
theorem attrL {Q : Value → Shared → Prop} (F : Fr h₀ L s.heap m) (hv : m x = some v) (h : wpAny M A (getAttr v attr true) Q E s) (ok : isLoc env x = true) (hl : env.locals = L) :
    wpAny M A (eval (.Attribute (.Name x xp) attr pos) env) Q E s :=
  Attribute_Name_ (nameL F hv h ok hl) (by with_unfolding_all rfl)
theorem argL {Q : List Value → Shared → Prop} {rest : List Expr} (F : Fr h₀ L s.heap m) (hv : m x = some v) (h : wpAny M A (spliced (backTo pos (starEach rest env))) (fun vs s₂ => Q (v :: vs) s₂) E s) (ok : isLoc env x = true) (hl : env.locals = L) :
    wpAny M A (spliced (backTo pos (starEach (.Name x xp :: rest) env))) Q E s :=
  args_cons (nameL F hv h ok hl)
theorem argL1 {Q : List Value → Shared → Prop} (F : Fr h₀ L s.heap m) (hv : m x = some v) (h : Q [v] s) (ok : isLoc env x = true) (hl : env.locals = L) :
    wpAny M A (spliced (backTo pos (starEach [.Name x xp] env))) Q E s :=
  argL F hv (args_nil h) ok hl
theorem argLL {y : Str} {yp : Pos} {u : Value} {Q : List Value → Shared → Prop} (F : Fr h₀ L s.heap m) (hv : m x = some v) (hu : m y = some u) (h : Q [v, u] s) (ok : isLoc env x = true) (ok' : isLoc env y = true) (hl : env.locals = L) :
    wpAny M A (spliced (backTo pos (starEach [.Name x xp, .Name y yp] env))) Q E s :=
  argL F hv (argL1 F hu h ok' hl) ok hl
theorem methL {name : Str} {apos : Pos} {args : List Expr} {pl : Sem Bool} {Q : Value → Shared → Prop} (F : Fr h₀ L s.heap m) (hv : m x = some v)
    (h : wpAny M A (getMethod v name pl) (fun fx s₂ => wpAny M A (callWith pos fx.1 fx.2 (backTo pos (starEach args env)) []) Q E s₂) E s) (ok : isLoc env x = true) (hl : env.locals = L)
    (he : eval (.Call (.Attribute (.Name x xp) name apos) args [] pos) env = (do
      let ov ← eval (.Name x xp) env
      standAt apos.atName
      let (f, first) ← holding [ov] (getMethod ov name pl)
      callWith pos f first (backTo pos (starEach args env)) [])) :
    wpAny M A (eval (.Call (.Attribute (.Name x xp) name apos) args [] pos) env) Q E s :=
  MethodCall_ (nameL F hv h ok hl) he
theorem cmpL {op : CmpOp} {r : Expr} {whole : Sem Value} {Q : Bool → Shared → Prop} (F : Fr h₀ L s.heap m) (hv : m x = some v)
    (h : wpAny M A (eval r env) (fun b s₂ => wpAny M A (compareOp op v b) (fun c s₃ => wpAny M A (truthy c) Q E s₃) E s₂) E s) (ok : isLoc env x = true) (hl : env.locals = L) (hm : behindInMarks op r = false) :
    wpAny M A (isTrue (.Compare (.Name x xp) [op] [r] pos) env whole) Q E s :=
  wpAny_isTrue_Compare1 (nameL F hv h ok hl) hm
theorem cmpLL {op : CmpOp} {y : Str} {yp : Pos} {u : Value} {whole : Sem Value} {Q : Bool → Shared → Prop} (F : Fr h₀ L s.heap m) (hv : m x = some v) (hu : m y = some u)
    (h : wpAny M A (compareOp op v u) (fun c s₃ => wpAny M A (truthy c) Q E s₃) E s) (ok : isLoc env x = true) (ok' : isLoc env y = true) (hl : env.locals = L) (hm : behindInMarks op (.Name y yp) = false) :
    wpAny M A (isTrue (.Compare (.Name x xp) [op] [.Name y yp] pos) env whole) Q E s :=
  cmpL F hv (nameL F hu h ok' hl) ok hl hm
end
end
section
open PySem PySem.W PyProof.Rows PySem.Calls PySem.Spec
local macro_rules | `(tactic| walk_at $s:str) => do `(tactic| k_extra $(Lean.Syntax.mkStrLit ("my " ++ s.getString)))
local macro_rules | `(tactic| bits_by_make) => `(tactic| with_reducible assumption)
local macro_rules | `(tactic| k_mem) => `(tactic| k_extra "my MEM")
local macro_rules | `(tactic| cell_enter) => `(tactic| k_extra "my CELL")
section
open PySem PySem.W PyProof.Rows PySem.Calls PySem.Spec
set_option Elab.async false
set_option maxRecDepth 100000
set_option maxHeartbeats 4000000
/-- an object of the text's Point -/
abbrev ptObj (dx : Addr) (p : Pt) (t u : Tok) (n : Nat) : Obj := { cls := .ref 132, dict := some dx, data := .seq #[.int p.1 t, .int p.2 u] n }
def Po (news : List (Addr × Obj)) (a : Addr) (p : Pt) : Prop := ∃ dx t u n k, (a, ptObj dx p t u n) ∈ news ∧ (dx, dictOf [] k) ∈ news
theorem Po.mono {n n' : List (Addr × Obj)} {a : Addr} {p : Pt} (h : Po n a p) (hs : ∀ x ∈ n, x ∈ n') : Po n' a p := by
  obtain ⟨dx, t, u, k, l, h1, h2⟩ := h
  exact ⟨dx, t, u, k, l, hs _ h1, hs _ h2⟩
theorem Po.pt {h₀ h : Heap} {L a : Addr} {news : List (Addr × Obj)} {p : Pt} (N : News h₀ L h news) (x : Po news a p) : IsPt (.ref 132) h (.ref a) p := by
  obtain ⟨dx, t, u, n, k, hm, _⟩ := x
  exact ⟨a, t, u, rfl, _, (N _ hm).1, rfl, n, rfl⟩
theorem pt_inst {h₀ h : Heap} {L a dx : Addr} {news : List (Addr × Obj)} {p : Pt} {t u : Tok} {n k : Nat} (N : News h₀ L h news) (hm : (a, ptObj dx p t u n) ∈ news) (hd : (dx, dictOf [] k) ∈ news) : InstAt h a (ptObj dx p t u n) 132 (some (dictOf [] k)) :=
  ⟨(N _ hm).1, rfl, rfl, (N _ hd).1⟩
local macro_rules | `(tactic| k_inst) => `(tactic| (refine' pt_inst ?N ?h1 ?h2; (case N => k_asm); (case h1 => k_mem); (case h2 => k_mem)))
theorem set_W4 : True := by
  k_with_none
  k_with "my MEM" => first | ktr_member | with_reducible exact List.mem_cons_self | (with_reducible refine' List.mem_cons_of_mem _ ?_; k_extra "my MEM") | (with_reducible refine' List.mem_append_right _ ?_; k_extra "my MEM") | (with_reducible refine' List.mem_append_left _ ?_; k_extra "my MEM")
  k_with "my CELL" => (refine' code_def ?qcellk1 ?qcellk2 ?qcellk3 ?qcellk4 ?qcellk5 ?qcellkA ?qcellkF ?qcellkK ?qcellk6 ?qcellk7 ?qcellk8 ?qcellk9 ?qcellkB ?_ ?qcellc2 ?qcellc3 ?qcellc4 ?qcellc5; (case qcellkA => exact rfl); (case qcellkF => exact rfl); (case qcellkK => first | assumption | exact rfl); (case qcellk1 => k_asm); (case qcellk2 => k_asm); (case qcellk3 => k_asm); (case qcellk4 => k_asm); (case qcellk5 => k_asm); (case qcellk6 => k_is); (case qcellk7 => k_is); (case qcellk8 => ktr_room); (case qcellk9 => first | exact BindsTo.of_eq rfl | exact binds_K (by k_in) rfl (by k_is) rfl rfl rfl); (case qcellc5 => decide); (case qcellkB => exact locs rfl); (case qcellc2 => exact rfl); (case qcellc3 => exact rfl); (case qcellc4 => exact rfl); k_whole; intro g' L' h' FG' F' N' B' X' T'; (try dsimp only); (try k_lift B'); (try k_fold))
  k_with "my call builtin:issubclass" => (k_here; (with_reducible show wpAny _ _ (call (Value.builtin "issubclass") [Value.ref _, Value.type "tuple"]) _ _ _); k_dflt (refine' issub_call ?q1wk1 ?q1wk2 ?q1wk3 ?_; (case q1wk1 => k_in); (case q1wk2 => k_is); (case q1wk3 => k_is); k_whole))
  k_with "my getMethod type:tuple" => (k_here; (with_reducible refine' method_type ?q2wF ?q2wX ?q2wm ?q2wn ?q2we ?q2wh ?_); (case q2wF => k_asm); (case q2wX => k_asm); (case q2wm => exact meta_tuple); (case q2wn => decide +kernel); (case q2we => k_dflt k_is); (case q2wh => k_handed); k_whole)
  k_with "my call builtin:tuple.__getitem__" => (k_here; (with_reducible show wpAny _ _ (call (Value.builtin "tuple.__getitem__") [Value.ref _, Value.int _ _]) _ _ _); (first | (with_reducible refine' tgi0 ?q3wX ?q3wI ?q3ws ?_) | (with_reducible refine' tgi1 ?q3wX ?q3wI ?q3ws ?_)); k_dflt ((case q3wX => k_in); (case q3wI => k_inst); (case q3ws => k_is)); k_whole)
  k_with "my exec Assign" => (k_fold)
  k_with "my exec If" => (k_fold)
  k_with "my eval BinOp" => (k_fold)
  k_with "my eval Tuple" => (k_fold)
  k_with "my eval Call" => (k_fold)
  k_with "my eval Call Attribute" => (k_fold)
  k_with "my storeName" => (k_here; k_dflt (refine' storeL ?q10wF ?q10wN ?_ ?q10wa ?q10wb; (case q10wF => k_asm); (case q10wN => k_asm); (case q10wa => rfl); (case q10wb => rfl); k_whole; intro m' h' tk' F' N'; (try k_sweep)))
  k_with "my eval Name" => (k_here; k_dflt (refine' nameL ?q11wF ?q11wv ?_ ?q11wok ?q11whl; (case q11wF => k_asm); (case q11whl => rfl); (case q11wok => rfl); (case q11wv => rfl); k_whole))
  k_with "my eval Attribute Name" => (k_here; k_dflt (refine' attrL ?q12wF ?q12wv ?_ ?q12wok ?q12whl; (case q12wF => k_asm); (case q12whl => rfl); (case q12wok => rfl); (case q12wv => rfl); k_whole))
  k_with "my spliced" => (k_here; k_dflt (first
    | ((with_reducible refine' argLL ?q13wF ?q13wv ?q13wu ?_ ?q13wok ?q13woj ?q13whl); (case q13wF => k_asm); (case q13whl => rfl); (case q13wok => rfl); (case q13woj => rfl); (case q13wv => rfl); (case q13wu => rfl); k_whole)
    | ((with_reducible refine' argL1 ?q13wF ?q13wv ?_ ?q13wok ?q13whl); (case q13wF => k_asm); (case q13whl => rfl); (case q13wok => rfl); (case q13wv => rfl); k_whole)
    | ((with_reducible refine' argL ?q13wF ?q13wv ?_ ?q13wok ?q13whl); (case q13wF => k_asm); (case q13whl => rfl); (case q13wok => rfl); (case q13wv => rfl); k_whole)))
  k_with "my eval Call Attribute" => (k_here; k_dflt (refine' methL ?q14wF ?q14wv ?_ ?q14wok ?q14whl ?q14whe; (case q14wF => k_asm); (case q14whl => rfl); (case q14wok => rfl); (case q14wv => rfl); (case q14whe => rfl); k_whole))
  k_with "my isTrue Compare" => (k_here; k_dflt (first
    | ((with_reducible refine' cmpLL ?q15wF ?q15wv ?q15wu ?_ ?q15wok ?q15woj ?q15whl ?q15whm); (case q15wF => k_asm); (case q15whl => rfl); (case q15wok => rfl); (case q15woj => rfl); (case q15whm => with_unfolding_all rfl); (case q15wv => rfl); (case q15wu => rfl); k_whole)
    | ((with_reducible refine' cmpL ?q15wF ?q15wv ?_ ?q15wok ?q15whl ?q15whm); (case q15wF => k_asm); (case q15whl => rfl); (case q15wok => rfl); (case q15whm => with_unfolding_all rfl); (case q15wv => rfl); k_whole)))
  trivial
section
variable {prog : Program} {w : World} {A : Around} {E Q : Value → Shared → Prop} {s : Shared} {K : Frag} {l dx : Addr} {od : Option Obj} {p : Pt} {t u tk : Tok} {n : Nat}
theorem tgi0 (X : K.In s.heap) (I : InstAt s.heap l (ptObj dx p t u n) 132 od) (hs : subIn K (.ref 132) (.type "tuple") = some true) (h : Q (.int p.1 t) s) : wpAny (model prog w) A (call (.builtin "tuple.__getitem__") [.ref l, .int 0 tk]) Q E s :=
  tgi_call (k := 0) X I hs rfl (by decide) (by decide) rfl rfl h
theorem tgi1 (X : K.In s.heap) (I : InstAt s.heap l (ptObj dx p t u n) 132 od) (hs : subIn K (.ref 132) (.type "tuple") = some true) (h : Q (.int p.2 u) s) : wpAny (model prog w) A (call (.builtin "tuple.__getitem__") [.ref l, .int 1 tk]) Q E s :=
  tgi_call (k := 1) X I hs rfl (by decide) (by decide) rfl rfl h
end
theorem getx (w : World) {dp un : Nat} {gd : Option (List Code)} {cn : Str} {cs : Scope} {a : Addr} {ccd : Value} {cl : List (Str × Addr)} {outer : List Env} {A₀ : Around} {base h₀ : Heap} {L : Addr} {m : Str → Option Value}
    {pr : Program} {loose : List Str} {mean : ExcName → Option Value} {mg mb : Str → Option Value} {s : Shared} {Q E : Value → Shared → Prop} {news : List (Addr × Obj)} {pa : Addr} {q : Pt} {ex : Bool}
    (B : Below A₀ base outer h₀) (F : Fr h₀ L s.heap m) (X : (Mine.k0.heap_1_39 w.params).In h₀) (N : News h₀ L s.heap news) (T : Top pr loose mean mg mb h₀) (hcs : cs.kind = .function) (hd : dp + 3 < recursionLimit) (hu : un + 20 < cLine) (hP : Po news pa q)
    (hret : ∀ (t : Tok) (h' : Heap) (tk' : Nat), Fr h₀ L h' m → News h₀ L h' news → Q (.int q.1 t) { s with heap := h', toks := tk' }) :
    wpAny (model PySem.Challenge.rw_ix0019_01.prog w) (ktrTop dp un gd cn cs L a ccd cl outer) (getAttr (.ref pa) (PySem.Str.ofString "x") ex) Q E s := by
  revert X
  k_fill
  intro X
  obtain ⟨dx, t, u, n, k, hm, hdx⟩ := hP
  refine getT_bind (C := 132) (od := some (dictOf [] k)) (Frag.In.keeps X (Fr.keep F)) ⟨(N _ hm).1, rfl, rfl, (N _ hdx).1⟩ (by k_is) (findObj_data1 (by k_is) (by k_is) (by k_is) (by k_is)) (by k_is) (by k_is) ?_
  refine wpAny_call ?_
  k_dflt cell_enter
  k_steps
  exact hret _ _ _ (by k_asm) (by k_asm)
theorem gety (w : World) {dp un : Nat} {gd : Option (List Code)} {cn : Str} {cs : Scope} {a : Addr} {ccd : Value} {cl : List (Str × Addr)} {outer : List Env} {A₀ : Around} {base h₀ : Heap} {L : Addr} {m : Str → Option Value}
    {pr : Program} {loose : List Str} {mean : ExcName → Option Value} {mg mb : Str → Option Value} {s : Shared} {Q E : Value → Shared → Prop} {news : List (Addr × Obj)} {pa : Addr} {q : Pt} {ex : Bool}
    (B : Below A₀ base outer h₀) (F : Fr h₀ L s.heap m) (X : (Mine.k0.heap_1_39 w.params).In h₀) (N : News h₀ L s.heap news) (T : Top pr loose mean mg mb h₀) (hcs : cs.kind = .function) (hd : dp + 3 < recursionLimit) (hu : un + 20 < cLine) (hP : Po news pa q)
    (hret : ∀ (t : Tok) (h' : Heap) (tk' : Nat), Fr h₀ L h' m → News h₀ L h' news → Q (.int q.2 t) { s with heap := h', toks := tk' }) :
    wpAny (model PySem.Challenge.rw_ix0019_01.prog w) (ktrTop dp un gd cn cs L a ccd cl outer) (getAttr (.ref pa) (PySem.Str.ofString "y") ex) Q E s := by
  revert X
  k_fill
  intro X
  obtain ⟨dx, t, u, n, k, hm, hdx⟩ := hP
  refine getT_bind (C := 132) (od := some (dictOf [] k)) (Frag.In.keeps X (Fr.keep F)) ⟨(N _ hm).1, rfl, rfl, (N _ hdx).1⟩ (by k_is) (findObj_data1 (by k_is) (by k_is) (by k_is) (by k_is)) (by k_is) (by k_is) ?_
  refine wpAny_call ?_
  k_dflt cell_enter
  k_steps
  exact hret _ _ _ (by k_asm) (by k_asm)
end
section
open PySem PySem.W PyProof.Rows PySem.Calls PySem.Spec
set_option Elab.async false
set_option maxRecDepth 100000
set_option maxHeartbeats 2000000
section
variable {prog : Program} {w : World}
theorem best_min {A : Around} {R : Result → Shared → Prop} {I S : Addr} {fp wr : List Addr} {n : Nat} {P : Nat → Value → Prop} {St : Nat → Heap → Prop} {vs : Nat → Value} {bt : Nat → Nat → Bool} {base : Heap}
    (W : Walks prog w A.in1 I fp wr n P St) (hv : ∀ i v, P i v → v = vs i)
    (hc : ∀ i j, i < n → j < n → ∀ (s : Shared) (Q E : Value → Shared → Prop), base.StaysIn s.heap → Q (.bool (bt i j)) s → wpAny (model prog w) A.in1 (richCompare .Lt (vs i) (vs j)) Q E s)
    (hSf : S ∉ fp) (hSb : base.get? S = none) (hwb : ∀ b ∈ wr, base.get? b = none) : ∀ (k j : Nat) (s : Shared) (c : Nat), n - (j + 1) = k → j + 1 ≤ n → St (j + 1) s.heap → base.StaysIn s.heap →
    s.heap.get? S = some { cls := .type "list", dict := none, data := .seq #[vs (argBest bt j), vs (argBest bt j)] c, slots := #[] } →
    (∀ h' tk, base.StaysIn h' → R (.ok (.ret (vs (argBest bt (n - 1))))) { s with heap := h', toks := tk }) →
    codeAny (model prog w) A (.builtin "min.loop" ⟨[.ref I, .none, .ref S], []⟩) R s := by
  have hSw : S ∉ wr := fun h => hSf (W.sub _ h)
  have hname : (toString "min" ++ toString ".loop" : String) = "min.loop" := by decide
  have upd : ∀ {h h' : Heap}, base.StaysIn h → (∀ b o, b ∉ wr → h.get? b = some o → h'.get? b = some o) → base.StaysIn h' := fun {h h'} x y b o e => y b o (fun q => by rw [hwb b q] at e; cases e) (x b o e)
  have updS : ∀ {h : Heap} {f : Obj → Obj}, base.StaysIn h → base.StaysIn (h.update S f) := fun {h f} x b o e => (Heap.get?_update_other _ _ (fun q : S = b => by rw [← q, hSb] at e; cases e)).trans (x b o e)
  intro k
  induction k with
  | zero =>
    intro j s c hk hj hst hb hS hR
    have hin : j + 1 = n := by omega
    refine codeAny_builtin F.entry_min_loop ?_
    rw [Around.under_plainId F.plain_min_loop _]
    show wpAny _ A.in1 (seqItems? (.ref S) >>= _) _ _ s
    refine wpAny_bind (wpAny_seqItems hS rfl ?_)
    show wpAny _ A.in1 (tryCatch (pyNext (.ref I)) _ >>= _) _ _ s
    refine wpAny_bind (wpAny_tryCatch (W.done s _ _ (hin ▸ hst) fun h' tk hk' => ?_))
    have hS' := hk' S _ hSw hS
    have ej : n - 1 = j := by omega
    rw [ej] at hR
    show wpAny _ A.in1 (updateSeq S (fun _ => #[]) >>= _) _ _ _
    exact wpAny_bind (wpAny_updateSeq hS' rfl (wpAny_bind (wpAny_letGo (wpAny_pure (hR _ tk (updS (upd hb hk')))))))
  | succ k ih =>
    intro j s c hk hj hst hb hS hR
    have hlt : j + 1 < n := by omega
    have hle : ∀ q, argBest bt q ≤ q := fun q => by
      induction q with
      | zero => exact Nat.le_refl _
      | succ q ihq => unfold argBest; split <;> omega
    refine codeAny_builtin F.entry_min_loop ?_
    rw [Around.under_plainId F.plain_min_loop _]
    show wpAny _ A.in1 (seqItems? (.ref S) >>= _) _ _ s
    refine wpAny_bind (wpAny_seqItems hS rfl ?_)
    show wpAny _ A.in1 (tryCatch (pyNext (.ref I)) _ >>= _) _ _ s
    refine wpAny_bind (wpAny_tryCatch (W.item (j + 1) s _ _ hlt hst fun v h' tk hP hst' hk' => ?_))
    obtain rfl := hv _ _ hP
    have hS' := hk' S _ hSw hS
    have hb' := upd hb hk'
    show wpAny _ A.in1 (tryCatch (holding [vs (j + 1), vs (j + 1)] (richCompare .Lt (vs (j + 1)) (vs (argBest bt j)) >>= _)) _ >>= _) _ _ _
    refine wpAny_bind (wpAny_tryCatch (wpAny_holding (wpAny_bind (hc (j + 1) (argBest bt j) hlt (by have := hle j; omega) _ _ _ hb' ?_))))
    refine wpAny_bind (wpAny_holding (wpAny_truthy_bool ?_))
    refine wpAny_bind (wpAny_letGo (wpAny_pure ?_))
    cases hq : bt (j + 1) (argBest bt j) with
    | true =>
      simp only [if_true]
      have ea : argBest bt (j + 1) = j + 1 := by simp only [argBest, hq, if_true]
      refine wpAny_bind (wpAny_updateSeq hS' rfl (wpAny_bind (wpAny_letGo ?_)))
      rw [hname]
      refine wpAny_pure ⟨plainId_quiet F.plain_min_loop _, ih (j + 1) _ _ (by omega) hlt (W.frame _ _ _ hst' fun b hbf o e => ?_) (updS hb') (by rw [ea]; exact Heap.get?_update_self _ hS' rfl) fun h'' tk'' hk'' => hR h'' tk'' hk''⟩
      exact (Heap.get?_update_other _ _ (fun h : S = b => hSf (by rw [h]; exact hbf))).trans e
    | false =>
      simp only [Bool.false_eq_true, if_false]
      have ea : argBest bt (j + 1) = argBest bt j := by simp only [argBest, hq, Bool.false_eq_true, if_false]
      refine wpAny_bind (wpAny_letGo ?_)
      rw [hname]
      exact wpAny_pure ⟨plainId_quiet F.plain_min_loop _, ih (j + 1) _ c (by omega) hlt hst' hb' (by rw [ea]; exact hS') fun h'' tk'' hk'' => hR h'' tk'' hk''⟩
theorem best_min_first {A : Around} {R : Result → Shared → Prop} {I S : Addr} {fp wr : List Addr} {n : Nat} {P : Nat → Value → Prop} {St : Nat → Heap → Prop} {vs : Nat → Value} {bt : Nat → Nat → Bool} {base : Heap}
    (W : Walks prog w A.in1 I fp wr n P St) (hv : ∀ i v, P i v → v = vs i)
    (hc : ∀ i j, i < n → j < n → ∀ (s : Shared) (Q E : Value → Shared → Prop), base.StaysIn s.heap → Q (.bool (bt i j)) s → wpAny (model prog w) A.in1 (richCompare .Lt (vs i) (vs j)) Q E s)
    (hSf : S ∉ fp) (hSb : base.get? S = none) (hwb : ∀ b ∈ wr, base.get? b = none) (hn : 0 < n) {s : Shared} {c : Nat} (hst : St 0 s.heap) (hb : base.StaysIn s.heap)
    (hS : s.heap.get? S = some { cls := .type "list", dict := none, data := .seq #[] c, slots := #[] })
    (hR : ∀ h' tk, base.StaysIn h' → R (.ok (.ret (vs (argBest bt (n - 1))))) { s with heap := h', toks := tk }) :
    codeAny (model prog w) A (.builtin "min.loop" ⟨[.ref I, .none, .ref S], []⟩) R s := by
  have hSw : S ∉ wr := fun h => hSf (W.sub _ h)
  have hname : (toString "min" ++ toString ".loop" : String) = "min.loop" := by decide
  have upd : ∀ {h h' : Heap}, base.StaysIn h → (∀ b o, b ∉ wr → h.get? b = some o → h'.get? b = some o) → base.StaysIn h' := fun {h h'} x y b o e => y b o (fun q => by rw [hwb b q] at e; cases e) (x b o e)
  have updS : ∀ {h : Heap} {f : Obj → Obj}, base.StaysIn h → base.StaysIn (h.update S f) := fun {h f} x b o e => (Heap.get?_update_other _ _ (fun q : S = b => by rw [← q, hSb] at e; cases e)).trans (x b o e)
  refine codeAny_builtin F.entry_min_loop ?_
  rw [Around.under_plainId F.plain_min_loop _]
  show wpAny _ A.in1 (seqItems? (.ref S) >>= _) _ _ s
  refine wpAny_bind (wpAny_seqItems hS rfl ?_)
  show wpAny _ A.in1 (tryCatch (pyNext (.ref I)) _ >>= _) _ _ s
  refine wpAny_bind (wpAny_tryCatch (W.item 0 s _ _ hn hst fun v h' tk hP hst' hk' => ?_))
  obtain rfl := hv _ _ hP
  have hS' := hk' S _ hSw hS
  show wpAny _ A.in1 (updateSeq S (fun _ => #[vs 0, vs 0]) >>= _) _ _ _
  refine wpAny_bind (wpAny_updateSeq hS' rfl ?_)
  rw [hname]
  refine wpAny_pure ⟨plainId_quiet F.plain_min_loop _, best_min W hv hc hSf hSb hwb _ 0 _ _ rfl hn (W.frame _ _ _ hst' fun b hbf o e => ?_) (updS (upd hb hk')) (Heap.get?_update_self _ hS' rfl) fun h'' tk'' hk'' => hR h'' tk'' hk''⟩
  exact (Heap.get?_update_other _ _ (fun h : S = b => hSf (by rw [h]; exact hbf))).trans e
theorem args_min2 (a b : Value) : argsOk "min" ⟨[a, b], []⟩ := by unfold argsOk; kernel_rfl
theorem args_min4 (a b c d : Value) : argsOk "min" ⟨[a, b, c, d], []⟩ := by unfold argsOk; kernel_rfl
theorem call_min_of {A : Around} {E Q : Value → Shared → Prop} {s : Shared} {ls : List Value} {bt : Nat → Nat → Bool} {v₁ v₂ : Value} {rest : List Value} (hl : ls = v₁ :: v₂ :: rest) (hz : ls.length < 1000) (ha : argsOk "min" ⟨ls, []⟩) (hh : A.handled = none)
    (hc : ∀ i j, i < ls.length → j < ls.length → ∀ (s' : Shared) (Q E : Value → Shared → Prop), s.heap.StaysIn s'.heap → Q (.bool (bt i j)) s' → wpAny (model prog w) A.in1 (richCompare .Lt (ls.getD i .none) (ls.getD j .none)) Q E s')
    (h : ∀ h' tk, s.heap.StaysIn h' → Q (ls.getD (argBest bt (ls.length - 1)) .none) { s with heap := h', toks := tk }) :
    wpAny (model prog w) A (call (.builtin "min") ls) Q E s := by
  have hname : (toString "min" ++ toString ".loop" : String) = "min.loop" := by decide
  have hT : (s.heap.push { cls := .type "tuple", data := .seq ls.toArray }).IsTuple s.heap.objs.size ls.toArray := ⟨_, Heap.get?_push_size _ rfl, rfl, 0, rfl⟩
  have hsz : (s.heap.push { cls := .type "tuple", data := .seq ls.toArray }).objs.size = s.heap.objs.size + 1 := Heap.size_push ..
  refine call_function_tree F.kind_min F.plain_min F.entry_min ha ?_
  subst hl
  show wpAny _ A.in1 (Builtin.Builtins.bindParams "min" ["key", "default"] 0 ⟨[], []⟩ >>= _) _ _ s
  refine wpAny_bind (wpAny_of_eq (show Builtin.Builtins.bindParams "min" ["key", "default"] 0 ⟨[], []⟩ = pure [none, none] from rfl) ?_)
  show wpAny _ A.in1 (newTuple (v₁ :: v₂ :: rest) >>= _) _ _ s
  refine wpAny_bind (wpAny_newTuple ?_ (by rw [sizeLine_eq]; omega))
  refine wpAny_bind (wpAny_pyIter_tuple hT ?_)
  refine wpAny_bind (wpAny_newObj_type ?_)
  rw [hname]
  have hsz2 : ((s.heap.push { cls := .type "tuple", data := .seq (v₁ :: v₂ :: rest).toArray }).push { cls := .type "tuple_iterator", data := .fields #[.ref s.heap.objs.size, .int 0 0] }).objs.size = s.heap.objs.size + 2 := by rw [Heap.size_push, hsz]
  have hsz3 : (s.heap.push { cls := .type "tuple", data := .seq (v₁ :: v₂ :: rest).toArray }).objs.size = s.heap.objs.size + 1 := hsz
  have hW := Walks.tuple (prog := prog) (w := w) (A := A.in1) hh (s.heap.push { cls := .type "tuple", data := .seq (v₁ :: v₂ :: rest).toArray }).objs.size s.heap.objs.size (by rw [hsz]; exact Nat.ne_of_lt (Nat.lt_succ_self _)) (v₁ :: v₂ :: rest).toArray
  have hn : 0 < (v₁ :: v₂ :: rest).toArray.size := by simp
  have st1 : s.heap.StaysIn (s.heap.push { cls := .type "tuple", data := .seq (v₁ :: v₂ :: rest).toArray }) := fun _ _ e => Heap.get?_push_of_some _ e
  refine wpAny_pure ⟨plainId_quiet F.plain_min_loop _, best_min_first (base := s.heap) (vs := fun i => (v₁ :: v₂ :: rest).getD i .none) (bt := bt) hW (fun i v e => by simp only [List.getElem?_toArray] at e; simp [List.getD, e])
    (fun i j hi hj => hc i j (by simpa using hi) (by simpa using hj)) ?_ (Heap.get?_none_of_le ?_) (fun b hb => Heap.get?_none_of_le ?_) hn ⟨⟨_, Heap.get?_push_of_some _ (Heap.get?_push_size _ rfl), rfl, rfl⟩, (hT.push _).push _⟩
    (fun b o e => Heap.get?_push_of_some _ (Heap.get?_push_of_some _ (st1 b o e))) (Heap.get?_push_size _ rfl) fun h' tk hk => h h' tk hk⟩
  · rw [hsz2]
    intro hm
    rcases List.mem_cons.mp hm with e | hm
    · rw [hsz3] at e; exact absurd e (Nat.ne_of_gt (Nat.lt_succ_self _))
    · have e := List.mem_singleton.mp hm
      exact absurd e (Nat.ne_of_gt (Nat.lt_add_of_pos_right (by decide)))
  · rw [hsz2]; exact Nat.le_add_right _ _
  · obtain rfl := List.mem_singleton.mp hb
    rw [hsz3]; exact Nat.le_succ _
theorem best_max {A : Around} {R : Result → Shared → Prop} {I S : Addr} {fp wr : List Addr} {n : Nat} {P : Nat → Value → Prop} {St : Nat → Heap → Prop} {vs : Nat → Value} {bt : Nat → Nat → Bool} {base : Heap}
    (W : Walks prog w A.in1 I fp wr n P St) (hv : ∀ i v, P i v → v = vs i)
    (hc : ∀ i j, i < n → j < n → ∀ (s : Shared) (Q E : Value → Shared → Prop), base.StaysIn s.heap → Q (.bool (bt i j)) s → wpAny (model prog w) A.in1 (richCompare .Gt (vs i) (vs j)) Q E s)
    (hSf : S ∉ fp) (hSb : base.get? S = none) (hwb : ∀ b ∈ wr, base.get? b = none) : ∀ (k j : Nat) (s : Shared) (c : Nat), n - (j + 1) = k → j + 1 ≤ n → St (j + 1) s.heap → base.StaysIn s.heap →
    s.heap.get? S = some { cls := .type "list", dict := none, data := .seq #[vs (argBest bt j), vs (argBest bt j)] c, slots := #[] } →
    (∀ h' tk, base.StaysIn h' → R (.ok (.ret (vs (argBest bt (n - 1))))) { s with heap := h', toks := tk }) →
    codeAny (model prog w) A (.builtin "max.loop" ⟨[.ref I, .none, .ref S], []⟩) R s := by
  have hSw : S ∉ wr := fun h => hSf (W.sub _ h)
  have hname : (toString "max" ++ toString ".loop" : String) = "max.loop" := by decide
  have upd : ∀ {h h' : Heap}, base.StaysIn h → (∀ b o, b ∉ wr → h.get? b = some o → h'.get? b = some o) → base.StaysIn h' := fun {h h'} x y b o e => y b o (fun q => by rw [hwb b q] at e; cases e) (x b o e)
  have updS : ∀ {h : Heap} {f : Obj → Obj}, base.StaysIn h → base.StaysIn (h.update S f) := fun {h f} x b o e => (Heap.get?_update_other _ _ (fun q : S = b => by rw [← q, hSb] at e; cases e)).trans (x b o e)
  intro k
  induction k with
  | zero =>
    intro j s c hk hj hst hb hS hR
    have hin : j + 1 = n := by omega
    refine codeAny_builtin F.entry_max_loop ?_
    rw [Around.under_plainId F.plain_max_loop _]
    show wpAny _ A.in1 (seqItems? (.ref S) >>= _) _ _ s
    refine wpAny_bind (wpAny_seqItems hS rfl ?_)
    show wpAny _ A.in1 (tryCatch (pyNext (.ref I)) _ >>= _) _ _ s
    refine wpAny_bind (wpAny_tryCatch (W.done s _ _ (hin ▸ hst) fun h' tk hk' => ?_))
    have hS' := hk' S _ hSw hS
    have ej : n - 1 = j := by omega
    rw [ej] at hR
    show wpAny _ A.in1 (updateSeq S (fun _ => #[]) >>= _) _ _ _
    exact wpAny_bind (wpAny_updateSeq hS' rfl (wpAny_bind (wpAny_letGo (wpAny_pure (hR _ tk (updS (upd hb hk')))))))
  | succ k ih =>
    intro j s c hk hj hst hb hS hR
    have hlt : j + 1 < n := by omega
    have hle : ∀ q, argBest bt q ≤ q := fun q => by
      induction q with
      | zero => exact Nat.le_refl _
      | succ q ihq => unfold argBest; split <;> omega
    refine codeAny_builtin F.entry_max_loop ?_
    rw [Around.under_plainId F.plain_max_loop _]
    show wpAny _ A.in1 (seqItems? (.ref S) >>= _) _ _ s
    refine wpAny_bind (wpAny_seqItems hS rfl ?_)
    show wpAny _ A.in1 (tryCatch (pyNext (.ref I)) _ >>= _) _ _ s
    refine wpAny_bind (wpAny_tryCatch (W.item (j + 1) s _ _ hlt hst fun v h' tk hP hst' hk' => ?_))
    obtain rfl := hv _ _ hP
    have hS' := hk' S _ hSw hS
    have hb' := upd hb hk'
    show wpAny _ A.in1 (tryCatch (holding [vs (j + 1), vs (j + 1)] (richCompare .Gt (vs (j + 1)) (vs (argBest bt j)) >>= _)) _ >>= _) _ _ _
    refine wpAny_bind (wpAny_tryCatch (wpAny_holding (wpAny_bind (hc (j + 1) (argBest bt j) hlt (by have := hle j; omega) _ _ _ hb' ?_))))
    refine wpAny_bind (wpAny_holding (wpAny_truthy_bool ?_))
    refine wpAny_bind (wpAny_letGo (wpAny_pure ?_))
    cases hq : bt (j + 1) (argBest bt j) with
    | true =>
      simp only [if_true]
      have ea : argBest bt (j + 1) = j + 1 := by simp only [argBest, hq, if_true]
      refine wpAny_bind (wpAny_updateSeq hS' rfl (wpAny_bind (wpAny_letGo ?_)))
      rw [hname]
      refine wpAny_pure ⟨plainId_quiet F.plain_max_loop _, ih (j + 1) _ _ (by omega) hlt (W.frame _ _ _ hst' fun b hbf o e => ?_) (updS hb') (by rw [ea]; exact Heap.get?_update_self _ hS' rfl) fun h'' tk'' hk'' => hR h'' tk'' hk''⟩
      exact (Heap.get?_update_other _ _ (fun h : S = b => hSf (by rw [h]; exact hbf))).trans e
    | false =>
      simp only [Bool.false_eq_true, if_false]
      have ea : argBest bt (j + 1) = argBest bt j := by simp only [argBest, hq, Bool.false_eq_true, if_false]
      refine wpAny_bind (wpAny_letGo ?_)
      rw [hname]
      exact wpAny_pure ⟨plainId_quiet F.plain_max_loop _, ih (j + 1) _ c (by omega) hlt hst' hb' (by rw [ea]; exact hS') fun h'' tk'' hk'' => hR h'' tk'' hk''⟩
theorem best_max_first {A : Around} {R : Result → Shared → Prop} {I S : Addr} {fp wr : List Addr} {n : Nat} {P : Nat → Value → Prop} {St : Nat → Heap → Prop} {vs : Nat → Value} {bt : Nat → Nat → Bool} {base : Heap}
    (W : Walks prog w A.in1 I fp wr n P St) (hv : ∀ i v, P i v → v = vs i)
    (hc : ∀ i j, i < n → j < n → ∀ (s : Shared) (Q E : Value → Shared → Prop), base.StaysIn s.heap → Q (.bool (bt i j)) s → wpAny (model prog w) A.in1 (richCompare .Gt (vs i) (vs j)) Q E s)
    (hSf : S ∉ fp) (hSb : base.get? S = none) (hwb : ∀ b ∈ wr, base.get? b = none) (hn : 0 < n) {s : Shared} {c : Nat} (hst : St 0 s.heap) (hb : base.StaysIn s.heap)
    (hS : s.heap.get? S = some { cls := .type "list", dict := none, data := .seq #[] c, slots := #[] })
    (hR : ∀ h' tk, base.StaysIn h' → R (.ok (.ret (vs (argBest bt (n - 1))))) { s with heap := h', toks := tk }) :
    codeAny (model prog w) A (.builtin "max.loop" ⟨[.ref I, .none, .ref S], []⟩) R s := by
  have hSw : S ∉ wr := fun h => hSf (W.sub _ h)
  have hname : (toString "max" ++ toString ".loop" : String) = "max.loop" := by decide
  have upd : ∀ {h h' : Heap}, base.StaysIn h → (∀ b o, b ∉ wr → h.get? b = some o → h'.get? b = some o) → base.StaysIn h' := fun {h h'} x y b o e => y b o (fun q => by rw [hwb b q] at e; cases e) (x b o e)
  have updS : ∀ {h : Heap} {f : Obj → Obj}, base.StaysIn h → base.StaysIn (h.update S f) := fun {h f} x b o e => (Heap.get?_update_other _ _ (fun q : S = b => by rw [← q, hSb] at e; cases e)).trans (x b o e)
  refine codeAny_builtin F.entry_max_loop ?_
  rw [Around.under_plainId F.plain_max_loop _]
  show wpAny _ A.in1 (seqItems? (.ref S) >>= _) _ _ s
  refine wpAny_bind (wpAny_seqItems hS rfl ?_)
  show wpAny _ A.in1 (tryCatch (pyNext (.ref I)) _ >>= _) _ _ s
  refine wpAny_bind (wpAny_tryCatch (W.item 0 s _ _ hn hst fun v h' tk hP hst' hk' => ?_))
  obtain rfl := hv _ _ hP
  have hS' := hk' S _ hSw hS
  show wpAny _ A.in1 (updateSeq S (fun _ => #[vs 0, vs 0]) >>= _) _ _ _
  refine wpAny_bind (wpAny_updateSeq hS' rfl ?_)
  rw [hname]
  refine wpAny_pure ⟨plainId_quiet F.plain_max_loop _, best_max W hv hc hSf hSb hwb _ 0 _ _ rfl hn (W.frame _ _ _ hst' fun b hbf o e => ?_) (updS (upd hb hk')) (Heap.get?_update_self _ hS' rfl) fun h'' tk'' hk'' => hR h'' tk'' hk''⟩
  exact (Heap.get?_update_other _ _ (fun h : S = b => hSf (by rw [h]; exact hbf))).trans e
theorem args_max2 (a b : Value) : argsOk "max" ⟨[a, b], []⟩ := by unfold argsOk; kernel_rfl
theorem args_max4 (a b c d : Value) : argsOk "max" ⟨[a, b, c, d], []⟩ := by unfold argsOk; kernel_rfl
theorem call_max_of {A : Around} {E Q : Value → Shared → Prop} {s : Shared} {ls : List Value} {bt : Nat → Nat → Bool} {v₁ v₂ : Value} {rest : List Value} (hl : ls = v₁ :: v₂ :: rest) (hz : ls.length < 1000) (ha : argsOk "max" ⟨ls, []⟩) (hh : A.handled = none)
    (hc : ∀ i j, i < ls.length → j < ls.length → ∀ (s' : Shared) (Q E : Value → Shared → Prop), s.heap.StaysIn s'.heap → Q (.bool (bt i j)) s' → wpAny (model prog w) A.in1 (richCompare .Gt (ls.getD i .none) (ls.getD j .none)) Q E s')
    (h : ∀ h' tk, s.heap.StaysIn h' → Q (ls.getD (argBest bt (ls.length - 1)) .none) { s with heap := h', toks := tk }) :
    wpAny (model prog w) A (call (.builtin "max") ls) Q E s := by
  have hname : (toString "max" ++ toString ".loop" : String) = "max.loop" := by decide
  have hT : (s.heap.push { cls := .type "tuple", data := .seq ls.toArray }).IsTuple s.heap.objs.size ls.toArray := ⟨_, Heap.get?_push_size _ rfl, rfl, 0, rfl⟩
  have hsz : (s.heap.push { cls := .type "tuple", data := .seq ls.toArray }).objs.size = s.heap.objs.size + 1 := Heap.size_push ..
  refine call_function_tree F.kind_max F.plain_max F.entry_max ha ?_
  subst hl
  show wpAny _ A.in1 (Builtin.Builtins.bindParams "max" ["key", "default"] 0 ⟨[], []⟩ >>= _) _ _ s
  refine wpAny_bind (wpAny_of_eq (show Builtin.Builtins.bindParams "max" ["key", "default"] 0 ⟨[], []⟩ = pure [none, none] from rfl) ?_)
  show wpAny _ A.in1 (newTuple (v₁ :: v₂ :: rest) >>= _) _ _ s
  refine wpAny_bind (wpAny_newTuple ?_ (by rw [sizeLine_eq]; omega))
  refine wpAny_bind (wpAny_pyIter_tuple hT ?_)
  refine wpAny_bind (wpAny_newObj_type ?_)
  rw [hname]
  have hsz2 : ((s.heap.push { cls := .type "tuple", data := .seq (v₁ :: v₂ :: rest).toArray }).push { cls := .type "tuple_iterator", data := .fields #[.ref s.heap.objs.size, .int 0 0] }).objs.size = s.heap.objs.size + 2 := by rw [Heap.size_push, hsz]
  have hsz3 : (s.heap.push { cls := .type "tuple", data := .seq (v₁ :: v₂ :: rest).toArray }).objs.size = s.heap.objs.size + 1 := hsz
  have hW := Walks.tuple (prog := prog) (w := w) (A := A.in1) hh (s.heap.push { cls := .type "tuple", data := .seq (v₁ :: v₂ :: rest).toArray }).objs.size s.heap.objs.size (by rw [hsz]; exact Nat.ne_of_lt (Nat.lt_succ_self _)) (v₁ :: v₂ :: rest).toArray
  have hn : 0 < (v₁ :: v₂ :: rest).toArray.size := by simp
  have st1 : s.heap.StaysIn (s.heap.push { cls := .type "tuple", data := .seq (v₁ :: v₂ :: rest).toArray }) := fun _ _ e => Heap.get?_push_of_some _ e
  refine wpAny_pure ⟨plainId_quiet F.plain_max_loop _, best_max_first (base := s.heap) (vs := fun i => (v₁ :: v₂ :: rest).getD i .none) (bt := bt) hW (fun i v e => by simp only [List.getElem?_toArray] at e; simp [List.getD, e])
    (fun i j hi hj => hc i j (by simpa using hi) (by simpa using hj)) ?_ (Heap.get?_none_of_le ?_) (fun b hb => Heap.get?_none_of_le ?_) hn ⟨⟨_, Heap.get?_push_of_some _ (Heap.get?_push_size _ rfl), rfl, rfl⟩, (hT.push _).push _⟩
    (fun b o e => Heap.get?_push_of_some _ (Heap.get?_push_of_some _ (st1 b o e))) (Heap.get?_push_size _ rfl) fun h' tk hk => h h' tk hk⟩
  · rw [hsz2]
    intro hm
    rcases List.mem_cons.mp hm with e | hm
    · rw [hsz3] at e; exact absurd e (Nat.ne_of_gt (Nat.lt_succ_self _))
    · have e := List.mem_singleton.mp hm
      exact absurd e (Nat.ne_of_gt (Nat.lt_add_of_pos_right (by decide)))
  · rw [hsz2]; exact Nat.le_add_right _ _
  · obtain rfl := List.mem_singleton.mp hb
    rw [hsz3]; exact Nat.le_succ _
end
end
section
open PySem PySem.W PyProof.Rows PySem.Calls PySem.Spec
set_option Elab.async false
set_option maxRecDepth 100000
set_option maxHeartbeats 2000000
def kev {α : Type} (f : Nat → Nat → Bool) : KasT α → α
  | .ret a => a
  | .ask i j k => kev f (k (f i j))
theorem kev_wp {α : Type} {f : Nat → Nat → Bool} {cmp : Nat → Nat → (Bool → Shared → Prop) → Shared → Prop} {s : Shared} (ha : ∀ i j (C : Bool → Shared → Prop), C (f i j) s → cmp i j C s) : ∀ (t : KasT α) (Q : α → Shared → Prop), Q (kev f t) s → t.kasWp cmp Q s
  | .ret _, _, h => h
  | .ask i j k, Q, h => ha i j _ (kev_wp ha (k (f i j)) Q h)
section
variable {α : Type} {lt : α → α → Bool}
theorem insL_map {β : Type} (x : β → α) (i : β) : ∀ l : List β, insL lt (x i) (l.map x) = (insL (fun i j => lt (x i) (x j)) i l).map x
  | [] => rfl
  | j :: r => by
    simp only [List.map_cons, insL]
    split
    · rfl
    · rw [insL_map x i r]; rfl
theorem srtL_map {β : Type} (x : β → α) (l : List β) : srtL lt (l.map x) = (srtL (fun i j => lt (x i) (x j)) l).map x := by
  have all : ∀ (l : List β) (acc : List β), (l.map x).foldl (fun acc y => insL lt y acc) (acc.map x) = (l.foldl (fun acc y => insL (fun i j => lt (x i) (x j)) y acc) acc).map x := by
    intro l
    induction l with
    | nil => intro acc; rfl
    | cons i l ih => intro acc; rw [List.map_cons, List.foldl_cons, List.foldl_cons, insL_map, ih]
  exact all l []
def rk (lt : α → α → Bool) (xs : List α) (x : α) : Nat := xs.countP (fun y => lt y x)
theorem rk_lt (irr : ∀ x, lt x x = false) (neg : ∀ x y z, lt x z = true → lt x y = true ∨ lt y z = true) (tr : ∀ x y z, lt x y = true → lt y z = true → lt x z = true) {xs : List α} {x y : α} (hx : x ∈ xs) : lt x y = decide (rk lt xs x < rk lt xs y) := by
  cases h : lt x y with
  | true =>
    refine (decide_eq_true ?_).symm
    unfold rk
    have mono : ∀ z ∈ xs, lt z x = true → lt z y = true := fun z _ hz => tr _ _ _ hz h
    have le := List.countP_mono_left (p := fun z => lt z x) (q := fun z => lt z y) mono
    have ne : xs.countP (fun z => lt z x) ≠ xs.countP (fun z => lt z y) := by
      intro e
      have hsub : ∀ l : List α, (∀ z ∈ l, lt z x = true → lt z y = true) → l.countP (fun z => lt z x) = l.countP (fun z => lt z y) → ∀ z ∈ l, lt z y = true → lt z x = true := by
        intro l
        induction l with
        | nil => intro _ _ z hz; cases hz
        | cons a l ih =>
          intro hm he z hz hzy
          have hm' : ∀ z ∈ l, lt z x = true → lt z y = true := fun z hz => hm z (.tail _ hz)
          have le' := List.countP_mono_left (p := fun z => lt z x) (q := fun z => lt z y) hm'
          simp only [List.countP_cons] at he
          cases hax : lt a x with
          | true =>
            have hay := hm a (.head _) hax
            rw [hax, hay] at he
            simp only [if_true] at he
            rcases List.mem_cons.mp hz with rfl | hz
            · exact hax
            · exact ih hm' (by omega) z hz hzy
          | false =>
            rw [hax] at he
            cases hay : lt a y with
            | true => rw [hay] at he; simp only [if_true, Bool.false_eq_true, if_false] at he; omega
            | false =>
              rw [hay] at he
              rcases List.mem_cons.mp hz with rfl | hz
              · rw [hay] at hzy; cases hzy
              · exact ih hm' (by simpa using he) z hz hzy
      have := hsub xs mono e x hx h
      rw [irr] at this
      cases this
    omega
  | false =>
    refine (decide_eq_false ?_).symm
    unfold rk
    have mono : ∀ z ∈ xs, lt z y = true → lt z x = true := fun z _ hz => (neg z x y hz).elim id fun q => by rw [h] at q; cases q
    have le := List.countP_mono_left (p := fun z => lt z y) (q := fun z => lt z x) mono
    omega
end
def g4 (r0 r1 r2 r3 : Nat) (i : Nat) : Nat := [r0, r1, r2, r3].getD i r0
theorem table4 : ∀ r0 r1 r2 r3 : _root_.Fin 4, (kev (fun i j => decide (g4 r0 r1 r2 r3 i < g4 r0 r1 r2 r3 j)) (kas_sort 4)).toList = srtL (fun i j => decide (g4 r0 r1 r2 r3 i < g4 r0 r1 r2 r3 j)) [0, 1, 2, 3] := by decide +kernel
theorem table2 : ∀ r0 r1 : _root_.Fin 2, (kev (fun i j => decide (g4 r0 r1 r0 r0 i < g4 r0 r1 r0 r0 j)) (kas_sort 2)).toList = srtL (fun i j => decide (g4 r0 r1 r0 r0 i < g4 r0 r1 r0 r0 j)) [0, 1] := by decide +kernel
end
section
open PySem PySem.W PyProof.Rows PySem.Calls PySem.Spec
set_option Elab.async false
set_option maxRecDepth 100000
set_option maxHeartbeats 2000000
structure Ord {α : Type} (lt : α → α → Bool) : Prop where
  irr : ∀ x, lt x x = false
  neg : ∀ x y z, lt x z = true → lt x y = true ∨ lt y z = true
  tr : ∀ x y z, lt x y = true → lt y z = true → lt x z = true
theorem ordP : Ord ltP where
  irr := ltP_irr
  neg := fun x y z h => by
    rw [ltP_iff] at *
    rw [ltP_iff]
    omega
  tr := fun _ _ _ h1 h2 => lt_trans h1 h2
theorem ordS : Ord ltS where
  irr := fun x => by unfold ltS; simp
  neg := fun x y z h => by
    rw [ltS_iff] at *
    rw [ltS_iff]
    rcases tri x.1 y.1 with h1 | h1 | h1
    · exact .inl (.inl h1.1)
    · rcases h with h | ⟨h, h'⟩
      · exact .inr (.inl (h1 ▸ h))
      · rcases ordP.neg x.2 y.2 z.2 h' with q | q
        · exact .inl (.inr ⟨h1, q⟩)
        · exact .inr (.inr ⟨h1 ▸ h, q⟩)
    · rcases h with h | ⟨h, h'⟩
      · exact .inr (.inl (lt_trans h1.1 h))
      · exact .inr (.inl (h ▸ h1.1))
  tr := fun x y z h1 h2 => by
    rw [ltS_iff] at *
    rcases h1 with h1 | ⟨h1, h1'⟩ <;> rcases h2 with h2 | ⟨h2, h2'⟩
    · exact .inl (lt_trans h1 h2)
    · exact .inl (h2 ▸ h1)
    · exact .inl (h1 ▸ h2)
    · exact .inr ⟨h1.trans h2, lt_trans h1' h2'⟩
section
variable {α : Type} {lt : α → α → Bool}
theorem kev4 (O : Ord lt) (x0 x1 x2 x3 : α) :
    (kev (fun i j => lt ([x0, x1, x2, x3].getD i x0) ([x0, x1, x2, x3].getD j x0)) (kas_sort 4)).toList = srtL (fun i j => lt ([x0, x1, x2, x3].getD i x0) ([x0, x1, x2, x3].getD j x0)) [0, 1, 2, 3] := by
  have hm : ∀ i, [x0, x1, x2, x3].getD i x0 ∈ [x0, x1, x2, x3] := fun i => by
    match i with
    | 0 => simp
    | 1 => simp
    | 2 => simp
    | 3 => simp
    | _ + 4 => simp
  have hg : ∀ i, rk lt [x0, x1, x2, x3] ([x0, x1, x2, x3].getD i x0) = g4 (rk lt [x0, x1, x2, x3] x0) (rk lt [x0, x1, x2, x3] x1) (rk lt [x0, x1, x2, x3] x2) (rk lt [x0, x1, x2, x3] x3) i := fun i => by
    match i with
    | 0 => rfl
    | 1 => rfl
    | 2 => rfl
    | 3 => rfl
    | _ + 4 => rfl
  have hf : (fun i j => lt ([x0, x1, x2, x3].getD i x0) ([x0, x1, x2, x3].getD j x0)) = fun i j => decide (g4 (rk lt [x0, x1, x2, x3] x0) (rk lt [x0, x1, x2, x3] x1) (rk lt [x0, x1, x2, x3] x2) (rk lt [x0, x1, x2, x3] x3) i < g4 (rk lt [x0, x1, x2, x3] x0) (rk lt [x0, x1, x2, x3] x1) (rk lt [x0, x1, x2, x3] x2) (rk lt [x0, x1, x2, x3] x3) j) := by
    funext i j
    rw [rk_lt O.irr O.neg O.tr (hm i), hg i, hg j]
  have b : ∀ x ∈ [x0, x1, x2, x3], rk lt [x0, x1, x2, x3] x < 4 := fun x hx => by
    unfold rk
    simp only [List.countP_cons, List.countP_nil]
    simp only [List.mem_cons, List.not_mem_nil, or_false] at hx
    rcases hx with rfl | rfl | rfl | rfl <;> simp only [O.irr, Bool.false_eq_true, if_false] <;> (repeat' split) <;> omega
  have T := table4 ⟨_, b x0 (by simp)⟩ ⟨_, b x1 (by simp)⟩ ⟨_, b x2 (by simp)⟩ ⟨_, b x3 (by simp)⟩
  rw [hf]
  exact T
theorem kev2 (O : Ord lt) (x0 x1 : α) :
    (kev (fun i j => lt ([x0, x1].getD i x0) ([x0, x1].getD j x0)) (kas_sort 2)).toList = srtL (fun i j => lt ([x0, x1].getD i x0) ([x0, x1].getD j x0)) [0, 1] := by
  have hm : ∀ i, [x0, x1].getD i x0 ∈ [x0, x1] := fun i => by
    match i with
    | 0 => simp
    | 1 => simp
    | _ + 2 => simp
  have hg : ∀ i, rk lt [x0, x1] ([x0, x1].getD i x0) = g4 (rk lt [x0, x1] x0) (rk lt [x0, x1] x1) (rk lt [x0, x1] x0) (rk lt [x0, x1] x0) i := fun i => by
    match i with
    | 0 => rfl
    | 1 => rfl
    | 2 => rfl
    | 3 => rfl
    | _ + 4 => rfl
  have hf : (fun i j => lt ([x0, x1].getD i x0) ([x0, x1].getD j x0)) = fun i j => decide (g4 (rk lt [x0, x1] x0) (rk lt [x0, x1] x1) (rk lt [x0, x1] x0) (rk lt [x0, x1] x0) i < g4 (rk lt [x0, x1] x0) (rk lt [x0, x1] x1) (rk lt [x0, x1] x0) (rk lt [x0, x1] x0) j) := by
    funext i j
    rw [rk_lt O.irr O.neg O.tr (hm i), hg i, hg j]
  have b : ∀ x ∈ [x0, x1], rk lt [x0, x1] x < 2 := fun x hx => by
    unfold rk
    simp only [List.countP_cons, List.countP_nil]
    simp only [List.mem_cons, List.not_mem_nil, or_false] at hx
    rcases hx with rfl | rfl <;> simp only [O.irr, Bool.false_eq_true, if_false] <;> (repeat' split) <;> omega
  have T := table2 ⟨_, b x0 (by simp)⟩ ⟨_, b x1 (by simp)⟩
  rw [hf]
  exact T
theorem insL_len (x : α) : ∀ l : List α, (insL lt x l).length = l.length + 1
  | [] => rfl
  | y :: r => by
    unfold insL
    split
    · rfl
    · rw [List.length_cons, insL_len x r, List.length_cons]
theorem insL_mem (x z : α) : ∀ l : List α, z ∈ insL lt x l → z = x ∨ z ∈ l
  | [], h => by
    unfold insL at h
    exact .inl (List.mem_singleton.mp h)
  | y :: r, h => by
    unfold insL at h
    split at h
    · exact (List.mem_cons.mp h).imp id id
    · rcases List.mem_cons.mp h with h | h
      · exact .inr (h ▸ .head _)
      · exact (insL_mem x z r h).imp id (.tail _)
theorem srtL_len (l : List α) : (srtL lt l).length = l.length := by
  have all : ∀ (l acc : List α), (l.foldl (fun acc x => insL lt x acc) acc).length = acc.length + l.length := by
    intro l
    induction l with
    | nil => intro acc; rfl
    | cons x l ih => intro acc; rw [List.foldl_cons, ih, insL_len, List.length_cons]; omega
  have := all l []
  simpa [srtL] using this
theorem srtL_mem (z : α) (l : List α) (h : z ∈ srtL lt l) : z ∈ l := by
  have all : ∀ (l acc : List α), z ∈ l.foldl (fun acc x => insL lt x acc) acc → z ∈ acc ∨ z ∈ l := by
    intro l
    induction l with
    | nil => intro acc h; exact .inl h
    | cons x l ih =>
      intro acc h
      rw [List.foldl_cons] at h
      rcases ih _ h with h | h
      · rcases insL_mem _ _ _ h with h | h
        · exact .inr (h ▸ .head _)
        · exact .inl h
      · exact .inr (.tail _ h)
  exact (all l [] h).elim (fun q => nomatch q) id
theorem list4 {l : List α} (h : l.length = 4) : ∃ a b c d, l = [a, b, c, d] := by
  match l, h with
  | [a, b, c, d], _ => exact ⟨a, b, c, d, rfl⟩
theorem list2 {l : List α} (h : l.length = 2) : ∃ a b, l = [a, b] := by
  match l, h with
  | [a, b], _ => exact ⟨a, b, rfl⟩
end
end
section
open PySem PySem.W PyProof.Rows PySem.Calls PySem.Spec
set_option Elab.async false
set_option maxRecDepth 100000
set_option maxHeartbeats 2000000
def kbd {α : Type} (n : Nat) : KasT α → Bool
  | .ret _ => true
  | .ask i j k => decide (i < n) && decide (j < n) && kbd n (k true) && kbd n (k false)
theorem kbd4 : kbd 4 (kas_sort 4) = true := by decide +kernel
theorem kbd2 : kbd 2 (kas_sort 2) = true := by decide +kernel
theorem kev_wpN {α : Type} {n : Nat} {f : Nat → Nat → Bool} {cmp : Nat → Nat → (Bool → Shared → Prop) → Shared → Prop} {s : Shared} (ha : ∀ i j, i < n → j < n → ∀ (C : Bool → Shared → Prop), C (f i j) s → cmp i j C s) : ∀ (t : KasT α) (Q : α → Shared → Prop), kbd n t = true → Q (kev f t) s → t.kasWp cmp Q s
  | .ret _, _, _, h => h
  | .ask i j k, Q, hb, h => by
    simp only [kbd, Bool.and_eq_true, decide_eq_true_eq] at hb
    refine ha i j hb.1.1.1 hb.1.1.2 _ (kev_wpN ha (k (f i j)) Q ?_ h)
    cases f i j
    · exact hb.2
    · exact hb.1.2
section
variable {prog : Program} {w : World} {A : Around} {E : Value → Shared → Prop} {s : Shared}
theorem csb_open {op : CmpOp} {id : String} {B : Builtin} {a b : Addr} {c : Value} {xs : List Value} {Q : Option Value → Shared → Prop}
    (S : Slot "tuple" (cmpInfo op).2.1 id) (hk : builtinKind id = some .slot) (hsp : splitId id = some ("tuple", (cmpInfo op).2.1.toString)) (en : entryFor table id = some B) (ar : argsOk id ⟨[.ref a, .ref b], []⟩)
    (ta : IsTp s.heap a c xs) (L : Looks (model prog w) s.heap (typeLookup c (cmpInfo op).2.1) (some (.builtin id))) (sub : Looks (model prog w) s.heap (isSubtype c (.type "tuple")) true)
    (hb : wpAny (model prog w) A.in1 (B ⟨[.ref a, .ref b], []⟩) (fun fin s' => ∃ v, fin = .done (.ret v) ∧ v ≠ .notImplemented ∧ Q (some v) s') E s) :
    wpAny (model prog w) A (callSpecialIfBound? (.ref a) (cmpInfo op).2.1 [.ref b]) Q E s := by
  have La := ta.type (M := model prog w)
  simp only [callSpecialIfBound?, bindSpecialIfBound?]
  refine wpAny_holding (wpAny_bind (wpAny_bind (wpAny_bind (La.here (L.here ?_)))))
  simp only [S.bind]
  refine wpAny_bind (wpAny_askSetting (wpAny_ite ?_))
  have fin : wpAny (model prog w) A (call (.builtin id) ([.ref a] ++ [.ref b]) >>= fun v => pure (some v)) Q E s := by
    refine wpAny_bind (wpAny_call (codeAny_call_builtin S.plain en ?_))
    refine check_slot (owner := "tuple") hk hsp (La.andThen sub) ar ?_
    refine wpAny_mono hb (fun fin s' z => ?_) fun _ _ z => z
    obtain ⟨v, rfl, hv, hq⟩ := z
    exact wpAny_pure hq
  split
  · exact wpAny_bind (wpAny_pure (wpAny_pure fin))
  · exact wpAny_tryCatch (wpAny_bind (wpAny_pure (wpAny_pure fin)))
theorem keyLt_pt {u v c : Value} {p q : Pt} {Q : Bool → Shared → Prop} (C : TupCls (model prog w) s.heap c) (tu : IsPt c s.heap u p) (tv : IsPt c s.heap v q) (hu : A.units + 2 < cLine) (h : Q (ltP p q) s) : wpAny (model prog w) A (keyLt' oneType' u v) Q E s := by
  obtain ⟨a, _, _, rfl, ta⟩ := tu
  obtain ⟨b, _, _, rfl, tb⟩ := tv
  rw [keyLt'_oneType, oneLt'_eq]
  simp only [if_true]
  refine wpAny_bind (wpAny_cRoomFor (by omega) ?_)
  refine wpAny_bind (csb_open (op := .Lt) slot_lt (by decide +kernel) (by decide +kernel) entry_lt (args_lt _ _) ta C.lt C.sub ?_)
  refine body_lt (k := 0) (Q := fun v s' => wpAny _ _ _ Q E s') ta tb C.sub (by rw [units_one]; omega) eqb_int eqb_int (fun _ => cmp_lt_int) (fun _ => cmp_lt_int) ?_
  refine wpAny_truthy_bool ?_
  simpa only [ltP, decide_eq_true_eq] using h
theorem keyLt_sg {u v : Value} {p q : Sg} {Q : Bool → Shared → Prop} (tu : IsSg s.heap u p) (tv : IsSg s.heap v q) (hu : A.units + 4 < cLine) (h : Q (ltS p q) s) : wpAny (model prog w) A (keyLt' (tuples' false) u v) Q E s := by
  have C := tupCls_tuple (model prog w) s.heap
  obtain ⟨a, u1, u2, rfl, ta, a1, a2⟩ := tu
  obtain ⟨b, v1, v2, rfl, tb, b1, b2⟩ := tv
  obtain ⟨oa, hoa, _, na, da⟩ := ta
  obtain ⟨ob, hob, _, nb, db⟩ := tb
  refine kat_lt hoa da hob db ?_
  have lt1 : ∀ {x y : Value} {i j : Pt} {Q' : Bool → Shared → Prop}, IsPt (.type "tuple") s.heap x i → IsPt (.type "tuple") s.heap y j → Q' (ltP i j) s → wpAny (model prog w) A (oneLt' false x y) Q' (fun _ _ => False) s := fun {x y i j Q'} hx hy hq =>
    kat_one _ _ (pt_lt (k := 0) C hx hy A _ _ s rfl (by omega) hq)
  refine kat_cons ?_
  refine pt_eqb (k := 0) C a1 b1 A _ _ s rfl (by omega) ?_
  by_cases e1 : p.1 = q.1
  · rw [decide_eq_true e1]
    refine kat_yes (kat_cons (pt_eqb (k := 0) C a2 b2 A _ _ s rfl (by omega) ?_))
    by_cases e2 : p.2 = q.2
    · rw [decide_eq_true e2]
      refine kat_yes (kat_nil ?_)
      have e : ltS p q = false := by unfold ltS; simp [e1, e2]
      rw [e] at h
      exact h
    · rw [decide_eq_false e2]
      refine kat_no (lt1 a2 b2 ?_)
      have e : ltS p q = ltP p.2 q.2 := by unfold ltS; simp [e1, e2]
      rw [← e]; exact h
  · rw [decide_eq_false e1]
    refine kat_no (lt1 a1 b1 ?_)
    have e : ltS p q = ltP p.1 q.1 := by unfold ltS; simp [e1]
    rw [← e]; exact h
variable {h₀ : Heap} {L l : Addr} {m : Str → Option Value} {news : List (Addr × Obj)} {vs : List Value} {Q : Value → Shared → Prop} {f : Nat → Nat → Bool}
theorem sorted_gen (κ : SortKind) (F : Fr h₀ L s.heap m) (N : News h₀ L s.heap news) (hl : s.heap.IsList l vs.toArray) (h2 : 2 ≤ vs.length) (h64 : vs.length < 64) (hb : kbd vs.length (kas_sort vs.length) = true)
    (hk : ∀ h', Fr h₀ L h' m → News h₀ L h' news → ∀ (Q : SortKind → Shared → Prop), Q κ { s with heap := h' } → wpAny (model prog w) A.in1.in1 (keyKind' vs.toArray) Q (fun _ _ => False) { s with heap := h' })
    (ha : ∀ h', Fr h₀ L h' m → News h₀ L h' news → ∀ i j, i < vs.length → j < vs.length → ∀ (C : Bool → Shared → Prop), C (f i j) { s with heap := h' } → wpAny (model prog w) A.in1.in1 (keyLt' κ (vs.getD i Value.none) (vs.getD j Value.none)) C (fun _ _ => False) { s with heap := h' })
    (h : ∀ D c h', Fr h₀ L h' m → News h₀ L h' ((D, listOf (List.toArray ((kev f (kas_sort vs.length)).toList.map fun i => vs.getD i Value.none)) c) :: news) → (∀ q ∈ news, q.1 < D) → Q (.ref D) { s with heap := h' }) :
    wpAny (model prog w) A (call (.builtin "sorted") [.ref l]) Q E s := by
  refine kat_sorted F N hl h2 h64 fun D e1 h' F' N' hlt => ?_
  have N0 : News h₀ L h' news := fun p hp => N' p (.tail _ hp)
  refine hk h' F' N0 _ ?_
  refine kev_wpN (f := f) (n := vs.length) (fun i j hi hj C hC => ha h' F' N0 i j hi hj C hC) _ _ hb ?_
  exact KasFin.intro F' N' (.head fun p hp => Nat.ne_of_lt (hlt p hp)) fun h'' c F'' N'' => h D c h'' F'' N'' hlt
end
end
section
open PySem PySem.W PyProof.Rows PySem.Calls PySem.Spec
set_option Elab.async false
set_option maxRecDepth 100000
set_option maxHeartbeats 2000000
/-- a plain pair of ints; a pair of such pairs; both by the ledger -/
def Pn (news : List (Addr × Obj)) (a : Addr) (p : Pt) : Prop := ∃ (o : Obj) (t u : Tok) (n : Nat), (a, o) ∈ news ∧ o.cls = .type "tuple" ∧ o.data = .seq #[.int p.1 t, .int p.2 u] n
def Sn (news : List (Addr × Obj)) (a : Addr) (s : Sg) : Prop := ∃ (o : Obj) (a1 a2 : Addr) (n : Nat), (a, o) ∈ news ∧ o.cls = .type "tuple" ∧ o.data = .seq #[.ref a1, .ref a2] n ∧ Pn news a1 s.1 ∧ Pn news a2 s.2
section
variable {news news' : List (Addr × Obj)} {a : Addr} {h₀ h : Heap} {L : Addr}
theorem Pn.mono {p : Pt} (x : Pn news a p) (hs : ∀ q ∈ news, q ∈ news') : Pn news' a p := by
  obtain ⟨o, t, u, n, h1, r⟩ := x
  exact ⟨o, t, u, n, hs _ h1, r⟩
theorem Sn.mono {s : Sg} (x : Sn news a s) (hs : ∀ q ∈ news, q ∈ news') : Sn news' a s := by
  obtain ⟨o, a1, a2, n, h1, h2, h3, h4, h5⟩ := x
  exact ⟨o, a1, a2, n, hs _ h1, h2, h3, h4.mono hs, h5.mono hs⟩
theorem Pn.pt {p : Pt} (N : News h₀ L h news) (x : Pn news a p) : IsPt (.type "tuple") h (.ref a) p := by
  obtain ⟨o, t, u, n, h1, h2, h3⟩ := x
  exact ⟨a, t, u, rfl, o, (N _ h1).1, h2, n, h3⟩
theorem Sn.sg {s : Sg} (N : News h₀ L h news) (x : Sn news a s) : IsSg h (.ref a) s := by
  obtain ⟨o, a1, a2, n, h1, h2, h3, h4, h5⟩ := x
  exact ⟨a, .ref a1, .ref a2, rfl, ⟨o, (N _ h1).1, h2, n, h3⟩, h4.pt N, h5.pt N⟩
end
section
variable {prog : Program} {w : World} {A : Around} {E : Value → Shared → Prop} {s : Shared} {h₀ : Heap} {L l : Addr} {m : Str → Option Value} {news : List (Addr × Obj)} {Q : Value → Shared → Prop}
theorem get4 {α β : Type} (P : α → β → Prop) {x0 x1 x2 x3 d : α} {y0 y1 y2 y3 e : β} (h0 : P x0 y0) (h1 : P x1 y1) (h2 : P x2 y2) (h3 : P x3 y3) {i : Nat} (hi : i ∈ [0, 1, 2, 3]) : P ([x0, x1, x2, x3].getD i d) ([y0, y1, y2, y3].getD i e) := by
  simp only [List.mem_cons, List.not_mem_nil, or_false] at hi
  rcases hi with rfl | rfl | rfl | rfl <;> assumption
theorem get2 {α β : Type} (P : α → β → Prop) {x0 x1 d : α} {y0 y1 e : β} (h0 : P x0 y0) (h1 : P x1 y1) {i : Nat} (hi : i ∈ [0, 1]) : P ([x0, x1].getD i d) ([y0, y1].getD i e) := by
  simp only [List.mem_cons, List.not_mem_nil, or_false] at hi
  rcases hi with rfl | rfl <;> assumption
theorem lt4 {i : Nat} (h : i < 4) : i ∈ [0, 1, 2, 3] := by simp only [List.mem_cons, List.not_mem_nil, or_false]; omega
theorem lt2 {i : Nat} (h : i < 2) : i ∈ [0, 1] := by simp only [List.mem_cons, List.not_mem_nil, or_false]; omega
/-- sorted upon four Points -/
theorem sorted4_po {a0 a1 a2 a3 : Addr} {p0 p1 p2 p3 : Pt} (C : ∀ h, (∀ b o, h₀.get? b = some o → h.get? b = some o) → TupCls (model prog w) h (.ref 132)) (F : Fr h₀ L s.heap m) (N : News h₀ L s.heap news) (hl : s.heap.IsList l (List.toArray [.ref a0, .ref a1, .ref a2, .ref a3]))
    (h0 : Po news a0 p0) (h1 : Po news a1 p1) (h2 : Po news a2 p2) (h3 : Po news a3 p3) (hu : A.units + 8 < cLine)
    (h : ∀ D c b0 b1 b2 b3 q0 q1 q2 q3 h', Fr h₀ L h' m → News h₀ L h' ((D, listOf #[.ref b0, .ref b1, .ref b2, .ref b3] c) :: news) → (∀ q ∈ news, q.1 < D) → Po news b0 q0 → Po news b1 q1 → Po news b2 q2 → Po news b3 q3 → srtP [p0, p1, p2, p3] = [q0, q1, q2, q3] → Q (.ref D) { s with heap := h' }) :
    wpAny (model prog w) A (call (.builtin "sorted") [.ref l]) Q E s := by
  have hu' : A.in1.in1.units + 4 < cLine := by rw [units_one, units_one]; omega
  have P : ∀ {i : Nat}, i ∈ [0, 1, 2, 3] → ∃ b, ([.ref a0, .ref a1, .ref a2, .ref a3] : List Value).getD i .none = .ref b ∧ Po news b ([p0, p1, p2, p3].getD i p0) := fun {i} hi =>
    get4 (fun (v : Value) (p : Pt) => ∃ b, v = .ref b ∧ Po news b p) ⟨_, rfl, h0⟩ ⟨_, rfl, h1⟩ ⟨_, rfl, h2⟩ ⟨_, rfl, h3⟩ hi
  have T : ∀ h', News h₀ L h' news → ∀ v ∈ ([.ref a0, .ref a1, .ref a2, .ref a3] : List Value), Looks (model prog w) h' (typeOf v) (.ref 132) := fun h' N' v hv => by
    have one : ∀ {a : Addr} {p : Pt}, Po news a p → Looks (model prog w) h' (typeOf (.ref a)) (.ref 132) := fun {a p} x => by
      obtain ⟨b, _, _, e, t⟩ := x.pt N'
      cases e
      exact t.type
    simp only [List.mem_cons, List.not_mem_nil, or_false] at hv
    rcases hv with rfl | rfl | rfl | rfl
    · exact one h0
    · exact one h1
    · exact one h2
    · exact one h3
  refine sorted_gen (f := fun i j => ltP ([p0, p1, p2, p3].getD i p0) ([p0, p1, p2, p3].getD j p0)) oneType' F N hl (Nat.le_of_ble_eq_true rfl) (Nat.le_of_ble_eq_true rfl) kbd4 (fun h' F' N' Q' hq => ?_) (fun h' F' N' i j hi hj K hK => ?_) fun D c h' F' N' hlt => ?_
  · exact kas_kind (T := .ref 132) (Nat.le_of_ble_eq_true rfl) (T h' N') rfl rfl hq
  · obtain ⟨bi, ei, xi⟩ := P (lt4 hi)
    obtain ⟨bj, ej, xj⟩ := P (lt4 hj)
    rw [ei, ej]
    exact keyLt_pt (s := { s with heap := h' }) (C h' F'.keep) (xi.pt N') (xj.pt N') (by omega) hK
  · show Q _ _
    have e := kev4 ordP p0 p1 p2 p3
    have e' : (List.length ([.ref a0, .ref a1, .ref a2, .ref a3] : List Value)) = 4 := rfl
    rw [e', e] at N'
    have hmap := srtL_map (lt := ltP) (fun i => [p0, p1, p2, p3].getD i p0) [0, 1, 2, 3]
    obtain ⟨i0, i1, i2, i3, ei⟩ := list4 (l := srtL (fun i j => ltP ([p0, p1, p2, p3].getD i p0) ([p0, p1, p2, p3].getD j p0)) [0, 1, 2, 3]) (srtL_len _)
    have hm : ∀ i, i ∈ [i0, i1, i2, i3] → i ∈ [0, 1, 2, 3] := fun i hi => srtL_mem _ _ (by rw [ei]; exact hi)
    rw [ei] at N' hmap
    obtain ⟨b0, f0, x0⟩ := P (hm i0 (by simp))
    obtain ⟨b1, f1, x1⟩ := P (hm i1 (by simp))
    obtain ⟨b2, f2, x2⟩ := P (hm i2 (by simp))
    obtain ⟨b3, f3, x3⟩ := P (hm i3 (by simp))
    simp only [List.map_cons, List.map_nil, f0, f1, f2, f3] at N'
    exact h D c b0 b1 b2 b3 _ _ _ _ h' F' N' hlt x0 x1 x2 x3 hmap
/-- sorted upon 2 pairs of points -/
theorem sorted2_sn {a0 a1 : Addr} {p0 p1 : Sg} (F : Fr h₀ L s.heap m) (N : News h₀ L s.heap news) (hl : s.heap.IsList l (List.toArray [.ref a0, .ref a1]))
    (h0 : Sn news a0 p0) (h1 : Sn news a1 p1) (hu : A.units + 8 < cLine)
    (h : ∀ D c b0 b1 q0 q1 h', Fr h₀ L h' m → News h₀ L h' ((D, listOf #[.ref b0, .ref b1] c) :: news) → (∀ q ∈ news, q.1 < D) → Sn news b0 q0 → Sn news b1 q1 → srtS [p0, p1] = [q0, q1] → Q (.ref D) { s with heap := h' }) :
    wpAny (model prog w) A (call (.builtin "sorted") [.ref l]) Q E s := by
  have hu' : A.in1.in1.units + 5 < cLine := by rw [units_one, units_one]; omega
  have P : ∀ {i : Nat}, i ∈ [0, 1] → ∃ b, ([.ref a0, .ref a1] : List Value).getD i .none = .ref b ∧ Sn news b ([p0, p1].getD i p0) := fun {i} hi =>
    get2 (fun (v : Value) (p : Sg) => ∃ b, v = .ref b ∧ Sn news b p) ⟨_, rfl, h0⟩ ⟨_, rfl, h1⟩ hi
  refine sorted_gen (f := fun i j => ltS ([p0, p1].getD i p0) ([p0, p1].getD j p0)) (tuples' false) F N hl (Nat.le_of_ble_eq_true rfl) (Nat.le_of_ble_eq_true rfl) kbd2 (fun h' F' N' Q' hq => ?_) (fun h' F' N' i j hi hj K hK => ?_) fun D c h' F' N' hlt => ?_
  · have one : ∀ {a : Addr} {p : Sg}, Sn news a p → ∃ f, (∃ a' o xs n, (.ref a : Value) = .ref a' ∧ h'.get? a' = some o ∧ o.cls = .type "tuple" ∧ o.data = .seq xs n ∧ xs[0]? = some f) ∧ Looks (model prog w) h' (typeOf f) (.type "tuple") := fun {a p} x => by
      obtain ⟨o, a1, a2, n, m1, m2, m3, m4, m5⟩ := x
      obtain ⟨_, _, _, e4, t4⟩ := m4.pt N'
      cases e4
      exact ⟨.ref a1, ⟨a, o, _, n, rfl, (N' _ m1).1, m2, m3, rfl⟩, t4.type⟩
    obtain ⟨f0, k0, t0⟩ := one h0
    obtain ⟨f1, k1, t1⟩ := one h1
    exact kat_kind (s := { s with heap := h' }) (vs := [.ref a0, .ref a1]) (fs := [f0, f1]) (T := .type "tuple") ⟨k0, ⟨k1, trivial⟩⟩ (by simp) (fun v hv => by
      simp only [List.mem_cons, List.not_mem_nil, or_false] at hv
      rcases hv with rfl | rfl
      · exact t0
      · exact t1) rfl hq
  · obtain ⟨bi, ei, xi⟩ := P (lt2 hi)
    obtain ⟨bj, ej, xj⟩ := P (lt2 hj)
    rw [ei, ej]
    exact keyLt_sg (s := { s with heap := h' }) (xi.sg N') (xj.sg N') (by omega) hK
  · show Q _ _
    have e := kev2 ordS p0 p1
    have e' : (List.length ([.ref a0, .ref a1] : List Value)) = 2 := rfl
    rw [e', e] at N'
    have hmap := srtL_map (lt := ltS) (fun i => [p0, p1].getD i p0) [0, 1]
    obtain ⟨i0, i1, ei⟩ := list2 (l := srtL (fun i j => ltS ([p0, p1].getD i p0) ([p0, p1].getD j p0)) [0, 1]) (srtL_len _)
    have hm : ∀ i, i ∈ [i0, i1] → i ∈ [0, 1] := fun i hi => srtL_mem _ _ (by rw [ei]; exact hi)
    rw [ei] at N' hmap
    obtain ⟨b0, f0, x0⟩ := P (hm i0 (by simp))
    obtain ⟨b1, f1, x1⟩ := P (hm i1 (by simp))
    simp only [List.map_cons, List.map_nil, f0, f1] at N'
    exact h D c b0 b1 _ _ h' F' N' hlt x0 x1 hmap
/-- sorted upon 4 pairs of points -/
theorem sorted4_sn {a0 a1 a2 a3 : Addr} {p0 p1 p2 p3 : Sg} (F : Fr h₀ L s.heap m) (N : News h₀ L s.heap news) (hl : s.heap.IsList l (List.toArray [.ref a0, .ref a1, .ref a2, .ref a3]))
    (h0 : Sn news a0 p0) (h1 : Sn news a1 p1) (h2 : Sn news a2 p2) (h3 : Sn news a3 p3) (hu : A.units + 8 < cLine)
    (h : ∀ D c b0 b1 b2 b3 q0 q1 q2 q3 h', Fr h₀ L h' m → News h₀ L h' ((D, listOf #[.ref b0, .ref b1, .ref b2, .ref b3] c) :: news) → (∀ q ∈ news, q.1 < D) → Sn news b0 q0 → Sn news b1 q1 → Sn news b2 q2 → Sn news b3 q3 → srtS [p0, p1, p2, p3] = [q0, q1, q2, q3] → Q (.ref D) { s with heap := h' }) :
    wpAny (model prog w) A (call (.builtin "sorted") [.ref l]) Q E s := by
  have hu' : A.in1.in1.units + 5 < cLine := by rw [units_one, units_one]; omega
  have P : ∀ {i : Nat}, i ∈ [0, 1, 2, 3] → ∃ b, ([.ref a0, .ref a1, .ref a2, .ref a3] : List Value).getD i .none = .ref b ∧ Sn news b ([p0, p1, p2, p3].getD i p0) := fun {i} hi =>
    get4 (fun (v : Value) (p : Sg) => ∃ b, v = .ref b ∧ Sn news b p) ⟨_, rfl, h0⟩ ⟨_, rfl, h1⟩ ⟨_, rfl, h2⟩ ⟨_, rfl, h3⟩ hi
  refine sorted_gen (f := fun i j => ltS ([p0, p1, p2, p3].getD i p0) ([p0, p1, p2, p3].getD j p0)) (tuples' false) F N hl (Nat.le_of_ble_eq_true rfl) (Nat.le_of_ble_eq_true rfl) kbd4 (fun h' F' N' Q' hq => ?_) (fun h' F' N' i j hi hj K hK => ?_) fun D c h' F' N' hlt => ?_
  · have one : ∀ {a : Addr} {p : Sg}, Sn news a p → ∃ f, (∃ a' o xs n, (.ref a : Value) = .ref a' ∧ h'.get? a' = some o ∧ o.cls = .type "tuple" ∧ o.data = .seq xs n ∧ xs[0]? = some f) ∧ Looks (model prog w) h' (typeOf f) (.type "tuple") := fun {a p} x => by
      obtain ⟨o, a1, a2, n, m1, m2, m3, m4, m5⟩ := x
      obtain ⟨_, _, _, e4, t4⟩ := m4.pt N'
      cases e4
      exact ⟨.ref a1, ⟨a, o, _, n, rfl, (N' _ m1).1, m2, m3, rfl⟩, t4.type⟩
    obtain ⟨f0, k0, t0⟩ := one h0
    obtain ⟨f1, k1, t1⟩ := one h1
    obtain ⟨f2, k2, t2⟩ := one h2
    obtain ⟨f3, k3, t3⟩ := one h3
    exact kat_kind (s := { s with heap := h' }) (vs := [.ref a0, .ref a1, .ref a2, .ref a3]) (fs := [f0, f1, f2, f3]) (T := .type "tuple") ⟨k0, ⟨k1, ⟨k2, ⟨k3, trivial⟩⟩⟩⟩ (by simp) (fun v hv => by
      simp only [List.mem_cons, List.not_mem_nil, or_false] at hv
      rcases hv with rfl | rfl | rfl | rfl
      · exact t0
      · exact t1
      · exact t2
      · exact t3) rfl hq
  · obtain ⟨bi, ei, xi⟩ := P (lt4 hi)
    obtain ⟨bj, ej, xj⟩ := P (lt4 hj)
    rw [ei, ej]
    exact keyLt_sg (s := { s with heap := h' }) (xi.sg N') (xj.sg N') (by omega) hK
  · show Q _ _
    have e := kev4 ordS p0 p1 p2 p3
    have e' : (List.length ([.ref a0, .ref a1, .ref a2, .ref a3] : List Value)) = 4 := rfl
    rw [e', e] at N'
    have hmap := srtL_map (lt := ltS) (fun i => [p0, p1, p2, p3].getD i p0) [0, 1, 2, 3]
    obtain ⟨i0, i1, i2, i3, ei⟩ := list4 (l := srtL (fun i j => ltS ([p0, p1, p2, p3].getD i p0) ([p0, p1, p2, p3].getD j p0)) [0, 1, 2, 3]) (srtL_len _)
    have hm : ∀ i, i ∈ [i0, i1, i2, i3] → i ∈ [0, 1, 2, 3] := fun i hi => srtL_mem _ _ (by rw [ei]; exact hi)
    rw [ei] at N' hmap
    obtain ⟨b0, f0, x0⟩ := P (hm i0 (by simp))
    obtain ⟨b1, f1, x1⟩ := P (hm i1 (by simp))
    obtain ⟨b2, f2, x2⟩ := P (hm i2 (by simp))
    obtain ⟨b3, f3, x3⟩ := P (hm i3 (by simp))
    simp only [List.map_cons, List.map_nil, f0, f1, f2, f3] at N'
    exact h D c b0 b1 b2 b3 _ _ _ _ h' F' N' hlt x0 x1 x2 x3 hmap
end
end
section
open PySem PySem.W PyProof.Rows PySem.Calls PySem.Spec
set_option Elab.async false
set_option maxRecDepth 100000
set_option maxHeartbeats 2000000
section
variable {prog : Program} {w : World} {A : Around} {E : Value → Shared → Prop} {s : Shared} {h₀ : Heap} {L a : Addr} {m : Str → Option Value} {news : List (Addr × Obj)} {vs : List Value}
theorem list_sort1 {n : Nat} {P : PySem.Fin → Shared → Prop} (F : Fr h₀ L s.heap m) (N : News h₀ L s.heap news) (ho : s.heap.get? a = some (seqObj "list" vs.toArray n)) (haL : a ≠ L) (ha0 : h₀.get? a = none) (hna : ∀ p ∈ news, p.1 ≠ a)
    (h2 : vs.length < 2)
    (h : ∀ c2 h', Fr h₀ L h' m → News h₀ L h' ((a, seqObj "list" vs.toArray c2) :: news) → P (.done (.ret .none)) { s with heap := h' }) :
    wpAny (model prog w) A (Builtin.«list.sort» ⟨[.ref a], []⟩) P E s := by
  have ha : a < s.heap.objs.size := Heap.lt_size ho
  have s1 := Heap.SameBut.update s.heap a (Obj.mapSeq fun _ => (#[] : Array Value))
  obtain ⟨e1, ho1⟩ : ∃ e1, (s.heap.update a (Obj.mapSeq fun _ => (#[] : Array Value))).get? a = some (seqObj "list" #[] e1) := ⟨_, get?_update_seq ho fun _ => #[]⟩
  have F3 : Fr h₀ L (((s.heap.update a (Obj.mapSeq fun _ => (#[] : Array Value))).push (seqObj "tuple" vs.toArray 0)).push (seqObj "list" #[] 0)) m := ((kas_fr F s1 haL ha0).push _).push _
  have N2 : News h₀ L (((s.heap.update a (Obj.mapSeq fun _ => (#[] : Array Value))).push (seqObj "tuple" vs.toArray 0)).push (seqObj "list" #[] 0)) news :=
    (kas_news N s1 hna).grown fun b x e => Heap.get?_push_of_some _ (Heap.get?_push_of_some _ e)
  have na1 : (((s.heap.update a (Obj.mapSeq fun _ => (#[] : Array Value))).push (seqObj "tuple" vs.toArray 0)).push (seqObj "list" #[] 0)).get? a = some (seqObj "list" #[] e1) := Heap.get?_push_of_some _ (Heap.get?_push_of_some _ ho1)
  rw [list_sort_plain]
  refine wpAny_bind (listItems_at ho rfl ?_)
  refine wpAny_bind (listUpdate_at ho rfl ?_ (by rw [List.size_toArray, sizeLine_eq]; omega) (Nat.zero_le _))
  refine wpAny_bind (seqEpoch_at ho1 rfl ?_)
  refine wpAny_bind (wpAny_newTuple ?_ (by show vs.length ≤ _; rw [sizeLine_eq]; omega))
  refine wpAny_bind (wpAny_newList ?_ (Nat.zero_le _))
  refine wpAny_holding ?_
  show wpAny (model prog w) A _ P E { s with heap := ((s.heap.update a (Obj.mapSeq fun _ => (#[] : Array Value))).push (seqObj "tuple" vs.toArray 0)).push (seqObj "list" #[] 0) }
  dsimp only
  have hn2 : vs.toArray.size < 2 := by rw [List.size_toArray]; omega
  rw [if_pos hn2, if_pos hn2]
  refine wpAny_bind (wpAny_pure (wpAny_bind (wpAny_pure ?_)))
  dsimp only
  have e2 : Array.map (fun x => x.snd) (arrOf (SortSt.mk' general' (vs.toArray.zip vs.toArray) #[] 7 none)) = vs.toArray := by
    show Array.map (fun x => x.snd) (vs.toArray.zip vs.toArray) = vs.toArray
    apply Array.toList_inj.mp
    simp [Array.toList_map, List.map_snd_zip]
  rw [e2]
  have s2 := Heap.SameBut.update (((s.heap.update a (Obj.mapSeq fun _ => (#[] : Array Value))).push (seqObj "tuple" vs.toArray 0)).push (seqObj "list" #[] 0)) a (Obj.mapSeq fun _ => vs.toArray)
  obtain ⟨c2, hc2⟩ : ∃ c2, ((((s.heap.update a (Obj.mapSeq fun _ => (#[] : Array Value))).push (seqObj "tuple" vs.toArray 0)).push (seqObj "list" #[] 0)).update a (Obj.mapSeq fun _ => vs.toArray)).get? a = some (seqObj "list" vs.toArray c2) := ⟨_, get?_update_seq na1 fun _ => vs.toArray⟩
  refine wpAny_bind (seqEpoch_at na1 rfl ?_)
  refine wpAny_bind (listUpdate_at na1 rfl ?_ (Nat.zero_le _) (by rw [List.size_toArray, sizeLine_eq]; omega))
  simp only [bne_self_eq_false, Bool.false_eq_true, if_false]
  refine wpAny_pure (h c2 _ (kas_fr F3 s2 haL ha0) fun p hp => ?_)
  rcases List.mem_cons.mp hp with rfl | hp
  · exact ⟨hc2, haL, ha0⟩
  · exact kas_news N2 s2 hna p hp
theorem sorted_short {l : Addr} {Q : Value → Shared → Prop} (F : Fr h₀ L s.heap m) (N : News h₀ L s.heap news) (hl : s.heap.IsList l vs.toArray) (h2 : vs.length < 2)
    (h : ∀ D c h', Fr h₀ L h' m → News h₀ L h' ((D, listOf vs.toArray c) :: news) → (∀ q ∈ news, q.1 < D) → Q (.ref D) { s with heap := h' }) :
    wpAny (model prog w) A (call (.builtin "sorted") [.ref l]) Q E s := by
  refine Calls.call_function_entry kind_sorted plain_sorted entry_sorted (args_sorted1 _) ?_
  unfold Builtin.«sorted»
  refine wpAny_bind (m := checkCount "sorted" 1 1 _) (wpAny_pure ?_)
  refine wpAny_bind (collect_list hl ?_ (by rw [sizeLine_eq]; omega))
  refine wpAny_bind (wpAny_newList ?_ (by rw [sizeLine_eq]; omega))
  have hsz : ((s.heap.push (seqObj "list" #[] 0)).update s.heap.objs.size (Obj.mapSeq (· ++ vs.toArray))).objs.size = s.heap.objs.size + 1 := by
    rw [Heap.size_update, size_push']
  have hoL : (((s.heap.push (seqObj "list" #[] 0)).update s.heap.objs.size (Obj.mapSeq (· ++ vs.toArray))).push (seqObj "list" vs.toArray 0)).get? (s.heap.objs.size + 1) = some (seqObj "list" vs.toArray 0) := by
    rw [← hsz]; exact Heap.get?_push_size _ rfl
  have keep : ∀ b o, s.heap.get? b = some o → (((s.heap.push (seqObj "list" #[] 0)).update s.heap.objs.size (Obj.mapSeq (· ++ vs.toArray))).push (seqObj "list" vs.toArray 0)).get? b = some o := fun b o q => by
    have hlt : b < s.heap.objs.size := Heap.lt_size q
    rw [Heap.get?_push_ne _ _ _ (by rw [hsz]; exact Nat.ne_of_lt (Nat.lt_succ_of_lt hlt)), Heap.get?_update_ne _ _ _ _ (Nat.ne_of_lt hlt), Heap.get?_push_ne _ _ _ (Nat.ne_of_lt hlt)]
    exact q
  have hL : L < s.heap.objs.size := F.ns.lt
  show wpAny _ _ _ _ _ { s with heap := ((s.heap.push (seqObj "list" #[] 0)).update s.heap.objs.size (Obj.mapSeq (· ++ vs.toArray))).push (seqObj "list" vs.toArray 0) }
  rw [hsz]
  refine wpAny_bind (wpAny_holding (wpAny_call_entry slot_list_sort ⟨_, hoL, rfl⟩ entry_list_sort ?body (args_list_sort _)))
  case body =>
    refine list_sort1 (s := { s with heap := ((s.heap.push (seqObj "list" #[] 0)).update s.heap.objs.size (Obj.mapSeq (· ++ vs.toArray))).push (seqObj "list" vs.toArray 0) })
      (F.kept keep) (N.grown keep) hoL (Nat.ne_of_gt (Nat.lt_succ_of_lt hL)) (Heap.get?_none_of_le (Nat.le_trans F.above (Nat.le_succ_of_le (Nat.le_of_lt hL))))
      (fun p hp => Nat.ne_of_lt (Nat.lt_succ_of_lt (Heap.lt_size (N p hp).1))) h2 fun e1 h' F' N' => ?_
    exact ⟨_, rfl, wpAny_pure ⟨_, rfl, h _ _ _ F' N' fun q hq => Nat.lt_succ_of_lt (Heap.lt_size (N q hq).1)⟩⟩
end
end
section
open PySem PySem.W PyProof.Rows PySem.Calls PySem.Spec
set_option Elab.async false
set_option maxRecDepth 100000
set_option maxHeartbeats 2000000
theorem tupCls_po (prog : Program) (w : World) {h : Heap} (X : (Mine.k0.heap_1_39 w.params).In h) : PySem.Challenge.rw_ix0019_01.prog = prog → TupCls (model prog w) h (.ref 132) := by
  revert X
  k_fill
  intro X hp
  exact ⟨looks_findIn X (by k_is), looks_findIn X (by k_is), looks_findIn X (by k_is), looks_findIn X (by k_is), looks_findIn X (by k_is), looks_subIn X (by k_is)⟩
section
variable {w : World} {A : Around} {E Q : Value → Shared → Prop} {s : Shared} {h₀ : Heap} {L a b : Addr} {m : Str → Option Value} {news : List (Addr × Obj)} {p q : Pt}
theorem eq_po (F : Fr h₀ L s.heap m) (X : (Mine.k0.heap_1_39 w.params).In h₀) (N : News h₀ L s.heap news) (hu : A.units + 8 < cLine) (x : Po news a p) (y : Po news b q) (h : Q (.bool (decide (p = q))) s) : wpAny (model PySem.Challenge.rw_ix0019_01.prog w) A (compareOp .Eq (.ref a) (.ref b)) Q E s :=
  pt_eq (k := 0) (tupCls_po _ w (X.keeps F.keep) rfl) (x.pt N) (y.pt N) A E Q s rfl (by omega) h
theorem ne_po (F : Fr h₀ L s.heap m) (X : (Mine.k0.heap_1_39 w.params).In h₀) (N : News h₀ L s.heap news) (hu : A.units + 8 < cLine) (x : Po news a p) (y : Po news b q) (h : Q (.bool (!decide (p = q))) s) : wpAny (model PySem.Challenge.rw_ix0019_01.prog w) A (compareOp .NotEq (.ref a) (.ref b)) Q E s :=
  pt_ne (k := 0) (tupCls_po _ w (X.keeps F.keep) rfl) (x.pt N) (y.pt N) A E Q s rfl (by omega) h
theorem lt_po (F : Fr h₀ L s.heap m) (X : (Mine.k0.heap_1_39 w.params).In h₀) (N : News h₀ L s.heap news) (hu : A.units + 8 < cLine) (x : Po news a p) (y : Po news b q) (h : Q (.bool (ltP p q)) s) : wpAny (model PySem.Challenge.rw_ix0019_01.prog w) A (compareOp .Lt (.ref a) (.ref b)) Q E s :=
  pt_lt (k := 0) (tupCls_po _ w (X.keeps F.keep) rfl) (x.pt N) (y.pt N) A E Q s rfl (by omega) h
theorem le_po (F : Fr h₀ L s.heap m) (X : (Mine.k0.heap_1_39 w.params).In h₀) (N : News h₀ L s.heap news) (hu : A.units + 8 < cLine) (x : Po news a p) (y : Po news b q) (h : Q (.bool (leP p q)) s) : wpAny (model PySem.Challenge.rw_ix0019_01.prog w) A (compareOp .LtE (.ref a) (.ref b)) Q E s :=
  pt_le (k := 0) (tupCls_po _ w (X.keeps F.keep) rfl) (x.pt N) (y.pt N) A E Q s rfl (by omega) h
theorem min2_po (hh : A.handled = none) (F : Fr h₀ L s.heap m) (X : (Mine.k0.heap_1_39 w.params).In h₀) (N : News h₀ L s.heap news) (hu : A.units + 8 < cLine) (x : Po news a p) (y : Po news b q)
    (h : ∀ c h' tk, Fr h₀ L h' m → News h₀ L h' news → Po news c (minP p q) → Q (.ref c) { s with heap := h', toks := tk }) : wpAny (model PySem.Challenge.rw_ix0019_01.prog w) A (call (.builtin "min") [.ref a, .ref b]) Q E s := by
  refine call_min_of (bt := fun i j => ltP ([p, q].getD i p) ([p, q].getD j p)) rfl (by simp) (args_min2 _ _) hh (fun i j hi hj s' Q' E' st hq => ?_) fun h' tk st => ?_
  · have N' := N.grown st
    have pick : ∀ {i : Nat}, i < 2 → ∃ c, ([.ref a, .ref b] : List Value).getD i .none = .ref c ∧ Po news c ([p, q].getD i p) := fun {i} hi => get2 (fun (v : Value) (p : Pt) => ∃ c, v = .ref c ∧ Po news c p) ⟨_, rfl, x⟩ ⟨_, rfl, y⟩ (lt2 hi)
    obtain ⟨c, ec, xc⟩ := pick hi
    obtain ⟨d, ed, xd⟩ := pick hj
    rw [ec, ed]
    exact pt_lt (k := 0) (tupCls_po _ w (X.keeps fun b o e => st b o (F.keep b o e)) rfl) (xc.pt N') (xd.pt N') A.in1 E' Q' s' rfl (by rw [units_one]; omega) hq
  · have hl : ([.ref a, .ref b] : List Value).length - 1 = 1 := rfl
    rw [hl]
    by_cases hq : ltP q p = true
    · have e : argBest (fun i j => ltP ([p, q].getD i p) ([p, q].getD j p)) 1 = 1 := by simp [argBest, hq]
      rw [e]
      exact h b h' tk (F.grownK st) (N.grown st) (by unfold minP; rw [if_pos hq]; exact y)
    · have e : argBest (fun i j => ltP ([p, q].getD i p) ([p, q].getD j p)) 1 = 0 := by simp [argBest, hq]
      rw [e]
      exact h a h' tk (F.grownK st) (N.grown st) (by unfold minP; rw [if_neg hq]; exact x)
theorem max2_po (hh : A.handled = none) (F : Fr h₀ L s.heap m) (X : (Mine.k0.heap_1_39 w.params).In h₀) (N : News h₀ L s.heap news) (hu : A.units + 8 < cLine) (x : Po news a p) (y : Po news b q)
    (h : ∀ c h' tk, Fr h₀ L h' m → News h₀ L h' news → Po news c (maxP p q) → Q (.ref c) { s with heap := h', toks := tk }) : wpAny (model PySem.Challenge.rw_ix0019_01.prog w) A (call (.builtin "max") [.ref a, .ref b]) Q E s := by
  refine call_max_of (bt := fun i j => gtP ([p, q].getD i p) ([p, q].getD j p)) rfl (by simp) (args_max2 _ _) hh (fun i j hi hj s' Q' E' st hq => ?_) fun h' tk st => ?_
  · have N' := N.grown st
    have pick : ∀ {i : Nat}, i < 2 → ∃ c, ([.ref a, .ref b] : List Value).getD i .none = .ref c ∧ Po news c ([p, q].getD i p) := fun {i} hi => get2 (fun (v : Value) (p : Pt) => ∃ c, v = .ref c ∧ Po news c p) ⟨_, rfl, x⟩ ⟨_, rfl, y⟩ (lt2 hi)
    obtain ⟨c, ec, xc⟩ := pick hi
    obtain ⟨d, ed, xd⟩ := pick hj
    rw [ec, ed]
    exact pt_gt (k := 0) (tupCls_po _ w (X.keeps fun b o e => st b o (F.keep b o e)) rfl) (xc.pt N') (xd.pt N') A.in1 E' Q' s' rfl (by rw [units_one]; omega) hq
  · have hl : ([.ref a, .ref b] : List Value).length - 1 = 1 := rfl
    rw [hl]
    by_cases hq : gtP q p = true
    · have e : argBest (fun i j => gtP ([p, q].getD i p) ([p, q].getD j p)) 1 = 1 := by simp [argBest, hq]
      rw [e]
      exact h b h' tk (F.grownK st) (N.grown st) (by unfold maxP; rw [if_pos hq]; exact y)
    · have e : argBest (fun i j => gtP ([p, q].getD i p) ([p, q].getD j p)) 1 = 0 := by simp [argBest, hq]
      rw [e]
      exact h a h' tk (F.grownK st) (N.grown st) (by unfold maxP; rw [if_neg hq]; exact x)
end
end
section
open PySem PySem.W PyProof.Rows PySem.Calls PySem.Spec
set_option Elab.async false
set_option maxRecDepth 100000
set_option maxHeartbeats 4000000
/-- a word's part of an earlier ledger holds of a later one -/
theorem set_W7 : True := by
  k_with_none
  k_with "my MEM" => first | ktr_member | with_reducible exact List.mem_cons_self | (with_reducible refine' List.mem_cons_of_mem _ ?_; k_extra "my MEM") | (with_reducible refine' List.mem_append_right _ ?_; k_extra "my MEM") | (with_reducible refine' List.mem_append_left _ ?_; k_extra "my MEM")
  k_with "my CELL" => (refine' code_def ?qcellk1 ?qcellk2 ?qcellk3 ?qcellk4 ?qcellk5 ?qcellkA ?qcellkF ?qcellkK ?qcellk6 ?qcellk7 ?qcellk8 ?qcellk9 ?qcellkB ?_ ?qcellc2 ?qcellc3 ?qcellc4 ?qcellc5; (case qcellkA => exact rfl); (case qcellkF => exact rfl); (case qcellkK => first | assumption | exact rfl); (case qcellk1 => k_asm); (case qcellk2 => k_asm); (case qcellk3 => k_asm); (case qcellk4 => k_asm); (case qcellk5 => k_asm); (case qcellk6 => k_is); (case qcellk7 => k_is); (case qcellk8 => ktr_room); (case qcellk9 => first | exact BindsTo.of_eq rfl | exact binds_K (by k_in) rfl (by k_is) rfl rfl rfl); (case qcellc5 => decide); (case qcellkB => exact locs rfl); (case qcellc2 => exact rfl); (case qcellc3 => exact rfl); (case qcellc4 => exact rfl); k_whole; intro g' L' h' FG' F' N' B' X' T'; (try dsimp only); (try k_lift B'); (try k_fold))
  k_with "my SUB" => (intro x hx; first | exact hx | (simp only [List.mem_append, List.mem_cons, hx, true_or, or_true]; done) | (simp only [List.mem_append, List.mem_cons] at hx ⊢; simp_all; done))
  k_with "my PO" => first | assumption | exact Po.mono (by assumption) (by k_extra "my SUB")
  k_with "my CTX" => ((case q9B => k_asm); (case q9F => k_asm); (case q9X => k_asm); (case q9N => k_asm); (case q9T => k_asm); (case q9K => first | assumption | exact rfl); (case q9d => ktr_room); (case q9u => ktr_units))
  k_with "my getAttr ref" => (k_here; (with_reducible show wpAny _ _ (getAttr (Value.ref _) (PySem.Str.ofString "x") _) _ _ _); k_dflt (refine' getx _ ?q9B ?q9F ?q9X ?q9N ?q9T ?q9K ?q9d ?q9u ?q19wp ?_; k_extra "my CTX"; (case q19wp => k_extra "my PO"); k_whole; intro t' h' tk' F' N'; (try k_sweep)))
  k_with "my getAttr ref" => (k_here; (with_reducible show wpAny _ _ (getAttr (Value.ref _) (PySem.Str.ofString "y") _) _ _ _); k_dflt (refine' gety _ ?q9B ?q9F ?q9X ?q9N ?q9T ?q9K ?q9d ?q9u ?q20wp ?_; k_extra "my CTX"; (case q20wp => k_extra "my PO"); k_whole; intro t' h' tk' F' N'; (try k_sweep)))
  k_with "my exec Assign" => (k_fold)
  k_with "my exec If" => (k_fold)
  k_with "my eval BinOp" => (k_fold)
  k_with "my eval Tuple" => (k_fold)
  k_with "my eval Call" => (k_fold)
  k_with "my eval Call Attribute" => (k_fold)
  k_with "my storeName" => (k_here; k_dflt (refine' storeL ?q27wF ?q27wN ?_ ?q27wa ?q27wb; (case q27wF => k_asm); (case q27wN => k_asm); (case q27wa => rfl); (case q27wb => rfl); k_whole; intro m' h' tk' F' N'; (try k_sweep)))
  k_with "my eval Name" => (k_here; k_dflt (refine' nameL ?q28wF ?q28wv ?_ ?q28wok ?q28whl; (case q28wF => k_asm); (case q28whl => rfl); (case q28wok => rfl); (case q28wv => rfl); k_whole))
  k_with "my eval Attribute Name" => (k_here; k_dflt (refine' attrL ?q29wF ?q29wv ?_ ?q29wok ?q29whl; (case q29wF => k_asm); (case q29whl => rfl); (case q29wok => rfl); (case q29wv => rfl); k_whole))
  k_with "my spliced" => (k_here; k_dflt (first
    | ((with_reducible refine' argLL ?q30wF ?q30wv ?q30wu ?_ ?q30wok ?q30woj ?q30whl); (case q30wF => k_asm); (case q30whl => rfl); (case q30wok => rfl); (case q30woj => rfl); (case q30wv => rfl); (case q30wu => rfl); k_whole)
    | ((with_reducible refine' argL1 ?q30wF ?q30wv ?_ ?q30wok ?q30whl); (case q30wF => k_asm); (case q30whl => rfl); (case q30wok => rfl); (case q30wv => rfl); k_whole)
    | ((with_reducible refine' argL ?q30wF ?q30wv ?_ ?q30wok ?q30whl); (case q30wF => k_asm); (case q30whl => rfl); (case q30wok => rfl); (case q30wv => rfl); k_whole)))
  k_with "my eval Call Attribute" => (k_here; k_dflt (refine' methL ?q31wF ?q31wv ?_ ?q31wok ?q31whl ?q31whe; (case q31wF => k_asm); (case q31whl => rfl); (case q31wok => rfl); (case q31wv => rfl); (case q31whe => rfl); k_whole))
  k_with "my isTrue Compare" => (k_here; k_dflt (first
    | ((with_reducible refine' cmpLL ?q32wF ?q32wv ?q32wu ?_ ?q32wok ?q32woj ?q32whl ?q32whm); (case q32wF => k_asm); (case q32whl => rfl); (case q32wok => rfl); (case q32woj => rfl); (case q32whm => with_unfolding_all rfl); (case q32wv => rfl); (case q32wu => rfl); k_whole)
    | ((with_reducible refine' cmpL ?q32wF ?q32wv ?_ ?q32wok ?q32whl ?q32whm); (case q32wF => k_asm); (case q32whl => rfl); (case q32wok => rfl); (case q32whm => with_unfolding_all rfl); (case q32wv => rfl); k_whole)))
  trivial
def oriA : Ori → Addr
  | .cw => 165
  | .col => 168
  | .ccw => 171
def Bp (p : Pt) : Prop := Builtin.Int.intBits p.1 ≤ 4194304 ∧ Builtin.Int.intBits p.2 ≤ 4194304
theorem cast_ref {a b : Addr} {Q : Value → Shared → Prop} {s : Shared} (e : a = b) (h : Q (.ref b) s) : Q (.ref a) s := e ▸ h
theorem k_angle (w : World) {dp un : Nat} {gd : Option (List Code)} {cn : Str} {cs : Scope} {a : Addr} {ccd : Value} {cl : List (Str × Addr)} {outer : List Env} {A₀ : Around} {base h₀ : Heap} {L : Addr} {m : Str → Option Value}
    {pr : Program} {loose : List Str} {mean : ExcName → Option Value} {mg mb : Str → Option Value} {s : Shared} {Q E : Value → Shared → Prop} {news : List (Addr × Obj)} {cx av af as : Addr} {v f g : Pt}
    (B : Below A₀ base outer h₀) (F : Fr h₀ L s.heap m) (X : (Mine.k0.heap_1_39 w.params).In h₀) (N : News h₀ L s.heap news) (T : Top pr loose mean mg mb h₀) (hcs : cs.kind = .function) (hd : dp + 5 < recursionLimit) (hu : un + 40 < cLine)
    (hv : Po news av v) (hf : Po news af f) (hg : Po news as g) (bv : Bp v) (bf : Bp f) (bg : Bp g)
    (hret : ∀ (h' : Heap) (tk' : Nat), Fr h₀ L h' m → News h₀ L h' news → Q (.ref (oriA (orient v f g))) { s with heap := h', toks := tk' }) :
    wpAny (model PySem.Challenge.rw_ix0019_01.prog w) (ktrTop dp un gd cn cs L a ccd cl outer) (call (.ref 364) [.ref cx, .ref av, .ref af, .ref as]) Q E s := by
  revert X
  k_fill
  intro X
  obtain ⟨bv1, bv2⟩ := bv
  obtain ⟨bf1, bf2⟩ := bf
  obtain ⟨bg1, bg2⟩ := bg
  refine wpAny_call ?_
  k_dflt cell_enter
  k_steps
  all_goals refine cast_ref ?_ (hret _ _ (by k_asm) (by k_asm))
  all_goals (unfold orient crossO; (try simp only [decide_eq_true_eq, decide_eq_false_iff_not] at *); (repeat' split) <;> first | rfl | (exfalso; omega))
end
section
open PySem PySem.W PyProof.Rows PySem.Calls PySem.Spec
set_option Elab.async false
set_option maxRecDepth 100000
set_option maxHeartbeats 4000000
def relA : Rel → Addr
  | .disjoint => 188
  | .touch => 191
  | .cross => 194
  | .overlap => 197
  | .composite => 200
  | .equal => 203
  | .component => 206
def Cx (news : List (Addr × Obj)) (a : Addr) : Prop := ∃ d k, (a, instObj 381 d) ∈ news ∧ (d, dictOf [] k) ∈ news
def So (news : List (Addr × Obj)) (a : Addr) (A B : Pt) : Prop := ∃ (d : Addr) (h1 : Int) (t1 : Tok) (p1 : Addr) (h2 : Int) (t2 : Tok) (p2 : Addr) (k : Nat), (a, instObj 252 d) ∈ news ∧
  (d, dictOf [⟨h1, .str (PySem.Str.ofString "start") t1, .ref p1⟩, ⟨h2, .str (PySem.Str.ofString "end") t2, .ref p2⟩] k) ∈ news ∧ Po news p1 A ∧ Po news p2 B
theorem Cx.elim {news : List (Addr × Obj)} {a : Addr} {G : Prop} (h : Cx news a) (k : ∀ d k, (a, instObj 381 d) ∈ news → (d, dictOf [] k) ∈ news → G) : G := by
  obtain ⟨d, n, m1, m2⟩ := h
  exact k d n m1 m2
theorem So.elim {news : List (Addr × Obj)} {a : Addr} {A B : Pt} {G : Prop} (h : So news a A B) (k : ∀ (d : Addr) (h1 : Int) (t1 : Tok) (p1 : Addr) (h2 : Int) (t2 : Tok) (p2 : Addr) (k : Nat), (a, instObj 252 d) ∈ news → (d, dictOf [⟨h1, .str (PySem.Str.ofString "start") t1, .ref p1⟩, ⟨h2, .str (PySem.Str.ofString "end") t2, .ref p2⟩] k) ∈ news → Po news p1 A → Po news p2 B → G) : G := by
  obtain ⟨d, u1, t1, p1, u2, t2, p2, n, m1, m2, x1, x2⟩ := h
  exact k d u1 t1 p1 u2 t2 p2 n m1 m2 x1 x2
theorem Cx.mono {n n' : List (Addr × Obj)} {a : Addr} (h : Cx n a) (hs : ∀ x ∈ n, x ∈ n') : Cx n' a := by
  obtain ⟨d, k, h1, h2⟩ := h
  exact ⟨d, k, hs _ h1, hs _ h2⟩
theorem So.mono {n n' : List (Addr × Obj)} {a : Addr} {A B : Pt} (h : So n a A B) (hs : ∀ x ∈ n, x ∈ n') : So n' a A B := by
  obtain ⟨d, h1, t1, p1, h2, t2, p2, k, m1, m2, x, y⟩ := h
  exact ⟨d, h1, t1, p1, h2, t2, p2, k, hs _ m1, hs _ m2, x.mono hs, y.mono hs⟩
section
variable {M : Model} {w : World} {A : Around} {E Q : Value → Shared → Prop} {s : Shared} {h₀ : Heap} {L : Addr} {m : Str → Option Value}
theorem is_ori {o o' : Ori} (F : Fr h₀ L s.heap m) (X : (Mine.k0.heap_1_39 w.params).In h₀) (h : Q (.bool (decide (o = o'))) s) : wpAny M A (compareOp .Is (.ref (oriA o)) (.ref (oriA o'))) Q E s := by
  revert X
  have hrw : PySem.Challenge.rw_ix0019_01.prog = PySem.Challenge.rw_ix0019_01.prog := rfl
  revert hrw
  k_fill
  intro _
  intro X0
  have X := X0.keeps F.keep
  have ne : ∀ {a b : Addr} {oa ob : Obj}, a ≠ b → (Mine.k0.heap_1_39 w.params).lookup a = some oa → (Mine.k0.heap_1_39 w.params).lookup b = some ob → oa.cls ≠ .type "tuple" → Q (.bool false) s → wpAny M A (compareOp .Is (.ref a) (.ref b)) Q E s := fun {a b oa ob} e x y z q => wpAny_is_ref_other e (X _ _ x) (X _ _ y) z q
  cases o <;> cases o' <;> first | exact wpAny_is_ref_self h | exact ne (by decide) (by k_is) (by k_is) (by intro e; cases e) h
theorem isnot_ori {o o' : Ori} (F : Fr h₀ L s.heap m) (X : (Mine.k0.heap_1_39 w.params).In h₀) (h : Q (.bool (!decide (o = o'))) s) : wpAny M A (compareOp .IsNot (.ref (oriA o)) (.ref (oriA o'))) Q E s := by
  revert X
  have hrw : PySem.Challenge.rw_ix0019_01.prog = PySem.Challenge.rw_ix0019_01.prog := rfl
  revert hrw
  k_fill
  intro _
  intro X0
  have X := X0.keeps F.keep
  have ne : ∀ {a b : Addr} {oa ob : Obj}, a ≠ b → (Mine.k0.heap_1_39 w.params).lookup a = some oa → (Mine.k0.heap_1_39 w.params).lookup b = some ob → oa.cls ≠ .type "tuple" → Q (.bool true) s → wpAny M A (compareOp .IsNot (.ref a) (.ref b)) Q E s := fun {a b oa ob} e x y z q => wpAny_isNot_ref_other e (X _ _ x) (X _ _ y) z q
  cases o <;> cases o' <;> first | exact wpAny_isNot_ref_self h | exact ne (by decide) (by k_is) (by k_is) (by intro e; cases e) h
theorem is_rel {o o' : Rel} (F : Fr h₀ L s.heap m) (X : (Mine.k0.heap_1_39 w.params).In h₀) (h : Q (.bool (decide (o = o'))) s) : wpAny M A (compareOp .Is (.ref (relA o)) (.ref (relA o'))) Q E s := by
  revert X
  have hrw : PySem.Challenge.rw_ix0019_01.prog = PySem.Challenge.rw_ix0019_01.prog := rfl
  revert hrw
  k_fill
  intro _
  intro X0
  have X := X0.keeps F.keep
  have ne : ∀ {a b : Addr} {oa ob : Obj}, a ≠ b → (Mine.k0.heap_1_39 w.params).lookup a = some oa → (Mine.k0.heap_1_39 w.params).lookup b = some ob → oa.cls ≠ .type "tuple" → Q (.bool false) s → wpAny M A (compareOp .Is (.ref a) (.ref b)) Q E s := fun {a b oa ob} e x y z q => wpAny_is_ref_other e (X _ _ x) (X _ _ y) z q
  cases o <;> cases o' <;> first | exact wpAny_is_ref_self h | exact ne (by decide) (by k_is) (by k_is) (by intro e; cases e) h
theorem is_ori_col {o : Ori} (F : Fr h₀ L s.heap m) (X : (Mine.k0.heap_1_39 w.params).In h₀) (h : Q (.bool (decide (o = .col))) s) : wpAny M A (compareOp .Is (.ref (oriA o)) (.ref 168)) Q E s := is_ori (o' := .col) F X h
theorem isnot_ori_col {o : Ori} (F : Fr h₀ L s.heap m) (X : (Mine.k0.heap_1_39 w.params).In h₀) (h : Q (.bool (!decide (o = .col))) s) : wpAny M A (compareOp .IsNot (.ref (oriA o)) (.ref 168)) Q E s := isnot_ori (o' := .col) F X h
theorem is_rel_disjoint {o : Rel} (F : Fr h₀ L s.heap m) (X : (Mine.k0.heap_1_39 w.params).In h₀) (h : Q (.bool (decide (o = .disjoint))) s) : wpAny M A (compareOp .Is (.ref (relA o)) (.ref 188)) Q E s := is_rel (o' := .disjoint) F X h
theorem is_rel_touch {o : Rel} (F : Fr h₀ L s.heap m) (X : (Mine.k0.heap_1_39 w.params).In h₀) (h : Q (.bool (decide (o = .touch))) s) : wpAny M A (compareOp .Is (.ref (relA o)) (.ref 191)) Q E s := is_rel (o' := .touch) F X h
theorem is_rel_cross {o : Rel} (F : Fr h₀ L s.heap m) (X : (Mine.k0.heap_1_39 w.params).In h₀) (h : Q (.bool (decide (o = .cross))) s) : wpAny M A (compareOp .Is (.ref (relA o)) (.ref 194)) Q E s := is_rel (o' := .cross) F X h
theorem is_rel_overlap {o : Rel} (F : Fr h₀ L s.heap m) (X : (Mine.k0.heap_1_39 w.params).In h₀) (h : Q (.bool (decide (o = .overlap))) s) : wpAny M A (compareOp .Is (.ref (relA o)) (.ref 197)) Q E s := is_rel (o' := .overlap) F X h
theorem is_rel_composite {o : Rel} (F : Fr h₀ L s.heap m) (X : (Mine.k0.heap_1_39 w.params).In h₀) (h : Q (.bool (decide (o = .composite))) s) : wpAny M A (compareOp .Is (.ref (relA o)) (.ref 200)) Q E s := is_rel (o' := .composite) F X h
theorem is_rel_equal {o : Rel} (F : Fr h₀ L s.heap m) (X : (Mine.k0.heap_1_39 w.params).In h₀) (h : Q (.bool (decide (o = .equal))) s) : wpAny M A (compareOp .Is (.ref (relA o)) (.ref 203)) Q E s := is_rel (o' := .equal) F X h
theorem is_rel_component {o : Rel} (F : Fr h₀ L s.heap m) (X : (Mine.k0.heap_1_39 w.params).In h₀) (h : Q (.bool (decide (o = .component))) s) : wpAny M A (compareOp .Is (.ref (relA o)) (.ref 206)) Q E s := is_rel (o' := .component) F X h
end
end
section
open PySem PySem.W PyProof.Rows PySem.Calls PySem.Spec
set_option Elab.async false
set_option maxRecDepth 100000
set_option maxHeartbeats 8000000
theorem Bp.min {p q : Pt} (hp : Bp p) (hq : Bp q) : Bp (minP p q) := by unfold minP; split <;> assumption
theorem Bp.max {p q : Pt} (hp : Bp p) (hq : Bp q) : Bp (maxP p q) := by unfold maxP; split <;> assumption
/-- a test's end: nothing made, its truth known -/
structure CutB (h₀ : Heap) (L : Addr) (m : Str → Option Value) (news : List (Addr × Obj)) (c : Bool) (s : Shared) (ok : Bool) (s' : Shared) : Prop where
  at_ : ∃ (h : Heap) (tk : Nat), s' = { s with heap := h, toks := tk } ∧ Fr h₀ L h m ∧ News h₀ L h news ∧ ok = c
theorem CutB.mk' {h₀ h : Heap} {L : Addr} {m : Str → Option Value} {news : List (Addr × Obj)} {c ok : Bool} {s : Shared} {tk : Nat} (F : Fr h₀ L h m) (N : News h₀ L h news) (e : ok = c) : CutB h₀ L m news c s ok { s with heap := h, toks := tk } := ⟨h, tk, rfl, F, N, e⟩
theorem cut_bool {M : Model} {A : Around} {T : Sem Bool} {E : Value → Shared → Prop} {Q : Bool → Shared → Prop} {s : Shared} {h₀ : Heap} {L : Addr} {m : Str → Option Value} {news : List (Addr × Obj)} (c : Bool) (_F : Fr h₀ L s.heap m) (_N : News h₀ L s.heap news)
    (h1 : wpAny M A T (fun ok s' => CutB h₀ L m news c s ok s') E s) (h2 : ∀ h' tk', Fr h₀ L h' m → News h₀ L h' news → Q c { s with heap := h', toks := tk' }) : wpAny M A T Q E s :=
  wpAny_mono h1 (fun ok s' h => by
    obtain ⟨h', tk, hs, F, N, e⟩ := h
    subst e; subst hs
    exact h2 _ _ F N) fun _ _ e => e
theorem bc_and {x y r : Bool} (h : x = true) (k : r = y) : r = (x && y) := by rw [h, k]; rfl
theorem bc_andf {x y : Bool} (h : x = false) : false = (x && y) := by rw [h]; rfl
theorem bc_or {x y r : Bool} (h : x = false) (k : r = y) : r = (x || y) := by rw [h, k]; rfl
theorem bc_ort {x y : Bool} (h : x = true) : true = (x || y) := by rw [h]; rfl
theorem bv_nf {x : Bool} (h : x = false) : ¬ x = true := by rw [h]; decide
theorem bv_nt {x : Bool} (h : ¬ x = true) : x = false := by cases x; rfl; exact absurd rfl h
/-- the relation as the text's tests make it -/
def relB (s e g h : Pt) (o1 o2 o3 o4 : Ori) : Rel :=
  if (decide (s = g) && decide (e = h)) = true then .equal
  else if (decide (o1 = o2) && (decide (o2 = o3) && (decide (o3 = o4) && decide (o4 = .col)))) = true then
    if (ltP h s || ltP e g) = true then .disjoint
    else if (decide (h = s) || decide (e = g)) = true then .touch
    else if (leP g s && leP e h) = true then .component
    else if (leP s g && leP h e) = true then .composite
    else .overlap
  else if (decide (o1 = o2) || decide (o3 = o4)) = true then .disjoint
  else if (decide (o1 = .col) || (decide (o2 = .col) || (decide (o3 = .col) || decide (o4 = .col)))) = true then .touch
  else .cross
theorem relB_eq (s e g h : Pt) : relC s e g h = relB s e g h (orient g h s) (orient g h e) (orient s e g) (orient s e h) := by
  unfold relC relB
  simp only [Bool.and_eq_true, Bool.or_eq_true, decide_eq_true_eq]
theorem set_W9 : True := by
  k_with_none
  k_with "my MEM" => first | ktr_member | with_reducible exact List.mem_cons_self | (with_reducible refine' List.mem_cons_of_mem _ ?_; k_extra "my MEM") | (with_reducible refine' List.mem_append_right _ ?_; k_extra "my MEM") | (with_reducible refine' List.mem_append_left _ ?_; k_extra "my MEM")
  k_with "my CELL" => (refine' code_def ?qcellk1 ?qcellk2 ?qcellk3 ?qcellk4 ?qcellk5 ?qcellkA ?qcellkF ?qcellkK ?qcellk6 ?qcellk7 ?qcellk8 ?qcellk9 ?qcellkB ?_ ?qcellc2 ?qcellc3 ?qcellc4 ?qcellc5; (case qcellkA => exact rfl); (case qcellkF => exact rfl); (case qcellkK => first | assumption | exact rfl); (case qcellk1 => k_asm); (case qcellk2 => k_asm); (case qcellk3 => k_asm); (case qcellk4 => k_asm); (case qcellk5 => k_asm); (case qcellk6 => k_is); (case qcellk7 => k_is); (case qcellk8 => ktr_room); (case qcellk9 => first | exact BindsTo.of_eq rfl | exact binds_K (by k_in) rfl (by k_is) rfl rfl rfl); (case qcellc5 => decide); (case qcellkB => exact locs rfl); (case qcellc2 => exact rfl); (case qcellc3 => exact rfl); (case qcellc4 => exact rfl); k_whole; intro g' L' h' FG' F' N' B' X' T'; (try dsimp only); (try k_lift B'); (try k_fold))
  k_with "my testChain" => first | with_reducible refine test_link ?_ | with_reducible refine test_last ?_ | with_unfolding_all refine test_link ?_ | with_unfolding_all refine test_last ?_
  k_with "my SUB" => (intro x hx; first | exact hx | (simp only [List.mem_append, List.mem_cons, hx, true_or, or_true]; done) | (simp only [List.mem_append, List.mem_cons] at hx ⊢; simp_all; done))
  k_with "my PO" => first | assumption | exact Po.mono (by assumption) (by k_extra "my SUB")
  k_with "my CTX" => ((case q9B => k_asm); (case q9F => k_asm); (case q9X => k_asm); (case q9N => k_asm); (case q9T => k_asm); (case q9K => first | assumption | exact rfl); (case q9d => ktr_room); (case q9u => ktr_units))
  k_with "my getAttr ref" => (k_here; (with_reducible show wpAny _ _ (getAttr (Value.ref _) (PySem.Str.ofString "x") _) _ _ _); k_dflt (refine' getx _ ?q9B ?q9F ?q9X ?q9N ?q9T ?q9K ?q9d ?q9u ?q37wp ?_; k_extra "my CTX"; (case q37wp => k_extra "my PO"); k_whole; intro t' h' tk' F' N'; (try k_sweep)))
  k_with "my getAttr ref" => (k_here; (with_reducible show wpAny _ _ (getAttr (Value.ref _) (PySem.Str.ofString "y") _) _ _ _); k_dflt (refine' gety _ ?q9B ?q9F ?q9X ?q9N ?q9T ?q9K ?q9d ?q9u ?q38wp ?_; k_extra "my CTX"; (case q38wp => k_extra "my PO"); k_whole; intro t' h' tk' F' N'; (try k_sweep)))
  k_with "my call ref" => (k_here; (with_reducible show wpAny _ _ (call (Value.ref 364) [_, _, _, _]) _ _ _); k_dflt (refine' k_angle _ ?q9B ?q9F ?q9X ?q9N ?q9T ?q9K ?q9d ?q9u ?q39wp1 ?q39wp2 ?q39wp3 ?q39wb1 ?q39wb2 ?q39wb3 ?_; k_extra "my CTX"; (case q39wp1 => k_extra "my PO"); (case q39wp2 => k_extra "my PO"); (case q39wp3 => k_extra "my PO"); (case q39wb1 => k_extra "my BP"); (case q39wb2 => k_extra "my BP"); (case q39wb3 => k_extra "my BP"); k_whole; intro h' tk' F' N'; (try k_sweep)))
  k_with "my BP" => first | assumption | exact Bp.min (by assumption) (by assumption) | exact Bp.max (by assumption) (by assumption)
  k_with "my call builtin:min" => (k_here; (with_reducible show wpAny _ _ (call (Value.builtin "min") [Value.ref _, Value.ref _]) _ _ _); k_dflt (refine' min2_po ?q41whh ?q41wF ?q41wX ?q41wN ?q41wu ?q41wp1 ?q41wp2 ?_; (case q41whh => exact rfl); (case q41wF => k_asm); (case q41wX => k_asm); (case q41wN => k_asm); (case q41wu => ktr_units); (case q41wp1 => k_extra "my PO"); (case q41wp2 => k_extra "my PO"); k_whole; intro c' h' tk' F' N' P'; (try k_sweep)))
  k_with "my call builtin:max" => (k_here; (with_reducible show wpAny _ _ (call (Value.builtin "max") [Value.ref _, Value.ref _]) _ _ _); k_dflt (refine' max2_po ?q42whh ?q42wF ?q42wX ?q42wN ?q42wu ?q42wp1 ?q42wp2 ?_; (case q42whh => exact rfl); (case q42wF => k_asm); (case q42wX => k_asm); (case q42wN => k_asm); (case q42wu => ktr_units); (case q42wp1 => k_extra "my PO"); (case q42wp2 => k_extra "my PO"); k_whole; intro c' h' tk' F' N' P'; (try k_sweep)))
  k_with "my compareOp Eq ref ref" => (k_here; k_dflt (refine' eq_po ?q43wF ?q43wX ?q43wN ?q43wu ?q43wp1 ?q43wp2 ?_; (case q43wF => k_asm); (case q43wX => k_asm); (case q43wN => k_asm); (case q43wp1 => k_extra "my PO"); (case q43wp2 => k_extra "my PO"); (case q43wu => ktr_units); k_whole))
  k_with "my compareOp NotEq ref ref" => (k_here; k_dflt (refine' ne_po ?q44wF ?q44wX ?q44wN ?q44wu ?q44wp1 ?q44wp2 ?_; (case q44wF => k_asm); (case q44wX => k_asm); (case q44wN => k_asm); (case q44wp1 => k_extra "my PO"); (case q44wp2 => k_extra "my PO"); (case q44wu => ktr_units); k_whole))
  k_with "my compareOp Lt ref ref" => (k_here; k_dflt (refine' lt_po ?q45wF ?q45wX ?q45wN ?q45wu ?q45wp1 ?q45wp2 ?_; (case q45wF => k_asm); (case q45wX => k_asm); (case q45wN => k_asm); (case q45wp1 => k_extra "my PO"); (case q45wp2 => k_extra "my PO"); (case q45wu => ktr_units); k_whole))
  k_with "my compareOp LtE ref ref" => (k_here; k_dflt (refine' le_po ?q46wF ?q46wX ?q46wN ?q46wu ?q46wp1 ?q46wp2 ?_; (case q46wF => k_asm); (case q46wX => k_asm); (case q46wN => k_asm); (case q46wp1 => k_extra "my PO"); (case q46wp2 => k_extra "my PO"); (case q46wu => ktr_units); k_whole))
  k_with "my compareOp Is ref ref" => (k_here; (first | (with_reducible refine' is_ori_col ?q47wF ?q47wX ?_) | (with_reducible refine' is_ori ?q47wF ?q47wX ?_)); (case q47wF => k_asm); (case q47wX => k_asm); k_whole)
  k_with "my BV" => first | with_reducible assumption | (refine decide_eq_true ?_; (with_reducible assumption)) | (refine decide_eq_false ?_; (with_reducible assumption)) | (refine bv_nt ?_; (with_reducible assumption))
  k_with "my BC" => first | (with_reducible rfl) | ((with_reducible refine' bc_ort ?_); (k_extra "my BV")) | ((with_reducible refine' bc_andf ?_); (k_extra "my BV")) | ((with_reducible refine' bc_and ?_ ?_); (k_extra "my BV"); (k_extra "my BC")) | ((with_reducible refine' bc_or ?_ ?_); (k_extra "my BV"); (k_extra "my BC")) | ((with_reducible refine' Eq.symm ?_); (k_extra "my BV"))
  k_with "my CutB" => (plain_pass; refine' CutB.mk' ?q50wF ?q50wN ?q50we; (case q50wF => k_asm); (case q50wN => k_asm); (case q50we => k_extra "my BC"))
  k_with "my isTrue BoolOp" => (k_here; (with_reducible show wpAny _ _ (isTrue (Expr.BoolOp BoolOp.And [Expr.Compare (Expr.Name (Str.ofString "start") _) [CmpOp.Eq] [Expr.Name (Str.ofString "goal_start") _] _, _] _) _ _) _ _ _); (fail_if_success (with_reducible show wpAny _ _ _ (fun ok s' => CutB _ _ _ _ (decide ((minP P1 P2) = (minP P3 P4)) && decide ((maxP P1 P2) = (maxP P3 P4))) _ ok s') _ _)); (refine' cut_bool (decide ((minP P1 P2) = (minP P3 P4)) && decide ((maxP P1 P2) = (maxP P3 P4))) ?q51wF ?q51wN ?_ ?q51wtwo; (case q51wF => k_asm); (case q51wN => k_asm); (case' q51wtwo => intro h' tk' F' N'; (try dsimp only); (try k_sweep))))
  k_with "my isTrue Compare" => (k_here; (with_reducible show wpAny _ _ (isTrue (Expr.Compare (Expr.Name (Str.ofString "first") _) [CmpOp.Is, CmpOp.Is, CmpOp.Is, CmpOp.Is] _ _) _ _) _ _ _); (fail_if_success (with_reducible show wpAny _ _ _ (fun ok s' => CutB _ _ _ _ (decide ((orient (minP P3 P4) (maxP P3 P4) (minP P1 P2)) = (orient (minP P3 P4) (maxP P3 P4) (maxP P1 P2))) && (decide ((orient (minP P3 P4) (maxP P3 P4) (maxP P1 P2)) = (orient (minP P1 P2) (maxP P1 P2) (minP P3 P4))) && (decide ((orient (minP P1 P2) (maxP P1 P2) (minP P3 P4)) = (orient (minP P1 P2) (maxP P1 P2) (maxP P3 P4))) && decide ((orient (minP P1 P2) (maxP P1 P2) (maxP P3 P4)) = Ori.col)))) _ ok s') _ _)); (refine' cut_bool (decide ((orient (minP P3 P4) (maxP P3 P4) (minP P1 P2)) = (orient (minP P3 P4) (maxP P3 P4) (maxP P1 P2))) && (decide ((orient (minP P3 P4) (maxP P3 P4) (maxP P1 P2)) = (orient (minP P1 P2) (maxP P1 P2) (minP P3 P4))) && (decide ((orient (minP P1 P2) (maxP P1 P2) (minP P3 P4)) = (orient (minP P1 P2) (maxP P1 P2) (maxP P3 P4))) && decide ((orient (minP P1 P2) (maxP P1 P2) (maxP P3 P4)) = Ori.col)))) ?q52wF ?q52wN ?_ ?q52wtwo; (case q52wF => k_asm); (case q52wN => k_asm); (case' q52wtwo => intro h' tk' F' N'; (try dsimp only); (try k_sweep))))
  k_with "my isTrue BoolOp" => (k_here; (with_reducible show wpAny _ _ (isTrue (Expr.BoolOp BoolOp.Or [Expr.Compare (Expr.Name (Str.ofString "goal_end") _) [CmpOp.Lt] [Expr.Name (Str.ofString "start") _] _, _] _) _ _) _ _ _); (fail_if_success (with_reducible show wpAny _ _ _ (fun ok s' => CutB _ _ _ _ (ltP (maxP P3 P4) (minP P1 P2) || ltP (maxP P1 P2) (minP P3 P4)) _ ok s') _ _)); (refine' cut_bool (ltP (maxP P3 P4) (minP P1 P2) || ltP (maxP P1 P2) (minP P3 P4)) ?q53wF ?q53wN ?_ ?q53wtwo; (case q53wF => k_asm); (case q53wN => k_asm); (case' q53wtwo => intro h' tk' F' N'; (try dsimp only); (try k_sweep))))
  k_with "my isTrue BoolOp" => (k_here; (with_reducible show wpAny _ _ (isTrue (Expr.BoolOp BoolOp.Or [Expr.Compare (Expr.Name (Str.ofString "goal_end") _) [CmpOp.Eq] [Expr.Name (Str.ofString "start") _] _, _] _) _ _) _ _ _); (fail_if_success (with_reducible show wpAny _ _ _ (fun ok s' => CutB _ _ _ _ (decide ((maxP P3 P4) = (minP P1 P2)) || decide ((maxP P1 P2) = (minP P3 P4))) _ ok s') _ _)); (refine' cut_bool (decide ((maxP P3 P4) = (minP P1 P2)) || decide ((maxP P1 P2) = (minP P3 P4))) ?q54wF ?q54wN ?_ ?q54wtwo; (case q54wF => k_asm); (case q54wN => k_asm); (case' q54wtwo => intro h' tk' F' N'; (try dsimp only); (try k_sweep))))
  k_with "my isTrue BoolOp" => (k_here; (with_reducible show wpAny _ _ (isTrue (Expr.BoolOp BoolOp.And [Expr.Compare (Expr.Name (Str.ofString "goal_start") _) [CmpOp.LtE] [Expr.Name (Str.ofString "start") _] _, _] _) _ _) _ _ _); (fail_if_success (with_reducible show wpAny _ _ _ (fun ok s' => CutB _ _ _ _ (leP (minP P3 P4) (minP P1 P2) && leP (maxP P1 P2) (maxP P3 P4)) _ ok s') _ _)); (refine' cut_bool (leP (minP P3 P4) (minP P1 P2) && leP (maxP P1 P2) (maxP P3 P4)) ?q55wF ?q55wN ?_ ?q55wtwo; (case q55wF => k_asm); (case q55wN => k_asm); (case' q55wtwo => intro h' tk' F' N'; (try dsimp only); (try k_sweep))))
  k_with "my isTrue BoolOp" => (k_here; (with_reducible show wpAny _ _ (isTrue (Expr.BoolOp BoolOp.And [Expr.Compare (Expr.Name (Str.ofString "start") _) [CmpOp.LtE] [Expr.Name (Str.ofString "goal_start") _] _, _] _) _ _) _ _ _); (fail_if_success (with_reducible show wpAny _ _ _ (fun ok s' => CutB _ _ _ _ (leP (minP P1 P2) (minP P3 P4) && leP (maxP P3 P4) (maxP P1 P2)) _ ok s') _ _)); (refine' cut_bool (leP (minP P1 P2) (minP P3 P4) && leP (maxP P3 P4) (maxP P1 P2)) ?q56wF ?q56wN ?_ ?q56wtwo; (case q56wF => k_asm); (case q56wN => k_asm); (case' q56wtwo => intro h' tk' F' N'; (try dsimp only); (try k_sweep))))
  k_with "my isTrue BoolOp" => (k_here; (with_reducible show wpAny _ _ (isTrue (Expr.BoolOp BoolOp.Or [Expr.Compare (Expr.Name (Str.ofString "first") _) [CmpOp.Is] [Expr.Name (Str.ofString "second") _] _, _] _) _ _) _ _ _); (fail_if_success (with_reducible show wpAny _ _ _ (fun ok s' => CutB _ _ _ _ (decide ((orient (minP P3 P4) (maxP P3 P4) (minP P1 P2)) = (orient (minP P3 P4) (maxP P3 P4) (maxP P1 P2))) || decide ((orient (minP P1 P2) (maxP P1 P2) (minP P3 P4)) = (orient (minP P1 P2) (maxP P1 P2) (maxP P3 P4)))) _ ok s') _ _)); (refine' cut_bool (decide ((orient (minP P3 P4) (maxP P3 P4) (minP P1 P2)) = (orient (minP P3 P4) (maxP P3 P4) (maxP P1 P2))) || decide ((orient (minP P1 P2) (maxP P1 P2) (minP P3 P4)) = (orient (minP P1 P2) (maxP P1 P2) (maxP P3 P4)))) ?q57wF ?q57wN ?_ ?q57wtwo; (case q57wF => k_asm); (case q57wN => k_asm); (case' q57wtwo => intro h' tk' F' N'; (try dsimp only); (try k_sweep))))
  k_with "my isTrue BoolOp" => (k_here; (with_reducible show wpAny _ _ (isTrue (Expr.BoolOp BoolOp.Or [_, _, _, _] _) _ _) _ _ _); (fail_if_success (with_reducible show wpAny _ _ _ (fun ok s' => CutB _ _ _ _ (decide ((orient (minP P3 P4) (maxP P3 P4) (minP P1 P2)) = Ori.col) || (decide ((orient (minP P3 P4) (maxP P3 P4) (maxP P1 P2)) = Ori.col) || (decide ((orient (minP P1 P2) (maxP P1 P2) (minP P3 P4)) = Ori.col) || decide ((orient (minP P1 P2) (maxP P1 P2) (maxP P3 P4)) = Ori.col)))) _ ok s') _ _)); (refine' cut_bool (decide ((orient (minP P3 P4) (maxP P3 P4) (minP P1 P2)) = Ori.col) || (decide ((orient (minP P3 P4) (maxP P3 P4) (maxP P1 P2)) = Ori.col) || (decide ((orient (minP P1 P2) (maxP P1 P2) (minP P3 P4)) = Ori.col) || decide ((orient (minP P1 P2) (maxP P1 P2) (maxP P3 P4)) = Ori.col)))) ?q58wF ?q58wN ?_ ?q58wtwo; (case q58wF => k_asm); (case q58wN => k_asm); (case' q58wtwo => intro h' tk' F' N'; (try dsimp only); (try k_sweep))))
  k_with "my exec Assign" => (k_fold)
  k_with "my exec If" => (k_fold)
  k_with "my eval BinOp" => (k_fold)
  k_with "my eval Tuple" => (k_fold)
  k_with "my eval Call" => (k_fold)
  k_with "my eval Call Attribute" => (k_fold)
  k_with "my storeName" => (k_here; k_dflt (refine' storeL ?q65wF ?q65wN ?_ ?q65wa ?q65wb; (case q65wF => k_asm); (case q65wN => k_asm); (case q65wa => rfl); (case q65wb => rfl); k_whole; intro m' h' tk' F' N'; (try k_sweep)))
  k_with "my eval Name" => (k_here; k_dflt (refine' nameL ?q66wF ?q66wv ?_ ?q66wok ?q66whl; (case q66wF => k_asm); (case q66whl => rfl); (case q66wok => rfl); (case q66wv => rfl); k_whole))
  k_with "my eval Attribute Name" => (k_here; k_dflt (refine' attrL ?q67wF ?q67wv ?_ ?q67wok ?q67whl; (case q67wF => k_asm); (case q67whl => rfl); (case q67wok => rfl); (case q67wv => rfl); k_whole))
  k_with "my spliced" => (k_here; k_dflt (first
    | ((with_reducible refine' argLL ?q68wF ?q68wv ?q68wu ?_ ?q68wok ?q68woj ?q68whl); (case q68wF => k_asm); (case q68whl => rfl); (case q68wok => rfl); (case q68woj => rfl); (case q68wv => rfl); (case q68wu => rfl); k_whole)
    | ((with_reducible refine' argL1 ?q68wF ?q68wv ?_ ?q68wok ?q68whl); (case q68wF => k_asm); (case q68whl => rfl); (case q68wok => rfl); (case q68wv => rfl); k_whole)
    | ((with_reducible refine' argL ?q68wF ?q68wv ?_ ?q68wok ?q68whl); (case q68wF => k_asm); (case q68whl => rfl); (case q68wok => rfl); (case q68wv => rfl); k_whole)))
  k_with "my eval Call Attribute" => (k_here; k_dflt (refine' methL ?q69wF ?q69wv ?_ ?q69wok ?q69whl ?q69whe; (case q69wF => k_asm); (case q69whl => rfl); (case q69wok => rfl); (case q69wv => rfl); (case q69whe => rfl); k_whole))
  k_with "my isTrue Compare" => (k_here; k_dflt (first
    | ((with_reducible refine' cmpLL ?q70wF ?q70wv ?q70wu ?_ ?q70wok ?q70woj ?q70whl ?q70whm); (case q70wF => k_asm); (case q70whl => rfl); (case q70wok => rfl); (case q70woj => rfl); (case q70whm => with_unfolding_all rfl); (case q70wv => rfl); (case q70wu => rfl); k_whole)
    | ((with_reducible refine' cmpL ?q70wF ?q70wv ?_ ?q70wok ?q70whl ?q70whm); (case q70wF => k_asm); (case q70whl => rfl); (case q70wok => rfl); (case q70whm => with_unfolding_all rfl); (case q70wv => rfl); k_whole)))
  trivial
theorem k_rel (w : World) {dp un : Nat} {gd : Option (List Code)} {cn : Str} {cs : Scope} {a : Addr} {ccd : Value} {cl : List (Str × Addr)} {outer : List Env} {A₀ : Around} {base h₀ : Heap} {L : Addr} {m : Str → Option Value}
    {pr : Program} {loose : List Str} {mean : ExcName → Option Value} {mg mb : Str → Option Value} {s : Shared} {Q E : Value → Shared → Prop} {news : List (Addr × Obj)} {cx s1 s2 : Addr} {P1 P2 P3 P4 : Pt}
    (B : Below A₀ base outer h₀) (F : Fr h₀ L s.heap m) (X : (Mine.k0.heap_1_39 w.params).In h₀) (N : News h₀ L s.heap news) (T : Top pr loose mean mg mb h₀) (hcs : cs.kind = .function) (hd : dp + 8 < recursionLimit) (hu : un + 60 < cLine)
    (hc : Cx news cx) (h1 : So news s1 P1 P2) (h2 : So news s2 P3 P4) (b1 : Bp P1) (b2 : Bp P2) (b3 : Bp P3) (b4 : Bp P4)
    (hret : ∀ (h' : Heap) (tk' : Nat), Fr h₀ L h' m → News h₀ L h' news → Q (.ref (relA (rel P1 P2 P3 P4))) { s with heap := h', toks := tk' }) :
    wpAny (model PySem.Challenge.rw_ix0019_01.prog w) (ktrTop dp un gd cn cs L a ccd cl outer) (call (.ref 371) [.ref cx, .ref s1, .ref s2]) Q E s := by
  revert X
  k_fill
  intro X
  refine Cx.elim hc ?_; clear hc; intro dc kc mc1 mc2
  refine So.elim h1 ?_; clear h1; intro d1 e1 t1 p1 e2 t2 p2 k1 m1 m2 x1 x2
  refine So.elim h2 ?_; clear h2; intro d2 e3 t3 p3 e4 t4 p4 k2 m3 m4 x3 x4
  refine wpAny_call ?_
  k_dflt cell_enter
  k_steps
  all_goals refine cast_ref ?_ (hret _ _ (by k_asm) (by first | k_asm | exact cb_drop (by k_asm) (by walk_at "SUB")))
  all_goals (show _ = relA (relC _ _ _ _); rw [relB_eq]; unfold relB; (repeat (first | rw [if_pos (by with_reducible assumption)] | rw [if_neg (bv_nf (by with_reducible assumption))])); rfl)
end
section
open PySem PySem.W PyProof.Rows PySem.Calls PySem.Spec
set_option Elab.async false
set_option maxRecDepth 100000
set_option maxHeartbeats 8000000
theorem set_W10 : True := by
  k_with_none
  k_with "my MEM" => first | ktr_member | with_reducible exact List.mem_cons_self | (with_reducible refine' List.mem_cons_of_mem _ ?_; k_extra "my MEM") | (with_reducible refine' List.mem_append_right _ ?_; k_extra "my MEM") | (with_reducible refine' List.mem_append_left _ ?_; k_extra "my MEM")
  k_with "my CELL" => (refine' code_def ?qcellk1 ?qcellk2 ?qcellk3 ?qcellk4 ?qcellk5 ?qcellkA ?qcellkF ?qcellkK ?qcellk6 ?qcellk7 ?qcellk8 ?qcellk9 ?qcellkB ?_ ?qcellc2 ?qcellc3 ?qcellc4 ?qcellc5; (case qcellkA => exact rfl); (case qcellkF => exact rfl); (case qcellkK => first | assumption | exact rfl); (case qcellk1 => k_asm); (case qcellk2 => k_asm); (case qcellk3 => k_asm); (case qcellk4 => k_asm); (case qcellk5 => k_asm); (case qcellk6 => k_is); (case qcellk7 => k_is); (case qcellk8 => ktr_room); (case qcellk9 => first | exact BindsTo.of_eq rfl | exact binds_K (by k_in) rfl (by k_is) rfl rfl rfl); (case qcellc5 => decide); (case qcellkB => exact locs rfl); (case qcellc2 => exact rfl); (case qcellc3 => exact rfl); (case qcellc4 => exact rfl); k_whole; intro g' L' h' FG' F' N' B' X' T'; (try dsimp only); (try k_lift B'); (try k_fold))
  k_with "my call ref" => (k_here; k_dflt (first
    | (refine' call_cls0 ?q71wk1 ?q71wk2 ?q71wk3 ?q71wk4 ?q71wk5 ?_; (case q71wk1 => k_asm); (case q71wk2 => k_asm); (case q71wk3 => k_asm); (case q71wk4 => k_is); (case q71wk5 => k_is); k_whole; intro x' d' h' F' N' l1 l2; (try k_lt l1); (try k_lt2 l2); (try k_sweep))
    | (refine' call_cls ?q71wk1 ?q71wk2 ?q71wk3 ?q71wk4 ?q71wk5 ?q71wk6 ?_; (case q71wk1 => k_asm); (case q71wk2 => k_asm); (case q71wk3 => k_asm); (case q71wk4 => k_is); (case q71wk5 => k_is); (case q71wk6 => k_is); k_whole; intro x' d' h' F' N' l1 l2; (try k_lt l1); (try k_lt2 l2); (try k_sweep); cell_enter)
    | (refine wpAny_call ?_; cell_enter)))
  k_with "my testChain" => first | with_reducible refine test_link ?_ | with_reducible refine test_last ?_ | with_unfolding_all refine test_link ?_ | with_unfolding_all refine test_last ?_
  k_with "my SUB" => (intro x hx; first | exact hx | (simp only [List.mem_append, List.mem_cons, hx, true_or, or_true]; done) | (simp only [List.mem_append, List.mem_cons] at hx ⊢; simp_all; done))
  k_with "my PO" => first | assumption | exact Po.mono (by assumption) (by k_extra "my SUB")
  k_with "my CTX" => ((case q9B => k_asm); (case q9F => k_asm); (case q9X => k_asm); (case q9N => k_asm); (case q9T => k_asm); (case q9K => first | assumption | exact rfl); (case q9d => ktr_room); (case q9u => ktr_units))
  k_with "my getAttr ref" => (k_here; (with_reducible show wpAny _ _ (getAttr (Value.ref _) (PySem.Str.ofString "x") _) _ _ _); k_dflt (refine' getx _ ?q9B ?q9F ?q9X ?q9N ?q9T ?q9K ?q9d ?q9u ?q76wp ?_; k_extra "my CTX"; (case q76wp => k_extra "my PO"); k_whole; intro t' h' tk' F' N'; (try k_sweep)))
  k_with "my getAttr ref" => (k_here; (with_reducible show wpAny _ _ (getAttr (Value.ref _) (PySem.Str.ofString "y") _) _ _ _); k_dflt (refine' gety _ ?q9B ?q9F ?q9X ?q9N ?q9T ?q9K ?q9d ?q9u ?q77wp ?_; k_extra "my CTX"; (case q77wp => k_extra "my PO"); k_whole; intro t' h' tk' F' N'; (try k_sweep)))
  k_with "my call ref" => (k_here; (with_reducible show wpAny _ _ (call (Value.ref 364) [_, _, _, _]) _ _ _); k_dflt (refine' k_angle _ ?q9B ?q9F ?q9X ?q9N ?q9T ?q9K ?q9d ?q9u ?q78wp1 ?q78wp2 ?q78wp3 ?q78wb1 ?q78wb2 ?q78wb3 ?_; k_extra "my CTX"; (case q78wp1 => k_extra "my PO"); (case q78wp2 => k_extra "my PO"); (case q78wp3 => k_extra "my PO"); (case q78wb1 => k_extra "my BP"); (case q78wb2 => k_extra "my BP"); (case q78wb3 => k_extra "my BP"); k_whole; intro h' tk' F' N'; (try k_sweep)))
  k_with "my BP" => first | assumption | exact Bp.min (by assumption) (by assumption) | exact Bp.max (by assumption) (by assumption)
  k_with "my call builtin:min" => (k_here; (with_reducible show wpAny _ _ (call (Value.builtin "min") [Value.ref _, Value.ref _]) _ _ _); k_dflt (refine' min2_po ?q80whh ?q80wF ?q80wX ?q80wN ?q80wu ?q80wp1 ?q80wp2 ?_; (case q80whh => exact rfl); (case q80wF => k_asm); (case q80wX => k_asm); (case q80wN => k_asm); (case q80wu => ktr_units); (case q80wp1 => k_extra "my PO"); (case q80wp2 => k_extra "my PO"); k_whole; intro c' h' tk' F' N' P'; (try k_sweep)))
  k_with "my call builtin:max" => (k_here; (with_reducible show wpAny _ _ (call (Value.builtin "max") [Value.ref _, Value.ref _]) _ _ _); k_dflt (refine' max2_po ?q81whh ?q81wF ?q81wX ?q81wN ?q81wu ?q81wp1 ?q81wp2 ?_; (case q81whh => exact rfl); (case q81wF => k_asm); (case q81wX => k_asm); (case q81wN => k_asm); (case q81wu => ktr_units); (case q81wp1 => k_extra "my PO"); (case q81wp2 => k_extra "my PO"); k_whole; intro c' h' tk' F' N' P'; (try k_sweep)))
  k_with "my compareOp Eq ref ref" => (k_here; k_dflt (refine' eq_po ?q82wF ?q82wX ?q82wN ?q82wu ?q82wp1 ?q82wp2 ?_; (case q82wF => k_asm); (case q82wX => k_asm); (case q82wN => k_asm); (case q82wp1 => k_extra "my PO"); (case q82wp2 => k_extra "my PO"); (case q82wu => ktr_units); k_whole))
  k_with "my compareOp NotEq ref ref" => (k_here; k_dflt (refine' ne_po ?q83wF ?q83wX ?q83wN ?q83wu ?q83wp1 ?q83wp2 ?_; (case q83wF => k_asm); (case q83wX => k_asm); (case q83wN => k_asm); (case q83wp1 => k_extra "my PO"); (case q83wp2 => k_extra "my PO"); (case q83wu => ktr_units); k_whole))
  k_with "my compareOp Lt ref ref" => (k_here; k_dflt (refine' lt_po ?q84wF ?q84wX ?q84wN ?q84wu ?q84wp1 ?q84wp2 ?_; (case q84wF => k_asm); (case q84wX => k_asm); (case q84wN => k_asm); (case q84wp1 => k_extra "my PO"); (case q84wp2 => k_extra "my PO"); (case q84wu => ktr_units); k_whole))
  k_with "my compareOp LtE ref ref" => (k_here; k_dflt (refine' le_po ?q85wF ?q85wX ?q85wN ?q85wu ?q85wp1 ?q85wp2 ?_; (case q85wF => k_asm); (case q85wX => k_asm); (case q85wN => k_asm); (case q85wp1 => k_extra "my PO"); (case q85wp2 => k_extra "my PO"); (case q85wu => ktr_units); k_whole))
  k_with "my compareOp Is ref ref" => (k_here; (first | (with_reducible refine' is_ori_col ?q86wF ?q86wX ?_) | (with_reducible refine' is_ori ?q86wF ?q86wX ?_)); (case q86wF => k_asm); (case q86wX => k_asm); k_whole)
  k_with "my exec Assign" => (k_fold)
  k_with "my exec If" => (k_fold)
  k_with "my eval BinOp" => (k_fold)
  k_with "my eval Tuple" => (k_fold)
  k_with "my eval Call" => (k_fold)
  k_with "my eval Call Attribute" => (k_fold)
  k_with "my storeName" => (k_here; k_dflt (refine' storeL ?q93wF ?q93wN ?_ ?q93wa ?q93wb; (case q93wF => k_asm); (case q93wN => k_asm); (case q93wa => rfl); (case q93wb => rfl); k_whole; intro m' h' tk' F' N'; (try k_sweep)))
  k_with "my eval Name" => (k_here; k_dflt (refine' nameL ?q94wF ?q94wv ?_ ?q94wok ?q94whl; (case q94wF => k_asm); (case q94whl => rfl); (case q94wok => rfl); (case q94wv => rfl); k_whole))
  k_with "my eval Attribute Name" => (k_here; k_dflt (refine' attrL ?q95wF ?q95wv ?_ ?q95wok ?q95whl; (case q95wF => k_asm); (case q95whl => rfl); (case q95wok => rfl); (case q95wv => rfl); k_whole))
  k_with "my spliced" => (k_here; k_dflt (first
    | ((with_reducible refine' argLL ?q96wF ?q96wv ?q96wu ?_ ?q96wok ?q96woj ?q96whl); (case q96wF => k_asm); (case q96whl => rfl); (case q96wok => rfl); (case q96woj => rfl); (case q96wv => rfl); (case q96wu => rfl); k_whole)
    | ((with_reducible refine' argL1 ?q96wF ?q96wv ?_ ?q96wok ?q96whl); (case q96wF => k_asm); (case q96whl => rfl); (case q96wok => rfl); (case q96wv => rfl); k_whole)
    | ((with_reducible refine' argL ?q96wF ?q96wv ?_ ?q96wok ?q96whl); (case q96wF => k_asm); (case q96whl => rfl); (case q96wok => rfl); (case q96wv => rfl); k_whole)))
  k_with "my eval Call Attribute" => (k_here; k_dflt (refine' methL ?q97wF ?q97wv ?_ ?q97wok ?q97whl ?q97whe; (case q97wF => k_asm); (case q97whl => rfl); (case q97wok => rfl); (case q97wv => rfl); (case q97whe => rfl); k_whole))
  k_with "my isTrue Compare" => (k_here; k_dflt (first
    | ((with_reducible refine' cmpLL ?q98wF ?q98wv ?q98wu ?_ ?q98wok ?q98woj ?q98whl ?q98whm); (case q98wF => k_asm); (case q98whl => rfl); (case q98wok => rfl); (case q98woj => rfl); (case q98whm => with_unfolding_all rfl); (case q98wv => rfl); (case q98wu => rfl); k_whole)
    | ((with_reducible refine' cmpL ?q98wF ?q98wv ?_ ?q98wok ?q98whl ?q98whm); (case q98wF => k_asm); (case q98whl => rfl); (case q98wok => rfl); (case q98whm => with_unfolding_all rfl); (case q98wv => rfl); k_whole)))
  trivial
local macro_rules | `(tactic| k_all) => `(tactic| first | exact List.forall_mem_nil _ | (exact fun p hp => Nat.ne_of_lt (by first | (exact (by assumption : ∀ p ∈ _, p.1 < _) p hp) | exact Nat.lt_trans ((by assumption : ∀ p ∈ _, p.1 < _) p hp) (by assumption))) | (refine' List.forall_mem_cons.mpr ⟨?a, ?b⟩; (case a => k_ne); (case b => k_all)))
theorem k_seg (w : World) {dp un : Nat} {gd : Option (List Code)} {cn : Str} {cs : Scope} {a : Addr} {ccd : Value} {cl : List (Str × Addr)} {outer : List Env} {A₀ : Around} {base h₀ : Heap} {L : Addr} {m : Str → Option Value}
    {pr : Program} {loose : List Str} {mean : ExcName → Option Value} {mg mb : Str → Option Value} {s : Shared} {Q E : Value → Shared → Prop} {news : List (Addr × Obj)} {cx p1 p2 : Addr} {P1 P2 : Pt}
    (B : Below A₀ base outer h₀) (F : Fr h₀ L s.heap m) (X : (Mine.k0.heap_1_39 w.params).In h₀) (N : News h₀ L s.heap news) (T : Top pr loose mean mg mb h₀) (hcs : cs.kind = .function) (hd : dp + 5 < recursionLimit) (hu : un + 30 < cLine)
    (h1 : Po news p1 P1) (h2 : Po news p2 P2)
    (hret : ∀ (nw : List (Addr × Obj)) (r : Addr) (h' : Heap) (tk' : Nat), Fr h₀ L h' m → News h₀ L h' (nw ++ news) → So (nw ++ news) r P1 P2 → Q (.ref r) { s with heap := h', toks := tk' }) :
    wpAny (model PySem.Challenge.rw_ix0019_01.prog w) (ktrTop dp un gd cn cs L a ccd cl outer) (call (.ref 322) [.ref cx, .ref p1, .ref p2]) Q E s := by
  revert X
  k_fill
  intro X
  refine wpAny_call ?_
  k_dflt cell_enter
  k_steps
  refine hret [_, _, _] _ _ _ (by k_asm) (by k_asm) ?_
  exact ⟨_, _, _, _, _, _, _, _, List.mem_cons_of_mem _ List.mem_cons_self, List.mem_cons_of_mem _ (List.mem_cons_of_mem _ List.mem_cons_self), h1.mono (by walk_at "SUB"), h2.mono (by walk_at "SUB")⟩
def Ms (news : List (Addr × Obj)) (a l : Addr) : Prop := ∃ (d : Addr) (h1 : Int) (t1 : Tok) (k : Nat), (a, instObj 273 d) ∈ news ∧ (d, dictOf [⟨h1, .str (PySem.Str.ofString "segments") t1, .ref l⟩] k) ∈ news
theorem Ms.mono {n n' : List (Addr × Obj)} {a l : Addr} (h : Ms n a l) (hs : ∀ x ∈ n, x ∈ n') : Ms n' a l := by
  obtain ⟨d, h1, t1, k, m1, m2⟩ := h
  exact ⟨d, h1, t1, k, hs _ m1, hs _ m2⟩
theorem k_mseg (w : World) {dp un : Nat} {gd : Option (List Code)} {cn : Str} {cs : Scope} {a : Addr} {ccd : Value} {cl : List (Str × Addr)} {outer : List Env} {A₀ : Around} {base h₀ : Heap} {L : Addr} {m : Str → Option Value}
    {pr : Program} {loose : List Str} {mean : ExcName → Option Value} {mg mb : Str → Option Value} {s : Shared} {Q E : Value → Shared → Prop} {news : List (Addr × Obj)} {cx l : Addr}
    (B : Below A₀ base outer h₀) (F : Fr h₀ L s.heap m) (X : (Mine.k0.heap_1_39 w.params).In h₀) (N : News h₀ L s.heap news) (T : Top pr loose mean mg mb h₀) (hcs : cs.kind = .function) (hd : dp + 5 < recursionLimit) (hu : un + 30 < cLine)
    (hret : ∀ (nw : List (Addr × Obj)) (r : Addr) (h' : Heap) (tk' : Nat), Fr h₀ L h' m → News h₀ L h' (nw ++ news) → Ms (nw ++ news) r l → Q (.ref r) { s with heap := h', toks := tk' }) :
    wpAny (model PySem.Challenge.rw_ix0019_01.prog w) (ktrTop dp un gd cn cs L a ccd cl outer) (call (.ref 329) [.ref cx, .ref l]) Q E s := by
  revert X
  k_fill
  intro X
  refine wpAny_call ?_
  k_dflt cell_enter
  k_steps
  refine hret [_, _] _ _ _ (by k_asm) (by k_asm) ?_
  exact ⟨_, _, _, _, List.mem_cons_self, List.mem_cons_of_mem _ List.mem_cons_self⟩
def Mp (news : List (Addr × Obj)) (a l : Addr) : Prop := ∃ (d : Addr) (h1 : Int) (t1 : Tok) (k : Nat), (a, instObj 294 d) ∈ news ∧ (d, dictOf [⟨h1, .str (PySem.Str.ofString "points") t1, .ref l⟩] k) ∈ news
theorem Mp.mono {n n' : List (Addr × Obj)} {a l : Addr} (h : Mp n a l) (hs : ∀ x ∈ n, x ∈ n') : Mp n' a l := by
  obtain ⟨d, h1, t1, k, m1, m2⟩ := h
  exact ⟨d, h1, t1, k, hs _ m1, hs _ m2⟩
theorem k_mpt (w : World) {dp un : Nat} {gd : Option (List Code)} {cn : Str} {cs : Scope} {a : Addr} {ccd : Value} {cl : List (Str × Addr)} {outer : List Env} {A₀ : Around} {base h₀ : Heap} {L : Addr} {m : Str → Option Value}
    {pr : Program} {loose : List Str} {mean : ExcName → Option Value} {mg mb : Str → Option Value} {s : Shared} {Q E : Value → Shared → Prop} {news : List (Addr × Obj)} {cx l : Addr}
    (B : Below A₀ base outer h₀) (F : Fr h₀ L s.heap m) (X : (Mine.k0.heap_1_39 w.params).In h₀) (N : News h₀ L s.heap news) (T : Top pr loose mean mg mb h₀) (hcs : cs.kind = .function) (hd : dp + 5 < recursionLimit) (hu : un + 30 < cLine)
    (hret : ∀ (nw : List (Addr × Obj)) (r : Addr) (h' : Heap) (tk' : Nat), Fr h₀ L h' m → News h₀ L h' (nw ++ news) → Mp (nw ++ news) r l → Q (.ref r) { s with heap := h', toks := tk' }) :
    wpAny (model PySem.Challenge.rw_ix0019_01.prog w) (ktrTop dp un gd cn cs L a ccd cl outer) (call (.ref 336) [.ref cx, .ref l]) Q E s := by
  revert X
  k_fill
  intro X
  refine wpAny_call ?_
  k_dflt cell_enter
  k_steps
  refine hret [_, _] _ _ _ (by k_asm) (by k_asm) ?_
  exact ⟨_, _, _, _, List.mem_cons_self, List.mem_cons_of_mem _ List.mem_cons_self⟩
end
section
open PySem PySem.W PyProof.Rows PySem.Calls PySem.Spec Builtin
set_option Elab.async false
set_option maxRecDepth 100000
set_option maxHeartbeats 2000000
section
variable {M : Model} {w : World} {h : Heap}
theorem looks_lookup {K : Frag} {a : Addr} {o : Obj} (X : K.In h) (e : K.lookup a = some o) : h.get? a = some o := X _ _ e
theorem po_slot (X : (Mine.k0.heap_1_39 w.params).In h) : Looks M h (slotAt 132 4) (some .none) := by
  have hrw : PySem.Challenge.rw_ix0019_01.prog = PySem.Challenge.rw_ix0019_01.prog := rfl
  revert X hrw
  k_fill
  intro X _
  have ho := looks_lookup X (a := 132) (by k_is)
  exact (Looks.ld ho).andThen (Looks.of_pure rfl)
theorem po_mro (X : (Mine.k0.heap_1_39 w.params).In h) : Looks M h (mroOf (.ref 132)) [.ref 132, .type "tuple", .type "object"] := by
  have hrw : PySem.Challenge.rw_ix0019_01.prog = PySem.Challenge.rw_ix0019_01.prog := rfl
  revert X hrw
  k_fill
  intro X _
  exact (looks_clsIn X (C := 132) (by k_is)).andThen .now
theorem tup_made : Looks M h (Bind.madeBy (.type "tuple")) (some "tuple.__new__") := Looks.of_pure (by kernel_rfl)
theorem po_made (X : (Mine.k0.heap_1_39 w.params).In h) : Looks M h (Bind.madeBy (.ref 132)) none := by
  unfold Bind.madeBy
  refine (po_mro X).andThen ?_
  intro A Q E s k q
  rw [List.forIn_cons]
  refine wpAny_bind (wpAny_bind (wpAny_bind (po_slot X A _ E s k ?_)))
  exact wpAny_pure (wpAny_pure (wpAny_pure q))
theorem po_base (X : (Mine.k0.heap_1_39 w.params).In h) : Looks M h (Bind.staticBase (.ref 132)) (.type "tuple") := by
  have hrw : PySem.Challenge.rw_ix0019_01.prog = PySem.Challenge.rw_ix0019_01.prog := rfl
  revert X hrw
  k_fill
  intro X _
  unfold Bind.staticBase
  refine (po_mro X).andThen ?_
  intro A Q E s k q
  rw [List.forIn_cons]
  refine wpAny_bind (wpAny_bind ?_)
  dsimp only
  refine wpAny_bind (po_made X A _ E s k ?_)
  simp only [Option.isSome_none, Bool.false_eq_true, if_false]
  refine wpAny_bind ((looks_clsIn X (C := 132) (by k_is)) A _ E s k ?_)
  have hb : Looks M h (Slots.bestBase [.type "tuple"]) (.type "tuple") := Looks.of_pure (by kernel_rfl)
  refine wpAny_bind (hb A _ E s k ?_)
  refine wpAny_pure ?_
  dsimp only
  rw [List.forIn_cons]
  refine wpAny_bind ?_
  dsimp only
  refine wpAny_bind (tup_made (h := h) A _ E s k ?_)
  simp only [Option.isSome_some, if_true]
  exact wpAny_pure (wpAny_pure (wpAny_pure q))
theorem po_isType (X : (Mine.k0.heap_1_39 w.params).In h) : Looks M h (isType (.ref 132)) true := by
  have hrw : PySem.Challenge.rw_ix0019_01.prog = PySem.Challenge.rw_ix0019_01.prog := rfl
  revert X hrw
  k_fill
  intro X _
  have ho := looks_lookup X (a := 132) (by k_is)
  unfold isType
  exact (Looks.ld ho).andThen (Looks.of_pure rfl)
theorem po_sub (X : (Mine.k0.heap_1_39 w.params).In h) : Looks M h (isSubtype (.ref 132) (.type "tuple")) true := by
  have hrw : PySem.Challenge.rw_ix0019_01.prog = PySem.Challenge.rw_ix0019_01.prog := rfl
  revert X hrw
  k_fill
  intro X _
  exact looks_subIn (M := M) X (t := .ref 132) (base := .type "tuple") (by k_is)
theorem po_del {h₁ : Heap} (X : (Mine.k0.heap_1_39 w.params).In h) (hk : ∀ b o', h.get? b = some o' → h₁.get? b = some o') : Looks M h₁ (classHasDel 132) false := by
  have hrw : PySem.Challenge.rw_ix0019_01.prog = PySem.Challenge.rw_ix0019_01.prog := rfl
  revert X hrw
  k_fill
  intro X _
  unfold classHasDel
  have ho := hk _ _ (looks_lookup X (a := 132) (by k_is))
  exact (Looks.ld ho).andThen (Looks.of_pure rfl)
end
section
variable {w : World} {A : Around} {s : Shared}
theorem new_slot : splitId "tuple.__new__" = some ("tuple", "__new__") := by decide +kernel
/-- tuple.__new__ upon the text's Point and a tuple of two ints -/
theorem po_new_body {E : Value → Shared → Prop} {Q : PySem.Fin → Shared → Prop} {prog : Program} {l : Addr} {u v : Value} {o : Obj} {n : Nat} (X : (Mine.k0.heap_1_39 w.params).In s.heap) (hl : s.heap.get? l = some o) (hc : o.cls = .type "tuple") (hd : o.data = .seq #[u, v] n)
    (h : ∀ h' : Heap, (∀ b o', s.heap.get? b = some o' → h'.get? b = some o') → Q (.done (.ret (.ref (h'.push { cls := .type "dict", data := .dict #[] }).objs.size))) { s with heap := (h'.push { cls := .type "dict", data := .dict #[] }).push { cls := .ref 132, dict := some h'.objs.size, data := .seq #[u, v] } }) :
    wpAny (model prog w) A (Builtin.«tuple.__new__» ⟨[.ref 132, .ref l], []⟩) Q E s := by
  have hrw : PySem.Challenge.rw_ix0019_01.prog = PySem.Challenge.rw_ix0019_01.prog := rfl
  have X' := X
  have L5 : ∀ {h : Heap}, (∀ b o', s.heap.get? b = some o' → h.get? b = some o') → Looks (model prog w) h (classHasDel 132) false := fun hk => po_del X hk
  revert X hrw
  k_fill
  intro X _
  have L1 : Looks (model prog w) s.heap (isType (.ref 132)) true := by
    have ho := looks_lookup X (a := 132) (by k_is)
    unfold isType
    exact (Looks.ld ho).andThen (Looks.of_pure rfl)
  have L2 := looks_subIn (M := model prog w) X (t := .ref 132) (base := .type "tuple") (by k_is)
  have L3 : Looks (model prog w) s.heap (Bind.madeHere "tuple.__new__" (.ref 132)) () := (po_base X').andThen (tup_made.andThen (Looks.of_pure (by simp only [Option.map_some, bne_self_eq_false, Bool.false_eq_true, if_false])))
  have L4 := looks_findIn (M := model prog w) X (t := .ref 132) (name := "__init__") (by k_is)
  unfold Builtin.«tuple.__new__»
  dsimp only
  refine wpAny_bind (L1.here ?_)
  simp only [Bool.not_true, Bool.false_eq_true, if_false]
  refine wpAny_bind (L2.here ?_)
  simp only [Bool.not_true, Bool.false_eq_true, if_false]
  refine wpAny_bind (L3.here (wpAny_bind (L4.here ?_)))
  refine wpAny_bind (wpAny_pure (wpAny_bind (wpAny_pure ?_)))
  have hb : (Value.ref 132 == Value.type "tuple") = false := rfl
  rw [hb]
  simp only [Bool.false_eq_true, if_false]
  refine wpAny_bind (wpAny_collect_seq l (.inr rfl) hl hc hd (fun h' hk => ?_) (by simp [sizeLine]))
  refine wpAny_bind (wpAny_pure (wpAny_bind (wpAny_alloc (wpAny_bind ?_))))
  unfold newObj
  dsimp only
  unfold newObjAsIs
  refine wpAny_bind (wpAny_alloc ?_)
  dsimp only
  refine wpAny_bind (L5 (fun b o' e => e) _ _ _ _ (fun b o' e => Heap.get?_push_of_some _ (Heap.get?_push_of_some _ (hk b o' e))) ?_)
  simp only [Bool.false_eq_true, if_false]
  exact wpAny_pure (wpAny_pure (h h' hk))
end
section
variable {prog : Program} {w : World} {A : Around} {R : Result → Shared → Prop}
theorem po_new {l : Addr} {u v : Value} {o : Obj} {n : Nat} {s : Shared} (X : (Mine.k0.heap_1_39 w.params).In s.heap) (hl : s.heap.get? l = some o) (hc : o.cls = .type "tuple") (hd : o.data = .seq #[u, v] n)
    (h : ∀ h' : Heap, (∀ b o', s.heap.get? b = some o' → h'.get? b = some o') → R (.ok (.ret (.ref (h'.push { cls := .type "dict", data := .dict #[] }).objs.size))) { s with heap := (h'.push { cls := .type "dict", data := .dict #[] }).push { cls := .ref 132, dict := some h'.objs.size, data := .seq #[u, v] } }) :
    codeAny (model prog w) A (.call (.builtin "tuple.__new__") ⟨[.ref 132, .ref l], []⟩) R s := by
  have entry : entryFor table "tuple.__new__" = some Builtin.«tuple.__new__» := entryFor_of_tree (by kernel_rfl)
  refine codeAny_call_builtin_code (Code.quiet_builtin _ (by decide +kernel)) ?_
  have kind : builtinKind "tuple.__new__" = some .builtinFn := by decide +kernel
  have L1 := po_isType (M := model prog w) X
  have L2 := po_sub (M := model prog w) X
  have L3 := po_base (M := model prog w) X
  have L4 := tup_made (M := model prog w) (h := s.heap)
  have ha : argsOk "tuple.__new__" ⟨[.ref 132, .ref l], []⟩ := by unfold argsOk; kernel_rfl
  have hn : ("__new__" == "__new__") = true := rfl
  simp only [checkBuiltinCall, kind, new_slot, hn, if_true]
  refine wpAny_bind (L1.here ?_)
  simp only [Bool.not_true, Bool.false_eq_true, if_false]
  refine wpAny_bind (L2.here ?_)
  simp only [Bool.not_true, Bool.false_eq_true, if_false]
  refine wpAny_bind (L3.here (wpAny_bind (L4.here ?_)))
  simp only [bne_self_eq_false, Bool.false_eq_true, if_false]
  have fin : codeAny (model prog w) A (.builtin "tuple.__new__" ⟨[.ref 132, .ref l], []⟩) R s := codeAny_builtin entry (po_new_body X hl hc hd h)
  cases hsig : Manifest.signature? "tuple.__new__" with
  | none => exact wpAny_pure fin
  | some sig =>
    simp only [argsOk, hsig] at ha
    have h2 : Bind.checkArgs "tuple.__new__" sig ⟨[.ref 132, .ref l], []⟩ = pure () := ha
    show wpAny _ _ (Bind.checkArgs "tuple.__new__" sig ⟨[.ref 132, .ref l], []⟩) _ _ _
    rw [h2]; exact wpAny_pure fin
end
end
section
open PySem PySem.W PyProof.Rows PySem.Calls PySem.Spec Builtin
set_option Elab.async false
set_option maxRecDepth 100000
set_option maxHeartbeats 4000000
section
variable {M : Model} {h : Heap}
theorem po_selfsub {w : World} (X : (Mine.k0.heap_1_39 w.params).In h) : Looks M h (isSubtype (.ref 132) (.ref 132)) true := by
  have hrw : PySem.Challenge.rw_ix0019_01.prog = PySem.Challenge.rw_ix0019_01.prog := rfl
  revert X hrw
  k_fill
  intro X _
  exact looks_subIn (M := M) X (t := .ref 132) (base := .ref 132) (by k_is)
theorem po_objsub {w : World} (X : (Mine.k0.heap_1_39 w.params).In h) : Looks M h (isSubtype (.ref 132) (.type "object")) true := by
  have hrw : PySem.Challenge.rw_ix0019_01.prog = PySem.Challenge.rw_ix0019_01.prog := rfl
  revert X hrw
  k_fill
  intro X _
  exact looks_subIn (M := M) X (t := .ref 132) (base := .type "object") (by k_is)
theorem po_call {w : World} (X : (Mine.k0.heap_1_39 w.params).In h) : Looks M h (specialOf (.ref 132) "__call__") (some (.builtin "type.__call__")) := by
  have hrw : PySem.Challenge.rw_ix0019_01.prog = PySem.Challenge.rw_ix0019_01.prog := rfl
  revert X hrw
  k_fill
  intro X _
  exact looks_specialIn X (v := .ref 132) (name := "__call__") (by k_is)
theorem po_typ {w : World} (X : (Mine.k0.heap_1_39 w.params).In h) : Looks M h (isInstance (.ref 132) (.type "type")) true := by
  have hrw : PySem.Challenge.rw_ix0019_01.prog = PySem.Challenge.rw_ix0019_01.prog := rfl
  revert X hrw
  k_fill
  intro X _
  exact looks_instIn X (v := .ref 132) (base := .type "type") (by k_is)
theorem po_init {w : World} (X : (Mine.k0.heap_1_39 w.params).In h) : Looks M h (typeLookup (.ref 132) "__init__") (some (.builtin "object.__init__")) := by
  have hrw : PySem.Challenge.rw_ix0019_01.prog = PySem.Challenge.rw_ix0019_01.prog := rfl
  revert X hrw
  k_fill
  intro X _
  exact looks_findIn X (t := .ref 132) (name := "__init__") (by k_is)
theorem po_obj {w : World} (X : (Mine.k0.heap_1_39 w.params).In h) : ∃ oc od cd sl, h.get? 132 = some ⟨oc, od, .cls cd, sl⟩ ∧ cd.mro.isEmpty = false := by
  have hrw : PySem.Challenge.rw_ix0019_01.prog = PySem.Challenge.rw_ix0019_01.prog := rfl
  revert X hrw
  k_fill
  intro X _
  exact ⟨_, _, _, _, looks_lookup X (a := 132) (by k_is), rfl⟩
end
section
variable {prog : Program} {w : World} {A : Around} {E : Value → Shared → Prop} {s : Shared}
theorem po_getnew {expr : Bool} {Q : Value → Shared → Prop} (X : (Mine.k0.heap_1_39 w.params).In s.heap) (h : Q (.ref 82) { s with toks := s.toks + 1 }) : wpAny (model prog w) A (getAttr (.ref 132) "__new__" expr) Q E s := by
  have hrw : PySem.Challenge.rw_ix0019_01.prog = PySem.Challenge.rw_ix0019_01.prog := rfl
  revert X hrw
  k_fill
  intro X _
  refine cls_bind (mc := .type "type") (g := .builtin "staticmethod.__get__") (a := .ref 133) (obj := .none) (tp := .ref 132) X (by k_is) (by k_is) (wpAny_call ?_)
  refine' sm_get (s := { s with toks := s.toks + 1 }) X (f := .ref 82) ?hp (handed_on rfl h)
  case hp => k_is
theorem oi_args2 (a b c : Value) : argsOk "object.__init__" ⟨[a, b, c], []⟩ := by unfold argsOk; kernel_rfl
theorem po_make {u v : Value} {R : Result → Shared → Prop} (X : (Mine.k0.heap_1_39 w.params).In s.heap)
    (hnew : codeAny (model prog w) (A.under (.builtin "type.__call__" ⟨[.ref 132, u, v], []⟩)) (.call (.ref 82) ⟨[.ref 132, u, v], []⟩) (fun r s' => match r with
      | .ok (.ret z) => ∃ p dx n, z = .ref p ∧ (Mine.k0.heap_1_39 w.params).In s'.heap ∧ s'.heap.get? p = some { cls := .ref 132, dict := some dx, data := .seq #[u, v] n } ∧ R (.ok (.ret z)) s'
      | .ok _ => False | .error e => R (.error e) s') { s with toks := s.toks + 1 }) :
    codeAny (model prog w) A (.call (.ref 132) ⟨[u, v], []⟩) R s := by
  obtain ⟨oc, od, cd, sl, hC, e4⟩ := po_obj X
  have made := po_made (M := model prog w) X
  have self := po_selfsub (M := model prog w) X
  have call := po_call (M := model prog w) X
  have typ := po_typ (M := model prog w) X
  obtain ⟨h, g, d, t, os⟩ := s
  refine codeAny_of_tree ?_
  show wpAny _ _ (callAny (.ref 132) _) _ _ _
  refine nd_load hC ?_
  show wpAny _ _ (callAny.viaDunder (.ref 132) _) _ _ _
  unfold callAny.viaDunder
  refine wpAny_bind (call.at ?_)
  dsimp only
  rw [tc_bind]
  refine wpAny_bind (wpAny_pure (wpAny_bind (wpAny_pure ?_)))
  refine wpAny_pure (a := Fin.again (.call (.builtin "type.__call__") ⟨.ref 132 :: [u, v], []⟩)) (And.intro rfl ?_)
  refine codeAny_call_builtin_at (Code.quiet_builtin _ (by decide +kernel)) entry_typeCall (check_slot tc_kind tc_split typ (tc_args _ _ _) ?_)
  unfold Builtin.«type.__call__»
  have hm : Looks (model prog w) h (mroOf (.ref 132)) cd.mro := ((Looks.ld (part := none) hC).andThen .now).andThen .now
  have hno : (Value.ref 132 == Value.type "type") = false := rfl
  repeat (first | simp only [e4, hno, Bool.false_eq_true, if_false] | (with_reducible refine po_getnew (by assumption) ?_) | (with_reducible refine wpAny_call ?_) | lk)
  refine codeAny_mono hnew fun r s' z => ?_
  rcases r with e | (v' | _ | _ | _) <;> first | exact z | exact z.elim | skip
  obtain ⟨p, dx, n, rfl, X', hp, z⟩ := z
  have self := po_selfsub (M := model prog w) X'
  have objs := po_objsub (M := model prog w) X'
  have init := po_init (M := model prog w) X'
  have made := po_made (M := model prog w) X'
  have bi : Looks (model prog w) s'.heap (bindSpecial (.builtin "object.__init__") (.ref p)) (.builtin "object.__init__", [.ref p]) := Looks.of_pure (oi_bind _)
  have t1 : Looks (model prog w) s'.heap (typeOf (.ref p)) (.ref 132) := (Looks.ld hp).andThen .now
  have ii : Looks (model prog w) s'.heap (isInstance (.ref p) (.type "object")) true := t1.andThen objs
  obtain ⟨h', g', d', t', os'⟩ := s'
  unfold isInstance callSpecial? specialOf
  repeat (first | (with_reducible refine wpAny_call ?_) | lk)
  refine codeAny_call_builtin oi_plain entry_oi (@check_slot (model prog w) _ _ _ "object.__init__" "object" "__init__" (.ref p) [u, v] [] _ oi_kind oi_split ii (oi_args2 _ _ _) ?_)
  unfold Builtin.«object.__init__»
  dsimp only
  have hne : ((none : Option String) != some "object.__new__") = true := rfl
  have hii : ((some (Value.builtin "object.__init__")) != some (Value.builtin "object.__init__")) = false := rfl
  have hre : (![u, v].isEmpty) = true := rfl
  repeat (first | simp only [hii, hre, hne, Bool.or_true, Bool.true_or, Bool.not_true, Bool.false_eq_true, if_false, if_true] | lk)
  exact z
end
section
variable {prog : Program} {w : World} {A : Around} {E Q : Value → Shared → Prop} {s : Shared} {h₀ : Heap} {L : Addr} {m : Str → Option Value} {news : List (Addr × Obj)}
theorem pnew_at {l : Addr} {u v : Value} {n : Nat} {o : Obj} (F : Fr h₀ L s.heap m) (X : (Mine.k0.heap_1_39 w.params).In h₀) (N : News h₀ L s.heap news) (hm : (l, o) ∈ news) (hc : o.cls = .type "tuple") (hd : o.data = .seq #[u, v] n)
    (hret : ∀ p dx h', Fr h₀ L h' m → News h₀ L h' ((p, { cls := .ref 132, dict := some dx, data := .seq #[u, v] }) :: (dx, dictOf [] 0) :: news) → Q (.ref p) { s with heap := h' }) :
    wpAny (model prog w) A (call (.builtin "tuple.__new__") [.ref 132, .ref l]) Q E s := by
  refine wpAny_call (po_new (X.keeps F.keep) (N _ hm).1 hc hd fun h' hk => ?_)
  have F' := ((F.keeps hk).push { cls := .type "dict", data := .dict #[] })
  have N1 : News h₀ L h' news := fun p hp => ⟨hk _ _ (N p hp).1, (N p hp).2⟩
  have N2 := N1.push (F.keeps hk) { cls := .type "dict", data := .dict #[] }
  have N3 := N2.push F' { cls := .ref 132, dict := some h'.objs.size, data := .seq #[u, v] }
  exact hret _ _ _ (F'.push _) N3
end
end
section
open PySem PySem.W PyProof.Rows PySem.Calls PySem.Spec
set_option Elab.async false
set_option maxRecDepth 100000
set_option maxHeartbeats 8000000
theorem set_W13 : True := by
  k_with_none
  k_with "my MEM" => first | ktr_member | with_reducible exact List.mem_cons_self | (with_reducible refine' List.mem_cons_of_mem _ ?_; k_extra "my MEM") | (with_reducible refine' List.mem_append_right _ ?_; k_extra "my MEM") | (with_reducible refine' List.mem_append_left _ ?_; k_extra "my MEM")
  k_with "my CELL" => (refine' code_def ?qcellk1 ?qcellk2 ?qcellk3 ?qcellk4 ?qcellk5 ?qcellkA ?qcellkF ?qcellkK ?qcellk6 ?qcellk7 ?qcellk8 ?qcellk9 ?qcellkB ?_ ?qcellc2 ?qcellc3 ?qcellc4 ?qcellc5; (case qcellkA => exact rfl); (case qcellkF => exact rfl); (case qcellkK => first | assumption | exact rfl); (case qcellk1 => k_asm); (case qcellk2 => k_asm); (case qcellk3 => k_asm); (case qcellk4 => k_asm); (case qcellk5 => k_asm); (case qcellk6 => k_is); (case qcellk7 => k_is); (case qcellk8 => ktr_room); (case qcellk9 => first | exact BindsTo.of_eq rfl | exact binds_K (by k_in) rfl (by k_is) rfl rfl rfl); (case qcellc5 => decide); (case qcellkB => exact locs rfl); (case qcellc2 => exact rfl); (case qcellc3 => exact rfl); (case qcellc4 => exact rfl); k_whole; intro g' L' h' FG' F' N' B' X' T'; (try dsimp only); (try k_lift B'); (try k_fold))
  k_with "my testChain" => first | with_reducible refine test_link ?_ | with_reducible refine test_last ?_ | with_unfolding_all refine test_link ?_ | with_unfolding_all refine test_last ?_
  k_with "my SUB" => (intro x hx; first | exact hx | (simp only [List.mem_append, List.mem_cons, hx, true_or, or_true]; done) | (simp only [List.mem_append, List.mem_cons] at hx ⊢; simp_all; done))
  k_with "my PO" => first | assumption | exact Po.mono (by assumption) (by k_extra "my SUB")
  k_with "my CTX" => ((case q9B => k_asm); (case q9F => k_asm); (case q9X => k_asm); (case q9N => k_asm); (case q9T => k_asm); (case q9K => first | assumption | exact rfl); (case q9d => ktr_room); (case q9u => ktr_units))
  k_with "my getAttr ref" => (k_here; (with_reducible show wpAny _ _ (getAttr (Value.ref _) (PySem.Str.ofString "x") _) _ _ _); k_dflt (refine' getx _ ?q9B ?q9F ?q9X ?q9N ?q9T ?q9K ?q9d ?q9u ?q103wp ?_; k_extra "my CTX"; (case q103wp => k_extra "my PO"); k_whole; intro t' h' tk' F' N'; (try k_sweep)))
  k_with "my getAttr ref" => (k_here; (with_reducible show wpAny _ _ (getAttr (Value.ref _) (PySem.Str.ofString "y") _) _ _ _); k_dflt (refine' gety _ ?q9B ?q9F ?q9X ?q9N ?q9T ?q9K ?q9d ?q9u ?q104wp ?_; k_extra "my CTX"; (case q104wp => k_extra "my PO"); k_whole; intro t' h' tk' F' N'; (try k_sweep)))
  k_with "my call ref" => (k_here; (with_reducible show wpAny _ _ (call (Value.ref 364) [_, _, _, _]) _ _ _); k_dflt (refine' k_angle _ ?q9B ?q9F ?q9X ?q9N ?q9T ?q9K ?q9d ?q9u ?q105wp1 ?q105wp2 ?q105wp3 ?q105wb1 ?q105wb2 ?q105wb3 ?_; k_extra "my CTX"; (case q105wp1 => k_extra "my PO"); (case q105wp2 => k_extra "my PO"); (case q105wp3 => k_extra "my PO"); (case q105wb1 => k_extra "my BP"); (case q105wb2 => k_extra "my BP"); (case q105wb3 => k_extra "my BP"); k_whole; intro h' tk' F' N'; (try k_sweep)))
  k_with "my BP" => first | assumption | exact Bp.min (by assumption) (by assumption) | exact Bp.max (by assumption) (by assumption)
  k_with "my call builtin:min" => (k_here; (with_reducible show wpAny _ _ (call (Value.builtin "min") [Value.ref _, Value.ref _]) _ _ _); k_dflt (refine' min2_po ?q107whh ?q107wF ?q107wX ?q107wN ?q107wu ?q107wp1 ?q107wp2 ?_; (case q107whh => exact rfl); (case q107wF => k_asm); (case q107wX => k_asm); (case q107wN => k_asm); (case q107wu => ktr_units); (case q107wp1 => k_extra "my PO"); (case q107wp2 => k_extra "my PO"); k_whole; intro c' h' tk' F' N' P'; (try k_sweep)))
  k_with "my call builtin:max" => (k_here; (with_reducible show wpAny _ _ (call (Value.builtin "max") [Value.ref _, Value.ref _]) _ _ _); k_dflt (refine' max2_po ?q108whh ?q108wF ?q108wX ?q108wN ?q108wu ?q108wp1 ?q108wp2 ?_; (case q108whh => exact rfl); (case q108wF => k_asm); (case q108wX => k_asm); (case q108wN => k_asm); (case q108wu => ktr_units); (case q108wp1 => k_extra "my PO"); (case q108wp2 => k_extra "my PO"); k_whole; intro c' h' tk' F' N' P'; (try k_sweep)))
  k_with "my compareOp Eq ref ref" => (k_here; k_dflt (refine' eq_po ?q109wF ?q109wX ?q109wN ?q109wu ?q109wp1 ?q109wp2 ?_; (case q109wF => k_asm); (case q109wX => k_asm); (case q109wN => k_asm); (case q109wp1 => k_extra "my PO"); (case q109wp2 => k_extra "my PO"); (case q109wu => ktr_units); k_whole))
  k_with "my compareOp NotEq ref ref" => (k_here; k_dflt (refine' ne_po ?q110wF ?q110wX ?q110wN ?q110wu ?q110wp1 ?q110wp2 ?_; (case q110wF => k_asm); (case q110wX => k_asm); (case q110wN => k_asm); (case q110wp1 => k_extra "my PO"); (case q110wp2 => k_extra "my PO"); (case q110wu => ktr_units); k_whole))
  k_with "my compareOp Lt ref ref" => (k_here; k_dflt (refine' lt_po ?q111wF ?q111wX ?q111wN ?q111wu ?q111wp1 ?q111wp2 ?_; (case q111wF => k_asm); (case q111wX => k_asm); (case q111wN => k_asm); (case q111wp1 => k_extra "my PO"); (case q111wp2 => k_extra "my PO"); (case q111wu => ktr_units); k_whole))
  k_with "my compareOp LtE ref ref" => (k_here; k_dflt (refine' le_po ?q112wF ?q112wX ?q112wN ?q112wu ?q112wp1 ?q112wp2 ?_; (case q112wF => k_asm); (case q112wX => k_asm); (case q112wN => k_asm); (case q112wp1 => k_extra "my PO"); (case q112wp2 => k_extra "my PO"); (case q112wu => ktr_units); k_whole))
  k_with "my compareOp Is ref ref" => (k_here; (first | (with_reducible refine' is_ori_col ?q113wF ?q113wX ?_) | (with_reducible refine' is_ori ?q113wF ?q113wX ?_)); (case q113wF => k_asm); (case q113wX => k_asm); k_whole)
  k_with "my getMethod type:tuple" => (k_here; (with_reducible refine' method_type ?q114wF ?q114wX ?q114wm ?q114wn ?q114we ?q114wh ?_); (case q114wF => k_asm); (case q114wX => k_asm); (case q114wm => exact meta_tuple); (case q114wn => decide +kernel); (case q114we => k_dflt k_is); (case q114wh => k_handed); k_whole)
  k_with "my call builtin:tuple.__new__" => (k_here; (with_reducible show wpAny _ _ (call (Value.builtin "tuple.__new__") [Value.ref 132, Value.ref _]) _ _ _); k_dflt (refine' pnew_at ?q115wF ?q115wX ?q115wN ?q115whm ?q115whc ?q115whd ?_; (case q115wF => k_asm); (case q115wX => k_asm); (case q115wN => k_asm); (case q115whm => k_mem); (case q115whc => exact rfl); (case q115whd => exact rfl)); k_whole; intro p' d' h' F' N')
  k_with "my exec Assign" => (k_fold)
  k_with "my exec If" => (k_fold)
  k_with "my eval BinOp" => (k_fold)
  k_with "my eval Tuple" => (k_fold)
  k_with "my eval Call" => (k_fold)
  k_with "my eval Call Attribute" => (k_fold)
  k_with "my storeName" => (k_here; k_dflt (refine' storeL ?q122wF ?q122wN ?_ ?q122wa ?q122wb; (case q122wF => k_asm); (case q122wN => k_asm); (case q122wa => rfl); (case q122wb => rfl); k_whole; intro m' h' tk' F' N'; (try k_sweep)))
  k_with "my eval Name" => (k_here; k_dflt (refine' nameL ?q123wF ?q123wv ?_ ?q123wok ?q123whl; (case q123wF => k_asm); (case q123whl => rfl); (case q123wok => rfl); (case q123wv => rfl); k_whole))
  k_with "my eval Attribute Name" => (k_here; k_dflt (refine' attrL ?q124wF ?q124wv ?_ ?q124wok ?q124whl; (case q124wF => k_asm); (case q124whl => rfl); (case q124wok => rfl); (case q124wv => rfl); k_whole))
  k_with "my spliced" => (k_here; k_dflt (first
    | ((with_reducible refine' argLL ?q125wF ?q125wv ?q125wu ?_ ?q125wok ?q125woj ?q125whl); (case q125wF => k_asm); (case q125whl => rfl); (case q125wok => rfl); (case q125woj => rfl); (case q125wv => rfl); (case q125wu => rfl); k_whole)
    | ((with_reducible refine' argL1 ?q125wF ?q125wv ?_ ?q125wok ?q125whl); (case q125wF => k_asm); (case q125whl => rfl); (case q125wok => rfl); (case q125wv => rfl); k_whole)
    | ((with_reducible refine' argL ?q125wF ?q125wv ?_ ?q125wok ?q125whl); (case q125wF => k_asm); (case q125whl => rfl); (case q125wok => rfl); (case q125wv => rfl); k_whole)))
  k_with "my eval Call Attribute" => (k_here; k_dflt (refine' methL ?q126wF ?q126wv ?_ ?q126wok ?q126whl ?q126whe; (case q126wF => k_asm); (case q126whl => rfl); (case q126wok => rfl); (case q126wv => rfl); (case q126whe => rfl); k_whole))
  k_with "my isTrue Compare" => (k_here; k_dflt (first
    | ((with_reducible refine' cmpLL ?q127wF ?q127wv ?q127wu ?_ ?q127wok ?q127woj ?q127whl ?q127whm); (case q127wF => k_asm); (case q127whl => rfl); (case q127wok => rfl); (case q127woj => rfl); (case q127whm => with_unfolding_all rfl); (case q127wv => rfl); (case q127wu => rfl); k_whole)
    | ((with_reducible refine' cmpL ?q127wF ?q127wv ?_ ?q127wok ?q127whl ?q127whm); (case q127wF => k_asm); (case q127whl => rfl); (case q127wok => rfl); (case q127whm => with_unfolding_all rfl); (case q127wv => rfl); k_whole)))
  trivial
theorem k_point (w : World) {dp un : Nat} {gd : Option (List Code)} {cn : Str} {cs : Scope} {a : Addr} {ccd : Value} {cl : List (Str × Addr)} {outer : List Env} {A₀ : Around} {base h₀ : Heap} {L : Addr} {m : Str → Option Value}
    {pr : Program} {loose : List Str} {mean : ExcName → Option Value} {mg mb : Str → Option Value} {s : Shared} {Q E : Value → Shared → Prop} {news : List (Addr × Obj)} {p : Pt} {tx ty : Tok}
    (B : Below A₀ base outer h₀) (F : Fr h₀ L s.heap m) (X : (Mine.k0.heap_1_39 w.params).In h₀) (N : News h₀ L s.heap news) (T : Top pr loose mean mg mb h₀) (hcs : cs.kind = .function) (hd : dp + 8 < recursionLimit) (hu : un + 60 < cLine)
    (hret : ∀ (nw : List (Addr × Obj)) (r : Addr) (h' : Heap) (tk' : Nat), Fr h₀ L h' m → News h₀ L h' (nw ++ news) → Po (nw ++ news) r p → Q (.ref r) { s with heap := h', toks := tk' }) :
    wpAny (model PySem.Challenge.rw_ix0019_01.prog w) (ktrTop dp un gd cn cs L a ccd cl outer) (call (.ref 132) [.int p.1 tx, .int p.2 ty]) Q E s := by
  revert X
  k_fill
  intro X
  refine wpAny_call (po_make (X.keeps F.keep) ?_)
  k_dflt cell_enter
  k_steps
  rotate_left 2
  rotate_right 2
  · refine' News.get ?N ?hm
    case N => assumption
    case hm => k_mem
  · exact hret [_, _, _] _ _ _ (by k_asm) (by k_asm) ⟨_, _, _, _, _, List.mem_cons_self, List.mem_cons_of_mem _ List.mem_cons_self⟩
end
section
open PySem PySem.W PyProof.Rows PySem.Calls PySem.Spec
set_option Elab.async false
set_option maxRecDepth 100000
set_option maxHeartbeats 8000000
theorem set_W14 : True := by
  k_with_none
  k_with "my MEM" => first | ktr_member | with_reducible exact List.mem_cons_self | (with_reducible refine' List.mem_cons_of_mem _ ?_; k_extra "my MEM") | (with_reducible refine' List.mem_append_right _ ?_; k_extra "my MEM") | (with_reducible refine' List.mem_append_left _ ?_; k_extra "my MEM")
  k_with "my CELL" => (refine' code_def ?qcellk1 ?qcellk2 ?qcellk3 ?qcellk4 ?qcellk5 ?qcellkA ?qcellkF ?qcellkK ?qcellk6 ?qcellk7 ?qcellk8 ?qcellk9 ?qcellkB ?_ ?qcellc2 ?qcellc3 ?qcellc4 ?qcellc5; (case qcellkA => exact rfl); (case qcellkF => exact rfl); (case qcellkK => first | assumption | exact rfl); (case qcellk1 => k_asm); (case qcellk2 => k_asm); (case qcellk3 => k_asm); (case qcellk4 => k_asm); (case qcellk5 => k_asm); (case qcellk6 => k_is); (case qcellk7 => k_is); (case qcellk8 => ktr_room); (case qcellk9 => first | exact BindsTo.of_eq rfl | exact binds_K (by k_in) rfl (by k_is) rfl rfl rfl); (case qcellc5 => decide); (case qcellkB => exact locs rfl); (case qcellc2 => exact rfl); (case qcellc3 => exact rfl); (case qcellc4 => exact rfl); k_whole; intro g' L' h' FG' F' N' B' X' T'; (try dsimp only); (try k_lift B'); (try k_fold))
  k_with "my testChain" => first | with_reducible refine test_link ?_ | with_reducible refine test_last ?_ | with_unfolding_all refine test_link ?_ | with_unfolding_all refine test_last ?_
  k_with "my SUB" => (intro x hx; first | exact hx | (simp only [List.mem_append, List.mem_cons, hx, true_or, or_true]; done) | (simp only [List.mem_append, List.mem_cons] at hx ⊢; simp_all; done))
  k_with "my PO" => first | assumption | exact Po.mono (by assumption) (by k_extra "my SUB")
  k_with "my CTX" => ((case q9B => k_asm); (case q9F => k_asm); (case q9X => k_asm); (case q9N => k_asm); (case q9T => k_asm); (case q9K => first | assumption | exact rfl); (case q9d => ktr_room); (case q9u => ktr_units))
  k_with "my getAttr ref" => (k_here; (with_reducible show wpAny _ _ (getAttr (Value.ref _) (PySem.Str.ofString "x") _) _ _ _); k_dflt (refine' getx _ ?q9B ?q9F ?q9X ?q9N ?q9T ?q9K ?q9d ?q9u ?q132wp ?_; k_extra "my CTX"; (case q132wp => k_extra "my PO"); k_whole; intro t' h' tk' F' N'; (try k_sweep)))
  k_with "my getAttr ref" => (k_here; (with_reducible show wpAny _ _ (getAttr (Value.ref _) (PySem.Str.ofString "y") _) _ _ _); k_dflt (refine' gety _ ?q9B ?q9F ?q9X ?q9N ?q9T ?q9K ?q9d ?q9u ?q133wp ?_; k_extra "my CTX"; (case q133wp => k_extra "my PO"); k_whole; intro t' h' tk' F' N'; (try k_sweep)))
  k_with "my call ref" => (k_here; (with_reducible show wpAny _ _ (call (Value.ref 364) [_, _, _, _]) _ _ _); k_dflt (refine' k_angle _ ?q9B ?q9F ?q9X ?q9N ?q9T ?q9K ?q9d ?q9u ?q134wp1 ?q134wp2 ?q134wp3 ?q134wb1 ?q134wb2 ?q134wb3 ?_; k_extra "my CTX"; (case q134wp1 => k_extra "my PO"); (case q134wp2 => k_extra "my PO"); (case q134wp3 => k_extra "my PO"); (case q134wb1 => k_extra "my BP"); (case q134wb2 => k_extra "my BP"); (case q134wb3 => k_extra "my BP"); k_whole; intro h' tk' F' N'; (try k_sweep)))
  k_with "my BP" => first | assumption | exact Bp.min (by assumption) (by assumption) | exact Bp.max (by assumption) (by assumption)
  k_with "my call builtin:min" => (k_here; (with_reducible show wpAny _ _ (call (Value.builtin "min") [Value.ref _, Value.ref _]) _ _ _); k_dflt (refine' min2_po ?q136whh ?q136wF ?q136wX ?q136wN ?q136wu ?q136wp1 ?q136wp2 ?_; (case q136whh => exact rfl); (case q136wF => k_asm); (case q136wX => k_asm); (case q136wN => k_asm); (case q136wu => ktr_units); (case q136wp1 => k_extra "my PO"); (case q136wp2 => k_extra "my PO"); k_whole; intro c' h' tk' F' N' P'; (try k_sweep)))
  k_with "my call builtin:max" => (k_here; (with_reducible show wpAny _ _ (call (Value.builtin "max") [Value.ref _, Value.ref _]) _ _ _); k_dflt (refine' max2_po ?q137whh ?q137wF ?q137wX ?q137wN ?q137wu ?q137wp1 ?q137wp2 ?_; (case q137whh => exact rfl); (case q137wF => k_asm); (case q137wX => k_asm); (case q137wN => k_asm); (case q137wu => ktr_units); (case q137wp1 => k_extra "my PO"); (case q137wp2 => k_extra "my PO"); k_whole; intro c' h' tk' F' N' P'; (try k_sweep)))
  k_with "my compareOp Eq ref ref" => (k_here; k_dflt (refine' eq_po ?q138wF ?q138wX ?q138wN ?q138wu ?q138wp1 ?q138wp2 ?_; (case q138wF => k_asm); (case q138wX => k_asm); (case q138wN => k_asm); (case q138wp1 => k_extra "my PO"); (case q138wp2 => k_extra "my PO"); (case q138wu => ktr_units); k_whole))
  k_with "my compareOp NotEq ref ref" => (k_here; k_dflt (refine' ne_po ?q139wF ?q139wX ?q139wN ?q139wu ?q139wp1 ?q139wp2 ?_; (case q139wF => k_asm); (case q139wX => k_asm); (case q139wN => k_asm); (case q139wp1 => k_extra "my PO"); (case q139wp2 => k_extra "my PO"); (case q139wu => ktr_units); k_whole))
  k_with "my compareOp Lt ref ref" => (k_here; k_dflt (refine' lt_po ?q140wF ?q140wX ?q140wN ?q140wu ?q140wp1 ?q140wp2 ?_; (case q140wF => k_asm); (case q140wX => k_asm); (case q140wN => k_asm); (case q140wp1 => k_extra "my PO"); (case q140wp2 => k_extra "my PO"); (case q140wu => ktr_units); k_whole))
  k_with "my compareOp LtE ref ref" => (k_here; k_dflt (refine' le_po ?q141wF ?q141wX ?q141wN ?q141wu ?q141wp1 ?q141wp2 ?_; (case q141wF => k_asm); (case q141wX => k_asm); (case q141wN => k_asm); (case q141wp1 => k_extra "my PO"); (case q141wp2 => k_extra "my PO"); (case q141wu => ktr_units); k_whole))
  k_with "my compareOp Is ref ref" => (k_here; (first | (with_reducible refine' is_ori_col ?q142wF ?q142wX ?_) | (with_reducible refine' is_ori ?q142wF ?q142wX ?_)); (case q142wF => k_asm); (case q142wX => k_asm); k_whole)
  k_with "my call ref" => (k_here; (with_reducible show wpAny _ _ (call (Value.ref 132) [Value.int _ _, Value.int _ _]) _ _ _); k_dflt (refine' k_point _ (p := (_, _)) ?q9B ?q9F ?q9X ?q9N ?q9T ?q9K ?q9d ?q9u ?_; k_extra "my CTX"; k_whole; intro nw' r' h' tk' F' N' P'; (try k_sweep)))
  k_with "my binaryOp FloorDiv int int" => (k_here; (with_reducible show wpAny _ _ (binaryOp _ (Value.int _ _) (Value.int _ _)) _ _ _); k_dflt (refine' fdiv_big ?q144wfz1 ?q144wfz2 ?q144wfz3 ?q144wfz4 ?q144wfz5 ?q144wfz6 ?q144wfz7 ?q144wfz8 ?q144wfz9 ?q144wfz10 ?_; (case q144wfz1 => assumption); (case q144wfz2 => k_asm); (case q144wfz3 => k_asm); (case q144wfz4 => assumption); (case q144wfz5 => first | exact rfl | exact PySem.Around.frames_deeper (PyProof.Rows.Below.stack (by assumption))); (case q144wfz6 => exact rfl); (case q144wfz7 => exact rfl); (case q144wfz8 => exact rfl); (case q144wfz9 => exact rfl); (case q144wfz10 => ktr_room); k_whole))
  k_with "my pyIter ref" => (k_here; (with_reducible show wpAny _ _ (pyIter (Value.ref _)) (fun it s₂ => TurnsAt _ _ _ _ _ _ _ _ _ it s₂) _ _); (rename Fr _ _ _ _ => lF'); (with_unfolding_all refine' iter_tupTurns ?q145whh lF' ?q145wN ?q145whm ?q145whc ?q145whd ?_; (case q145whh => with_unfolding_all rfl); (case q145wN => k_asm); (case q145whm => k_mem); (case q145whc => exact rfl); (case q145whd => exact rfl); k_whole); clear lF'; intro i' l1; (have l2 := l1); (try k_lt l2))
  k_with "my UnrEndW" => (refine' unr_end1 ?q146wF ?q146wN ?q146wne ?q146wsub ?_; (case q146wF => assumption); (case q146wN => assumption); (case q146wne => assumption); (case q146wsub => exact ⟨by k_mem, trivial⟩))
  k_with "my RETPO" => (refine' ret_po ?q147wF ?q147wN ?q147wS ?q147wP ?q147wS2 ?_; (case q147wF => k_asm); (case q147wN => k_asm); (case q147wS => k_extra "my SUB"); (case q147wP => assumption); (case q147wS2 => k_extra "my SUB"))
  k_with "my exec Assign" => (k_fold)
  k_with "my exec If" => (k_fold)
  k_with "my eval BinOp" => (k_fold)
  k_with "my eval Tuple" => (k_fold)
  k_with "my eval Call" => (k_fold)
  k_with "my eval Call Attribute" => (k_fold)
  k_with "my storeName" => (k_here; k_dflt (refine' storeL ?q154wF ?q154wN ?_ ?q154wa ?q154wb; (case q154wF => k_asm); (case q154wN => k_asm); (case q154wa => rfl); (case q154wb => rfl); k_whole; intro m' h' tk' F' N'; (try k_sweep)))
  k_with "my eval Name" => (k_here; k_dflt (refine' nameL ?q155wF ?q155wv ?_ ?q155wok ?q155whl; (case q155wF => k_asm); (case q155whl => rfl); (case q155wok => rfl); (case q155wv => rfl); k_whole))
  k_with "my eval Attribute Name" => (k_here; k_dflt (refine' attrL ?q156wF ?q156wv ?_ ?q156wok ?q156whl; (case q156wF => k_asm); (case q156whl => rfl); (case q156wok => rfl); (case q156wv => rfl); k_whole))
  k_with "my spliced" => (k_here; k_dflt (first
    | ((with_reducible refine' argLL ?q157wF ?q157wv ?q157wu ?_ ?q157wok ?q157woj ?q157whl); (case q157wF => k_asm); (case q157whl => rfl); (case q157wok => rfl); (case q157woj => rfl); (case q157wv => rfl); (case q157wu => rfl); k_whole)
    | ((with_reducible refine' argL1 ?q157wF ?q157wv ?_ ?q157wok ?q157whl); (case q157wF => k_asm); (case q157whl => rfl); (case q157wok => rfl); (case q157wv => rfl); k_whole)
    | ((with_reducible refine' argL ?q157wF ?q157wv ?_ ?q157wok ?q157whl); (case q157wF => k_asm); (case q157whl => rfl); (case q157wok => rfl); (case q157wv => rfl); k_whole)))
  k_with "my eval Call Attribute" => (k_here; k_dflt (refine' methL ?q158wF ?q158wv ?_ ?q158wok ?q158whl ?q158whe; (case q158wF => k_asm); (case q158whl => rfl); (case q158wok => rfl); (case q158wv => rfl); (case q158whe => rfl); k_whole))
  k_with "my isTrue Compare" => (k_here; k_dflt (first
    | ((with_reducible refine' cmpLL ?q159wF ?q159wv ?q159wu ?_ ?q159wok ?q159woj ?q159whl ?q159whm); (case q159wF => k_asm); (case q159whl => rfl); (case q159wok => rfl); (case q159woj => rfl); (case q159whm => with_unfolding_all rfl); (case q159wv => rfl); (case q159wu => rfl); k_whole)
    | ((with_reducible refine' cmpL ?q159wF ?q159wv ?_ ?q159wok ?q159whl ?q159whm); (case q159wF => k_asm); (case q159whl => rfl); (case q159wok => rfl); (case q159whm => with_unfolding_all rfl); (case q159wv => rfl); k_whole)))
  trivial
def isxOk (a b c d : Pt) : Prop := ¬ (a = c ∨ a = d) → ¬ (b = c ∨ b = d) →
  ((b.1 - a.1) * (d.2 - c.2) - (b.2 - a.2) * (d.1 - c.1) ≠ 0) ∧
  ((b.1 - a.1) * ((c.1 - a.1) * (d.2 - c.2) - (c.2 - a.2) * (d.1 - c.1))).fmod ((b.1 - a.1) * (d.2 - c.2) - (b.2 - a.2) * (d.1 - c.1)) = 0 ∧
  ((b.2 - a.2) * ((c.1 - a.1) * (d.2 - c.2) - (c.2 - a.2) * (d.1 - c.1))).fmod ((b.1 - a.1) * (d.2 - c.2) - (b.2 - a.2) * (d.1 - c.1)) = 0
theorem fdiv_big {w : World} {A : Around} {h₀ : Heap} {L : Addr} {m : Str → Option Value} {pr : Program} {loose : List Str} {mean : ExcName → Option Value} {mg mb : Str → Option Value} {s : Shared} {Q E : Value → Shared → Prop} {env : Env} {l : List Env} {a b : Int} {t u : Tok}
    (hb : b ≠ 0) (F : Fr h₀ L s.heap m) (T : Top pr loose mean mg mb h₀) (hi : importsNone pr = true) (hfr : A.frames = some (env :: l)) (hg : env.scope.isGenerator = false) (hc : env.scope.isCoroutine = false) (hbu : env.builtins = builtinsNs) (hgl : env.globals = mainGlobals) (hd : A.depth + 100 < recursionLimit)
    (h : Q (.int (a.fdiv b) s.toks) { s with toks := s.toks + 1 }) : wpAny (model PySem.Challenge.rw_ix0019_01.prog w) A (binaryOp .FloorDiv (.int a t) (.int b u)) Q E s :=
  floordiv_int hb h (Or.inr (PylongRoom.of (Heap.NoLimit.keeps T.nolimit F.keep) hd (SeerAt.of (Heap.NoSeer.keeps (T.seer hi) F.keep) rfl hfr hg hc hbu hgl)))
theorem unr_end1 {h₀ : Heap} {L i : Addr} {o : Obj} {news' keep : List (Addr × Obj)} {s₁ : Shared} {h' : Heap} {tk : Nat} {m' : Str → Option Value} {R : (Str → Option Value) → List (Addr × Obj) → Prop} (F : Fr h₀ L h' m') (N : News h₀ L h' ((i, o) :: news'))
    (ne : ∀ p ∈ news', p.1 < i) (sub : SubL keep news') (r : R m' news') : UnrEndW h₀ L s₁ [(i, o)] (fun m' n' => SubL keep n' ∧ R m' n') { s₁ with heap := h', toks := tk } :=
  ⟨h', tk, m', news', rfl, F, N, fun p hp q hq => by rw [List.mem_singleton.mp hq]; exact Nat.ne_of_lt (ne p hp), sub, r⟩
theorem ret_all {h₀ h : Heap} {L : Addr} {all news : List (Addr × Obj)} (N : News h₀ L h all) (hs : ∀ x ∈ news, x ∈ all) : News h₀ L h (all ++ news) := fun p hp => (List.mem_append.mp hp).elim (N p) fun h => N p (hs p h)
theorem ret_po {h₀ h : Heap} {L : Addr} {m : Str → Option Value} {all news n : List (Addr × Obj)} {r : Addr} {p q : Pt} (F : Fr h₀ L h m) (N : News h₀ L h all) (hs : ∀ x ∈ news, x ∈ all) (P : Po n r p) (hn : ∀ x ∈ n, x ∈ all) (e : q = p) : ∃ nw, Fr h₀ L h m ∧ News h₀ L h (nw ++ news) ∧ Po (nw ++ news) r q :=
  ⟨all, F, ret_all N hs, by subst e; exact Po.mono P fun x hx => List.mem_append_left _ (hn x hx)⟩
theorem isx_a {a b c d : Pt} (h : a = c ∨ a = d) : isx a b c d = a := by unfold isx; rw [if_pos h]
theorem isx_b {a b c d : Pt} (h' : ¬ a = c) (h'' : ¬ a = d) (h : b = c ∨ b = d) : isx a b c d = b := by unfold isx; rw [if_neg (by rintro (e | e) <;> contradiction), if_pos h]
theorem isx_c {a b c d : Pt} (h1 : ¬ a = c) (h2 : ¬ a = d) (h3 : ¬ b = c) (h4 : ¬ b = d) : isx a b c d = (a.1 + ((b.1 - a.1) * ((c.1 - a.1) * (d.2 - c.2) - (c.2 - a.2) * (d.1 - c.1))).fdiv ((b.1 - a.1) * (d.2 - c.2) - (b.2 - a.2) * (d.1 - c.1)), a.2 + ((b.2 - a.2) * ((c.1 - a.1) * (d.2 - c.2) - (c.2 - a.2) * (d.1 - c.1))).fdiv ((b.1 - a.1) * (d.2 - c.2) - (b.2 - a.2) * (d.1 - c.1))) := by
  unfold isx; rw [if_neg (by rintro (e | e) <;> contradiction), if_neg (by rintro (e | e) <;> contradiction)]
theorem Po.as {news : List (Addr × Obj)} {r : Addr} {p q : Pt} (h : Po news r p) (e : q = p) : Po news r q := e ▸ h
theorem k_inter (w : World) {dp un : Nat} {gd : Option (List Code)} {cn : Str} {cs : Scope} {a : Addr} {ccd : Value} {cl : List (Str × Addr)} {outer : List Env} {A₀ : Around} {base h₀ : Heap} {L : Addr} {m : Str → Option Value}
    {pr : Program} {loose : List Str} {mean : ExcName → Option Value} {mg mb : Str → Option Value} {s : Shared} {Q E : Value → Shared → Prop} {news : List (Addr × Obj)} {cx s1 s2 : Addr} {P1 P2 P3 P4 : Pt}
    (B : Below A₀ base outer h₀) (F : Fr h₀ L s.heap m) (X : (Mine.k0.heap_1_39 w.params).In h₀) (N : News h₀ L s.heap news) (T : Top pr loose mean mg mb h₀) (hcs : cs.kind = .function) (hd : dp + 120 < recursionLimit) (hu : un + 160 < cLine)
    (hc : Cx news cx) (h1 : So news s1 P1 P2) (h2 : So news s2 P3 P4) (b1 : Bp P1) (b2 : Bp P2) (b3 : Bp P3) (b4 : Bp P4) (hi : importsNone pr = true) (ok : isxOk P1 P2 P3 P4)
    (hret : ∀ (nw : List (Addr × Obj)) (r : Addr) (h' : Heap) (tk' : Nat), Fr h₀ L h' m → News h₀ L h' (nw ++ news) → Po (nw ++ news) r (isx P1 P2 P3 P4) → Q (.ref r) { s with heap := h', toks := tk' }) :
    wpAny (model PySem.Challenge.rw_ix0019_01.prog w) (ktrTop dp un gd cn cs L a ccd cl outer) (call (.ref 378) [.ref cx, .ref s1, .ref s2]) Q E s := by
  revert X
  k_fill
  intro X
  refine Cx.elim hc ?_; clear hc; intro dc kc mc1 mc2
  refine So.elim h1 ?_; clear h1; intro d1 e1 t1 p1 e2 t2 p2 k1 m1 m2 x1 x2
  refine So.elim h2 ?_; clear h2; intro d2 e3 t3 p3 e4 t4 p4 k2 m3 m4 x3 x4
  obtain ⟨bv1, bv2⟩ := b1
  obtain ⟨bv3, bv4⟩ := b2
  obtain ⟨bv5, bv6⟩ := b3
  obtain ⟨bv7, bv8⟩ := b4
  refine wpAny_call ?_
  k_dflt cell_enter
  k_steps
  all_goals try (refine (fun z : ∃ nw, Fr h₀ L _ m ∧ News h₀ L _ (nw ++ news) ∧ Po (nw ++ news) _ _ => z.elim fun nw z => hret nw _ _ _ z.1 z.2.1 z.2.2) ?_; walk_at "RETPO")
  all_goals first
    | exact isx_a (by first | exact Or.inl (by assumption) | exact Or.inr (by assumption))
    | exact isx_b (by assumption) (by assumption) (by first | exact Or.inl (by assumption) | exact Or.inr (by assumption))
    | exact isx_c (by assumption) (by assumption) (by assumption) (by assumption)
    | (exfalso; obtain ⟨o1, o2, o3⟩ := ok (by rintro (e | e) <;> contradiction) (by rintro (e | e) <;> contradiction); first | exact absurd (by assumption) o1 | exact absurd o2 (by assumption) | exact absurd o3 (by assumption))
    | trace_state
end
section
open PySem PySem.W PyProof.Rows PySem.Calls PySem.Spec
set_option Elab.async false
set_option maxRecDepth 100000
set_option maxHeartbeats 4000000
theorem best4 (lt : Pt → Pt → Bool) (P : Value → Pt → Prop) {a b c d : Value} {p q r t : Pt} (h0 : P a p) (h1 : P b q) (h2 : P c r) (h3 : P d t) :
    P ([a, b, c, d].getD (argBest (fun i j => lt ([p, q, r, t].getD i p) ([p, q, r, t].getD j p)) 3) .none)
      (if lt t (if lt r (if lt q p then q else p) then r else (if lt q p then q else p)) then t else (if lt r (if lt q p then q else p) then r else (if lt q p then q else p))) := by
  by_cases e1 : lt q p = true
  · by_cases e2 : lt r q = true
    · by_cases e3 : lt t r = true
      · simp [argBest, e1, e2, e3]; exact h3
      · simp [argBest, e1, e2, e3]; exact h2
    · by_cases e3 : lt t q = true
      · simp [argBest, e1, e2, e3]; exact h3
      · simp [argBest, e1, e2, e3]; exact h1
  · by_cases e2 : lt r p = true
    · by_cases e3 : lt t r = true
      · simp [argBest, e1, e2, e3]; exact h3
      · simp [argBest, e1, e2, e3]; exact h2
    · by_cases e3 : lt t p = true
      · simp [argBest, e1, e2, e3]; exact h3
      · simp [argBest, e1, e2, e3]; exact h0
section
variable {w : World} {A : Around} {E Q : Value → Shared → Prop} {s : Shared} {h₀ : Heap} {L : Addr} {m : Str → Option Value} {news : List (Addr × Obj)} {a b c d : Addr} {p q r t : Pt}
theorem min4_po (hh : A.handled = none) (F : Fr h₀ L s.heap m) (X : (Mine.k0.heap_1_39 w.params).In h₀) (N : News h₀ L s.heap news) (hu : A.units + 8 < cLine) (x0 : Po news a p) (x1 : Po news b q) (x2 : Po news c r) (x3 : Po news d t)
    (h : ∀ c h' tk, Fr h₀ L h' m → News h₀ L h' news → Po news c (minP (minP (minP p q) r) t) → Q (.ref c) { s with heap := h', toks := tk }) : wpAny (model PySem.Challenge.rw_ix0019_01.prog w) A (call (.builtin "min") [.ref a, .ref b, .ref c, .ref d]) Q E s := by
  refine call_min_of (bt := fun i j => ltP ([p, q, r, t].getD i p) ([p, q, r, t].getD j p)) rfl (by simp) (args_min4 _ _ _ _) hh (fun i j hi hj s' Q' E' st hq => ?_) fun h' tk st => ?_
  · have N' := N.grown st
    have pick : ∀ {i : Nat}, i < 4 → ∃ z, ([.ref a, .ref b, .ref c, .ref d] : List Value).getD i .none = .ref z ∧ Po news z ([p, q, r, t].getD i p) := fun {i} hi => get4 (fun (v : Value) (p : Pt) => ∃ c, v = .ref c ∧ Po news c p) ⟨_, rfl, x0⟩ ⟨_, rfl, x1⟩ ⟨_, rfl, x2⟩ ⟨_, rfl, x3⟩ (lt4 hi)
    obtain ⟨c, ec, xc⟩ := pick hi
    obtain ⟨d, ed, xd⟩ := pick hj
    rw [ec, ed]
    exact pt_lt (k := 0) (tupCls_po _ w (X.keeps fun b o e => st b o (F.keep b o e)) rfl) (xc.pt N') (xd.pt N') A.in1 E' Q' s' rfl (by rw [units_one]; omega) hq
  · obtain ⟨z, ez, xz⟩ := best4 ltP (fun v p => ∃ c, v = .ref c ∧ Po news c p) (a := .ref a) (b := .ref b) (c := .ref c) (d := .ref d) ⟨_, rfl, x0⟩ ⟨_, rfl, x1⟩ ⟨_, rfl, x2⟩ ⟨_, rfl, x3⟩
    have hl : ([.ref a, .ref b, .ref c, .ref d] : List Value).length - 1 = 3 := rfl
    rw [hl, ez]
    exact h z h' tk (F.grownK st) (N.grown st) xz
theorem max4_po (hh : A.handled = none) (F : Fr h₀ L s.heap m) (X : (Mine.k0.heap_1_39 w.params).In h₀) (N : News h₀ L s.heap news) (hu : A.units + 8 < cLine) (x0 : Po news a p) (x1 : Po news b q) (x2 : Po news c r) (x3 : Po news d t)
    (h : ∀ c h' tk, Fr h₀ L h' m → News h₀ L h' news → Po news c (maxP (maxP (maxP p q) r) t) → Q (.ref c) { s with heap := h', toks := tk }) : wpAny (model PySem.Challenge.rw_ix0019_01.prog w) A (call (.builtin "max") [.ref a, .ref b, .ref c, .ref d]) Q E s := by
  refine call_max_of (bt := fun i j => gtP ([p, q, r, t].getD i p) ([p, q, r, t].getD j p)) rfl (by simp) (args_max4 _ _ _ _) hh (fun i j hi hj s' Q' E' st hq => ?_) fun h' tk st => ?_
  · have N' := N.grown st
    have pick : ∀ {i : Nat}, i < 4 → ∃ z, ([.ref a, .ref b, .ref c, .ref d] : List Value).getD i .none = .ref z ∧ Po news z ([p, q, r, t].getD i p) := fun {i} hi => get4 (fun (v : Value) (p : Pt) => ∃ c, v = .ref c ∧ Po news c p) ⟨_, rfl, x0⟩ ⟨_, rfl, x1⟩ ⟨_, rfl, x2⟩ ⟨_, rfl, x3⟩ (lt4 hi)
    obtain ⟨c, ec, xc⟩ := pick hi
    obtain ⟨d, ed, xd⟩ := pick hj
    rw [ec, ed]
    exact pt_gt (k := 0) (tupCls_po _ w (X.keeps fun b o e => st b o (F.keep b o e)) rfl) (xc.pt N') (xd.pt N') A.in1 E' Q' s' rfl (by rw [units_one]; omega) hq
  · obtain ⟨z, ez, xz⟩ := best4 gtP (fun v p => ∃ c, v = .ref c ∧ Po news c p) (a := .ref a) (b := .ref b) (c := .ref c) (d := .ref d) ⟨_, rfl, x0⟩ ⟨_, rfl, x1⟩ ⟨_, rfl, x2⟩ ⟨_, rfl, x3⟩
    have hl : ([.ref a, .ref b, .ref c, .ref d] : List Value).length - 1 = 3 := rfl
    rw [hl, ez]
    exact h z h' tk (F.grownK st) (N.grown st) xz
end
end
section
open PySem PySem.W PyProof.Rows PySem.Calls PySem.Spec
set_option Elab.async false
set_option maxRecDepth 100000
set_option maxHeartbeats 8000000
section
variable {w : World} {A : Around} {E Q : Value → Shared → Prop} {s : Shared} {h₀ : Heap} {L : Addr} {m : Str → Option Value} {news : List (Addr × Obj)}
theorem sorted4_led {l : Addr} {o : Obj} {n : Nat} {a0 a1 a2 a3 : Addr} {p0 p1 p2 p3 : Pt} (F : Fr h₀ L s.heap m) (X : (Mine.k0.heap_1_39 w.params).In h₀) (N : News h₀ L s.heap news) (hm : (l, o) ∈ news) (hc : o.cls = .type "list") (hd : o.data = .seq #[.ref a0, .ref a1, .ref a2, .ref a3] n)
    (h0 : Po news a0 p0) (h1 : Po news a1 p1) (h2 : Po news a2 p2) (h3 : Po news a3 p3) (hu : A.units + 8 < cLine)
    (h : ∀ D c b0 b1 b2 b3 q0 q1 q2 q3 h', Fr h₀ L h' m → News h₀ L h' ((D, listOf #[.ref b0, .ref b1, .ref b2, .ref b3] c) :: news) → (∀ q ∈ news, q.1 < D) → Po news b0 q0 → Po news b1 q1 → Po news b2 q2 → Po news b3 q3 → srtP [p0, p1, p2, p3] = [q0, q1, q2, q3] → Q (.ref D) { s with heap := h' }) :
    wpAny (model PySem.Challenge.rw_ix0019_01.prog w) A (call (.builtin "sorted") [.ref l]) Q E s :=
  sorted4_po (fun h hk => tupCls_po _ w (X.keeps hk) rfl) F N ⟨o, (N _ hm).1, hc, n, hd⟩ h0 h1 h2 h3 hu h
end
/-- how an answer lies in the ledger -/
def RsP (news : List (Addr × Obj)) (v : Value) : Res → Prop
  | .empty => v = .ref 307
  | .mp p => ∃ a l pa c, v = .ref a ∧ Mp news a l ∧ (l, listOf #[.ref pa] c) ∈ news ∧ Po news pa p
  | .seg s => ∃ a, v = .ref a ∧ So news a s.1 s.2
  | .mseg [s, t] => ∃ a l sa ta c, v = .ref a ∧ Ms news a l ∧ (l, listOf #[.ref sa, .ref ta] c) ∈ news ∧ So news sa s.1 s.2 ∧ So news ta t.1 t.2
  | .mseg [s, t, u, z] => ∃ a l sa ta ua za c, v = .ref a ∧ Ms news a l ∧ (l, listOf #[.ref sa, .ref ta, .ref ua, .ref za] c) ∈ news ∧ So news sa s.1 s.2 ∧ So news ta t.1 t.2 ∧ So news ua u.1 u.2 ∧ So news za z.1 z.2
  | .mseg _ => False
theorem RsP.mono {n n' : List (Addr × Obj)} {v : Value} {r : Res} (h : RsP n v r) (hs : ∀ x ∈ n, x ∈ n') : RsP n' v r := by
  unfold RsP at h ⊢
  split at h
  · exact h
  · obtain ⟨a, l, pa, c, rfl, h1, h2, h3⟩ := h
    exact ⟨a, l, pa, c, rfl, h1.mono hs, hs _ h2, h3.mono hs⟩
  · obtain ⟨a, rfl, h1⟩ := h
    exact ⟨a, rfl, h1.mono hs⟩
  · obtain ⟨a, l, sa, ta, c, rfl, h1, h2, h3, h4⟩ := h
    exact ⟨a, l, sa, ta, c, rfl, h1.mono hs, hs _ h2, h3.mono hs, h4.mono hs⟩
  · obtain ⟨a, l, sa, ta, ua, za, c, rfl, h1, h2, h3, h4, h5, h6⟩ := h
    exact ⟨a, l, sa, ta, ua, za, c, rfl, h1.mono hs, hs _ h2, h3.mono hs, h4.mono hs, h5.mono hs, h6.mono hs⟩
  · exact h
theorem ret_rs {h₀ h : Heap} {L : Addr} {m : Str → Option Value} {all news : List (Addr × Obj)} {v : Value} {r : Res} (F : Fr h₀ L h m) (N : News h₀ L h all) (hs : ∀ x ∈ news, x ∈ all) (R : RsP all v r) : ∃ nw, Fr h₀ L h m ∧ News h₀ L h (nw ++ news) ∧ RsP (nw ++ news) v r :=
  ⟨all, F, ret_all N hs, R.mono fun _ hx => List.mem_append_left _ hx⟩
theorem q4_of {a b c d q0 q1 q2 q3 : Pt} (h : srtP [a, b, c, d] = [q0, q1, q2, q3]) : q4 a b c d = (q0, q1, q2, q3) := by unfold q4; rw [h]
theorem set_W16 : True := by
  k_with_none
  k_with "my MEM" => first | ktr_member | with_reducible exact List.mem_cons_self | (with_reducible refine' List.mem_cons_of_mem _ ?_; k_extra "my MEM") | (with_reducible refine' List.mem_append_right _ ?_; k_extra "my MEM") | (with_reducible refine' List.mem_append_left _ ?_; k_extra "my MEM")
  k_with "my CELL" => (refine' code_def ?qcellk1 ?qcellk2 ?qcellk3 ?qcellk4 ?qcellk5 ?qcellkA ?qcellkF ?qcellkK ?qcellk6 ?qcellk7 ?qcellk8 ?qcellk9 ?qcellkB ?_ ?qcellc2 ?qcellc3 ?qcellc4 ?qcellc5; (case qcellkA => exact rfl); (case qcellkF => exact rfl); (case qcellkK => first | assumption | exact rfl); (case qcellk1 => k_asm); (case qcellk2 => k_asm); (case qcellk3 => k_asm); (case qcellk4 => k_asm); (case qcellk5 => k_asm); (case qcellk6 => k_is); (case qcellk7 => k_is); (case qcellk8 => ktr_room); (case qcellk9 => first | exact BindsTo.of_eq rfl | exact binds_K (by k_in) rfl (by k_is) rfl rfl rfl); (case qcellc5 => decide); (case qcellkB => exact locs rfl); (case qcellc2 => exact rfl); (case qcellc3 => exact rfl); (case qcellc4 => exact rfl); k_whole; intro g' L' h' FG' F' N' B' X' T'; (try dsimp only); (try k_lift B'); (try k_fold))
  k_with "my RETRS" => (refine' ret_rs ?q160wF ?q160wN ?q160wS ?_; (case q160wF => k_asm); (case q160wN => k_asm); (case q160wS => k_extra "my SUB"))
  k_with "my testChain" => first | with_reducible refine test_link ?_ | with_reducible refine test_last ?_ | with_unfolding_all refine test_link ?_ | with_unfolding_all refine test_last ?_
  k_with "my SUB" => (intro x hx; first | exact hx | (simp only [List.mem_append, List.mem_cons, hx, true_or, or_true]; done) | (simp only [List.mem_append, List.mem_cons] at hx ⊢; simp_all; done))
  k_with "my PO" => first | assumption | exact Po.mono (by assumption) (by k_extra "my SUB")
  k_with "my CTX" => ((case q9B => k_asm); (case q9F => k_asm); (case q9X => k_asm); (case q9N => k_asm); (case q9T => k_asm); (case q9K => first | assumption | exact rfl); (case q9d => ktr_room); (case q9u => ktr_units))
  k_with "my getAttr ref" => (k_here; (with_reducible show wpAny _ _ (getAttr (Value.ref _) (PySem.Str.ofString "x") _) _ _ _); k_dflt (refine' getx _ ?q9B ?q9F ?q9X ?q9N ?q9T ?q9K ?q9d ?q9u ?q165wp ?_; k_extra "my CTX"; (case q165wp => k_extra "my PO"); k_whole; intro t' h' tk' F' N'; (try k_sweep)))
  k_with "my getAttr ref" => (k_here; (with_reducible show wpAny _ _ (getAttr (Value.ref _) (PySem.Str.ofString "y") _) _ _ _); k_dflt (refine' gety _ ?q9B ?q9F ?q9X ?q9N ?q9T ?q9K ?q9d ?q9u ?q166wp ?_; k_extra "my CTX"; (case q166wp => k_extra "my PO"); k_whole; intro t' h' tk' F' N'; (try k_sweep)))
  k_with "my call ref" => (k_here; (with_reducible show wpAny _ _ (call (Value.ref 364) [_, _, _, _]) _ _ _); k_dflt (refine' k_angle _ ?q9B ?q9F ?q9X ?q9N ?q9T ?q9K ?q9d ?q9u ?q167wp1 ?q167wp2 ?q167wp3 ?q167wb1 ?q167wb2 ?q167wb3 ?_; k_extra "my CTX"; (case q167wp1 => k_extra "my PO"); (case q167wp2 => k_extra "my PO"); (case q167wp3 => k_extra "my PO"); (case q167wb1 => k_extra "my BP"); (case q167wb2 => k_extra "my BP"); (case q167wb3 => k_extra "my BP"); k_whole; intro h' tk' F' N'; (try k_sweep)))
  k_with "my BP" => first | assumption | exact Bp.min (by assumption) (by assumption) | exact Bp.max (by assumption) (by assumption)
  k_with "my call builtin:min" => (k_here; (with_reducible show wpAny _ _ (call (Value.builtin "min") [Value.ref _, Value.ref _]) _ _ _); k_dflt (refine' min2_po ?q169whh ?q169wF ?q169wX ?q169wN ?q169wu ?q169wp1 ?q169wp2 ?_; (case q169whh => exact rfl); (case q169wF => k_asm); (case q169wX => k_asm); (case q169wN => k_asm); (case q169wu => ktr_units); (case q169wp1 => k_extra "my PO"); (case q169wp2 => k_extra "my PO"); k_whole; intro c' h' tk' F' N' P'; (try k_sweep)))
  k_with "my call builtin:max" => (k_here; (with_reducible show wpAny _ _ (call (Value.builtin "max") [Value.ref _, Value.ref _]) _ _ _); k_dflt (refine' max2_po ?q170whh ?q170wF ?q170wX ?q170wN ?q170wu ?q170wp1 ?q170wp2 ?_; (case q170whh => exact rfl); (case q170wF => k_asm); (case q170wX => k_asm); (case q170wN => k_asm); (case q170wu => ktr_units); (case q170wp1 => k_extra "my PO"); (case q170wp2 => k_extra "my PO"); k_whole; intro c' h' tk' F' N' P'; (try k_sweep)))
  k_with "my compareOp Eq ref ref" => (k_here; k_dflt (refine' eq_po ?q171wF ?q171wX ?q171wN ?q171wu ?q171wp1 ?q171wp2 ?_; (case q171wF => k_asm); (case q171wX => k_asm); (case q171wN => k_asm); (case q171wp1 => k_extra "my PO"); (case q171wp2 => k_extra "my PO"); (case q171wu => ktr_units); k_whole))
  k_with "my compareOp NotEq ref ref" => (k_here; k_dflt (refine' ne_po ?q172wF ?q172wX ?q172wN ?q172wu ?q172wp1 ?q172wp2 ?_; (case q172wF => k_asm); (case q172wX => k_asm); (case q172wN => k_asm); (case q172wp1 => k_extra "my PO"); (case q172wp2 => k_extra "my PO"); (case q172wu => ktr_units); k_whole))
  k_with "my compareOp Lt ref ref" => (k_here; k_dflt (refine' lt_po ?q173wF ?q173wX ?q173wN ?q173wu ?q173wp1 ?q173wp2 ?_; (case q173wF => k_asm); (case q173wX => k_asm); (case q173wN => k_asm); (case q173wp1 => k_extra "my PO"); (case q173wp2 => k_extra "my PO"); (case q173wu => ktr_units); k_whole))
  k_with "my compareOp LtE ref ref" => (k_here; k_dflt (refine' le_po ?q174wF ?q174wX ?q174wN ?q174wu ?q174wp1 ?q174wp2 ?_; (case q174wF => k_asm); (case q174wX => k_asm); (case q174wN => k_asm); (case q174wp1 => k_extra "my PO"); (case q174wp2 => k_extra "my PO"); (case q174wu => ktr_units); k_whole))
  k_with "my compareOp Is ref ref" => (k_here; (first | (with_reducible refine' is_ori_col ?q175wF ?q175wX ?_) | (with_reducible refine' is_ori ?q175wF ?q175wX ?_)); (case q175wF => k_asm); (case q175wX => k_asm); k_whole)
  k_with "my SO" => first | assumption | exact So.mono (by assumption) (by k_extra "my SUB")
  k_with "my call builtin:sorted" => (k_here; (with_reducible show wpAny _ _ (call (Value.builtin "sorted") [Value.ref _]) _ _ _); k_dflt (refine' sorted4_led ?q177wF ?q177wX ?q177wN ?q177whm ?q177whc ?q177whd ?q177wh0 ?q177wh1 ?q177wh2 ?q177wh3 ?q177wu ?_; (case q177wF => k_asm); (case q177wX => k_asm); (case q177wN => k_asm); (case q177whm => k_mem); (case q177whc => exact rfl); (case q177whd => exact rfl); (case q177wh0 => k_extra "my PO"); (case q177wh1 => k_extra "my PO"); (case q177wh2 => k_extra "my PO"); (case q177wh3 => k_extra "my PO"); (case q177wu => ktr_units); k_whole; intro D' c' b0' b1' b2' b3' q0' q1' q2' q3' h' F' N' l1 P0' P1' P2' P3' hsrt; (try k_sweep)))
  k_with "my call ref" => (k_here; (with_reducible show wpAny _ _ (call (Value.ref 322) [_, _, _]) _ _ _); k_dflt (refine' k_seg _ ?q9B ?q9F ?q9X ?q9N ?q9T ?q9K ?q9d ?q9u ?q178wp1 ?q178wp2 ?_; k_extra "my CTX"; (case q178wp1 => k_extra "my PO"); (case q178wp2 => k_extra "my PO"); k_whole; intro nw' r' h' tk' F' N' S'; (try k_sweep)))
  k_with "my call ref" => (k_here; (with_reducible show wpAny _ _ (call (Value.ref 329) [_, _]) _ _ _); k_dflt (refine' k_mseg _ ?q9B ?q9F ?q9X ?q9N ?q9T ?q9K ?q9d ?q9u ?_; k_extra "my CTX"; k_whole; intro nw' r' h' tk' F' N' S'; (try k_sweep)))
  k_with "my call ref" => (k_here; (with_reducible show wpAny _ _ (call (Value.ref 336) [_, _]) _ _ _); k_dflt (refine' k_mpt _ ?q9B ?q9F ?q9X ?q9N ?q9T ?q9K ?q9d ?q9u ?_; k_extra "my CTX"; k_whole; intro nw' r' h' tk' F' N' S'; (try k_sweep)))
  k_with "my exec Assign" => (k_fold)
  k_with "my exec If" => (k_fold)
  k_with "my eval BinOp" => (k_fold)
  k_with "my eval Tuple" => (k_fold)
  k_with "my eval Call" => (k_fold)
  k_with "my eval Call Attribute" => (k_fold)
  k_with "my storeName" => (k_here; k_dflt (refine' storeL ?q187wF ?q187wN ?_ ?q187wa ?q187wb; (case q187wF => k_asm); (case q187wN => k_asm); (case q187wa => rfl); (case q187wb => rfl); k_whole; intro m' h' tk' F' N'; (try k_sweep)))
  k_with "my eval Name" => (k_here; k_dflt (refine' nameL ?q188wF ?q188wv ?_ ?q188wok ?q188whl; (case q188wF => k_asm); (case q188whl => rfl); (case q188wok => rfl); (case q188wv => rfl); k_whole))
  k_with "my eval Attribute Name" => (k_here; k_dflt (refine' attrL ?q189wF ?q189wv ?_ ?q189wok ?q189whl; (case q189wF => k_asm); (case q189whl => rfl); (case q189wok => rfl); (case q189wv => rfl); k_whole))
  k_with "my spliced" => (k_here; k_dflt (first
    | ((with_reducible refine' argLL ?q190wF ?q190wv ?q190wu ?_ ?q190wok ?q190woj ?q190whl); (case q190wF => k_asm); (case q190whl => rfl); (case q190wok => rfl); (case q190woj => rfl); (case q190wv => rfl); (case q190wu => rfl); k_whole)
    | ((with_reducible refine' argL1 ?q190wF ?q190wv ?_ ?q190wok ?q190whl); (case q190wF => k_asm); (case q190whl => rfl); (case q190wok => rfl); (case q190wv => rfl); k_whole)
    | ((with_reducible refine' argL ?q190wF ?q190wv ?_ ?q190wok ?q190whl); (case q190wF => k_asm); (case q190whl => rfl); (case q190wok => rfl); (case q190wv => rfl); k_whole)))
  k_with "my eval Call Attribute" => (k_here; k_dflt (refine' methL ?q191wF ?q191wv ?_ ?q191wok ?q191whl ?q191whe; (case q191wF => k_asm); (case q191whl => rfl); (case q191wok => rfl); (case q191wv => rfl); (case q191whe => rfl); k_whole))
  k_with "my isTrue Compare" => (k_here; k_dflt (first
    | ((with_reducible refine' cmpLL ?q192wF ?q192wv ?q192wu ?_ ?q192wok ?q192woj ?q192whl ?q192whm); (case q192wF => k_asm); (case q192whl => rfl); (case q192wok => rfl); (case q192woj => rfl); (case q192whm => with_unfolding_all rfl); (case q192wv => rfl); (case q192wu => rfl); k_whole)
    | ((with_reducible refine' cmpL ?q192wF ?q192wv ?_ ?q192wok ?q192whl ?q192whm); (case q192wF => k_asm); (case q192whl => rfl); (case q192wok => rfl); (case q192whm => with_unfolding_all rfl); (case q192wv => rfl); k_whole)))
  trivial
theorem k_unio (w : World) {dp un : Nat} {gd : Option (List Code)} {cn : Str} {cs : Scope} {a : Addr} {ccd : Value} {cl : List (Str × Addr)} {outer : List Env} {A₀ : Around} {base h₀ : Heap} {L : Addr} {m : Str → Option Value}
    {pr : Program} {loose : List Str} {mean : ExcName → Option Value} {mg mb : Str → Option Value} {s : Shared} {Q E : Value → Shared → Prop} {news : List (Addr × Obj)} {cx s1 s2 : Addr} {P1 P2 P3 P4 : Pt}
    (B : Below A₀ base outer h₀) (F : Fr h₀ L s.heap m) (X : (Mine.k0.heap_1_39 w.params).In h₀) (N : News h₀ L s.heap news) (T : Top pr loose mean mg mb h₀) (hcs : cs.kind = .function) (hd : dp + 10 < recursionLimit) (hu : un + 80 < cLine)
    (hc : Cx news cx) (h1 : So news s1 P1 P2) (h2 : So news s2 P3 P4)
    (hret : ∀ (nw : List (Addr × Obj)) (v : Value) (h' : Heap) (tk' : Nat), Fr h₀ L h' m → News h₀ L h' (nw ++ news) → RsP (nw ++ news) v (uniOverlap P1 P2 P3 P4) → Q v { s with heap := h', toks := tk' }) :
    wpAny (model PySem.Challenge.rw_ix0019_01.prog w) (ktrTop dp un gd cn cs L a ccd cl outer) (call (.ref 448) [.ref s1, .ref s2, .ref cx]) Q E s := by
  revert X
  k_fill
  intro X
  refine Cx.elim hc ?_; clear hc; intro dc kc mc1 mc2
  refine So.elim h1 ?_; clear h1; intro d1 e1 t1 p1 e2 t2 p2 k1 m1 m2 x1 x2
  refine So.elim h2 ?_; clear h2; intro d2 e3 t3 p3 e4 t4 p4 k2 m3 m4 x3 x4
  refine wpAny_call ?_
  k_dflt cell_enter
  k_steps
  all_goals refine (fun z : ∃ nw, Fr h₀ L _ m ∧ News h₀ L _ (nw ++ news) ∧ RsP (nw ++ news) _ _ => z.elim fun nw z => hret nw _ _ _ z.1 z.2.1 z.2.2) ?_
  all_goals walk_at "RETRS"
  rw [uniOverlap, q4_of ‹srtP _ = _›]
  exact ⟨_, rfl, by walk_at "SO"⟩
end
section
open PySem PySem.W PyProof.Rows PySem.Calls PySem.Spec
set_option Elab.async false
set_option maxRecDepth 100000
set_option maxHeartbeats 8000000
theorem or_if {α : Type} {a b : Prop} [Decidable a] [Decidable b] (x y : α) : (if a ∨ b then x else y) = if a then x else if b then x else y := by
  by_cases h : a <;> by_cases h' : b <;> simp [h, h']
theorem set_W18 : True := by
  k_with_none
  k_with "my MEM" => first | ktr_member | with_reducible exact List.mem_cons_self | (with_reducible refine' List.mem_cons_of_mem _ ?_; k_extra "my MEM") | (with_reducible refine' List.mem_append_right _ ?_; k_extra "my MEM") | (with_reducible refine' List.mem_append_left _ ?_; k_extra "my MEM")
  k_with "my CELL" => (refine' code_def ?qcellk1 ?qcellk2 ?qcellk3 ?qcellk4 ?qcellk5 ?qcellkA ?qcellkF ?qcellkK ?qcellk6 ?qcellk7 ?qcellk8 ?qcellk9 ?qcellkB ?_ ?qcellc2 ?qcellc3 ?qcellc4 ?qcellc5; (case qcellkA => exact rfl); (case qcellkF => exact rfl); (case qcellkK => first | assumption | exact rfl); (case qcellk1 => k_asm); (case qcellk2 => k_asm); (case qcellk3 => k_asm); (case qcellk4 => k_asm); (case qcellk5 => k_asm); (case qcellk6 => k_is); (case qcellk7 => k_is); (case qcellk8 => ktr_room); (case qcellk9 => first | exact BindsTo.of_eq rfl | exact binds_K (by k_in) rfl (by k_is) rfl rfl rfl); (case qcellc5 => decide); (case qcellkB => exact locs rfl); (case qcellc2 => exact rfl); (case qcellc3 => exact rfl); (case qcellc4 => exact rfl); k_whole; intro g' L' h' FG' F' N' B' X' T'; (try dsimp only); (try k_lift B'); (try k_fold))
  k_with "my testChain" => first | with_reducible refine test_link ?_ | with_reducible refine test_last ?_ | with_unfolding_all refine test_link ?_ | with_unfolding_all refine test_last ?_
  k_with "my SUB" => (intro x hx; first | exact hx | (simp only [List.mem_append, List.mem_cons, hx, true_or, or_true]; done) | (simp only [List.mem_append, List.mem_cons] at hx ⊢; simp_all; done))
  k_with "my PO" => first | assumption | exact Po.mono (by assumption) (by k_extra "my SUB")
  k_with "my CTX" => ((case q9B => k_asm); (case q9F => k_asm); (case q9X => k_asm); (case q9N => k_asm); (case q9T => k_asm); (case q9K => first | assumption | exact rfl); (case q9d => ktr_room); (case q9u => ktr_units))
  k_with "my getAttr ref" => (k_here; (with_reducible show wpAny _ _ (getAttr (Value.ref _) (PySem.Str.ofString "x") _) _ _ _); k_dflt (refine' getx _ ?q9B ?q9F ?q9X ?q9N ?q9T ?q9K ?q9d ?q9u ?q197wp ?_; k_extra "my CTX"; (case q197wp => k_extra "my PO"); k_whole; intro t' h' tk' F' N'; (try k_sweep)))
  k_with "my getAttr ref" => (k_here; (with_reducible show wpAny _ _ (getAttr (Value.ref _) (PySem.Str.ofString "y") _) _ _ _); k_dflt (refine' gety _ ?q9B ?q9F ?q9X ?q9N ?q9T ?q9K ?q9d ?q9u ?q198wp ?_; k_extra "my CTX"; (case q198wp => k_extra "my PO"); k_whole; intro t' h' tk' F' N'; (try k_sweep)))
  k_with "my call ref" => (k_here; (with_reducible show wpAny _ _ (call (Value.ref 364) [_, _, _, _]) _ _ _); k_dflt (refine' k_angle _ ?q9B ?q9F ?q9X ?q9N ?q9T ?q9K ?q9d ?q9u ?q199wp1 ?q199wp2 ?q199wp3 ?q199wb1 ?q199wb2 ?q199wb3 ?_; k_extra "my CTX"; (case q199wp1 => k_extra "my PO"); (case q199wp2 => k_extra "my PO"); (case q199wp3 => k_extra "my PO"); (case q199wb1 => k_extra "my BP"); (case q199wb2 => k_extra "my BP"); (case q199wb3 => k_extra "my BP"); k_whole; intro h' tk' F' N'; (try k_sweep)))
  k_with "my BP" => first | assumption | exact Bp.min (by assumption) (by assumption) | exact Bp.max (by assumption) (by assumption)
  k_with "my call builtin:min" => (k_here; (with_reducible show wpAny _ _ (call (Value.builtin "min") [Value.ref _, Value.ref _]) _ _ _); k_dflt (refine' min2_po ?q201whh ?q201wF ?q201wX ?q201wN ?q201wu ?q201wp1 ?q201wp2 ?_; (case q201whh => exact rfl); (case q201wF => k_asm); (case q201wX => k_asm); (case q201wN => k_asm); (case q201wu => ktr_units); (case q201wp1 => k_extra "my PO"); (case q201wp2 => k_extra "my PO"); k_whole; intro c' h' tk' F' N' P'; (try k_sweep)))
  k_with "my call builtin:max" => (k_here; (with_reducible show wpAny _ _ (call (Value.builtin "max") [Value.ref _, Value.ref _]) _ _ _); k_dflt (refine' max2_po ?q202whh ?q202wF ?q202wX ?q202wN ?q202wu ?q202wp1 ?q202wp2 ?_; (case q202whh => exact rfl); (case q202wF => k_asm); (case q202wX => k_asm); (case q202wN => k_asm); (case q202wu => ktr_units); (case q202wp1 => k_extra "my PO"); (case q202wp2 => k_extra "my PO"); k_whole; intro c' h' tk' F' N' P'; (try k_sweep)))
  k_with "my compareOp Eq ref ref" => (k_here; k_dflt (refine' eq_po ?q203wF ?q203wX ?q203wN ?q203wu ?q203wp1 ?q203wp2 ?_; (case q203wF => k_asm); (case q203wX => k_asm); (case q203wN => k_asm); (case q203wp1 => k_extra "my PO"); (case q203wp2 => k_extra "my PO"); (case q203wu => ktr_units); k_whole))
  k_with "my compareOp NotEq ref ref" => (k_here; k_dflt (refine' ne_po ?q204wF ?q204wX ?q204wN ?q204wu ?q204wp1 ?q204wp2 ?_; (case q204wF => k_asm); (case q204wX => k_asm); (case q204wN => k_asm); (case q204wp1 => k_extra "my PO"); (case q204wp2 => k_extra "my PO"); (case q204wu => ktr_units); k_whole))
  k_with "my compareOp Lt ref ref" => (k_here; k_dflt (refine' lt_po ?q205wF ?q205wX ?q205wN ?q205wu ?q205wp1 ?q205wp2 ?_; (case q205wF => k_asm); (case q205wX => k_asm); (case q205wN => k_asm); (case q205wp1 => k_extra "my PO"); (case q205wp2 => k_extra "my PO"); (case q205wu => ktr_units); k_whole))
  k_with "my compareOp LtE ref ref" => (k_here; k_dflt (refine' le_po ?q206wF ?q206wX ?q206wN ?q206wu ?q206wp1 ?q206wp2 ?_; (case q206wF => k_asm); (case q206wX => k_asm); (case q206wN => k_asm); (case q206wp1 => k_extra "my PO"); (case q206wp2 => k_extra "my PO"); (case q206wu => ktr_units); k_whole))
  k_with "my compareOp Is ref ref" => (k_here; (first | (with_reducible refine' is_ori_col ?q207wF ?q207wX ?_) | (with_reducible refine' is_ori ?q207wF ?q207wX ?_)); (case q207wF => k_asm); (case q207wX => k_asm); k_whole)
  k_with "my SO" => first | assumption | exact So.mono (by assumption) (by k_extra "my SUB")
  k_with "my call builtin:sorted" => (k_here; (with_reducible show wpAny _ _ (call (Value.builtin "sorted") [Value.ref _]) _ _ _); k_dflt (refine' sorted4_led ?q209wF ?q209wX ?q209wN ?q209whm ?q209whc ?q209whd ?q209wh0 ?q209wh1 ?q209wh2 ?q209wh3 ?q209wu ?_; (case q209wF => k_asm); (case q209wX => k_asm); (case q209wN => k_asm); (case q209whm => k_mem); (case q209whc => exact rfl); (case q209whd => exact rfl); (case q209wh0 => k_extra "my PO"); (case q209wh1 => k_extra "my PO"); (case q209wh2 => k_extra "my PO"); (case q209wh3 => k_extra "my PO"); (case q209wu => ktr_units); k_whole; intro D' c' b0' b1' b2' b3' q0' q1' q2' q3' h' F' N' l1 P0' P1' P2' P3' hsrt; (try k_sweep)))
  k_with "my call ref" => (k_here; (with_reducible show wpAny _ _ (call (Value.ref 322) [_, _, _]) _ _ _); k_dflt (refine' k_seg _ ?q9B ?q9F ?q9X ?q9N ?q9T ?q9K ?q9d ?q9u ?q210wp1 ?q210wp2 ?_; k_extra "my CTX"; (case q210wp1 => k_extra "my PO"); (case q210wp2 => k_extra "my PO"); k_whole; intro nw' r' h' tk' F' N' S'; (try k_sweep)))
  k_with "my call ref" => (k_here; (with_reducible show wpAny _ _ (call (Value.ref 329) [_, _]) _ _ _); k_dflt (refine' k_mseg _ ?q9B ?q9F ?q9X ?q9N ?q9T ?q9K ?q9d ?q9u ?_; k_extra "my CTX"; k_whole; intro nw' r' h' tk' F' N' S'; (try k_sweep)))
  k_with "my call ref" => (k_here; (with_reducible show wpAny _ _ (call (Value.ref 336) [_, _]) _ _ _); k_dflt (refine' k_mpt _ ?q9B ?q9F ?q9X ?q9N ?q9T ?q9K ?q9d ?q9u ?_; k_extra "my CTX"; k_whole; intro nw' r' h' tk' F' N' S'; (try k_sweep)))
  k_with "my call ref" => (k_here; (with_reducible show wpAny _ _ (call (Value.ref 378) [_, _, _]) _ _ _); k_dflt (refine' k_inter _ ?q9B ?q9F ?q9X ?q9N ?q9T ?q9K ?q9d ?q9u ?q213wc ?q213ws1 ?q213ws2 ?q213wb1 ?q213wb2 ?q213wb3 ?q213wb4 ?q213whi ?q213wok ?_; k_extra "my CTX"; (case q213wc => k_extra "my CX"); (case q213ws1 => k_extra "my SO"); (case q213ws2 => k_extra "my SO"); (case q213wb1 => k_extra "my BP"); (case q213wb2 => k_extra "my BP"); (case q213wb3 => k_extra "my BP"); (case q213wb4 => k_extra "my BP"); (case q213whi => assumption); (case q213wok => assumption); k_whole; intro nw' r' h' tk' F' N' P'; (try k_sweep)))
  k_with "my CX" => first | assumption | exact Cx.mono (by assumption) (by k_extra "my SUB")
  k_with "my call builtin:min" => (k_here; (with_reducible show wpAny _ _ (call (Value.builtin "min") [Value.ref _, Value.ref _, Value.ref _, Value.ref _]) _ _ _); k_dflt (refine' min4_po ?q215whh ?q215wF ?q215wX ?q215wN ?q215wu ?q215wp1 ?q215wp2 ?q215wp3 ?q215wp4 ?_; (case q215whh => exact rfl); (case q215wF => k_asm); (case q215wX => k_asm); (case q215wN => k_asm); (case q215wu => ktr_units); (case q215wp1 => k_extra "my PO"); (case q215wp2 => k_extra "my PO"); (case q215wp3 => k_extra "my PO"); (case q215wp4 => k_extra "my PO"); k_whole; intro c' h' tk' F' N' P'; (try k_sweep)))
  k_with "my call builtin:max" => (k_here; (with_reducible show wpAny _ _ (call (Value.builtin "max") [Value.ref _, Value.ref _, Value.ref _, Value.ref _]) _ _ _); k_dflt (refine' max4_po ?q216whh ?q216wF ?q216wX ?q216wN ?q216wu ?q216wp1 ?q216wp2 ?q216wp3 ?q216wp4 ?_; (case q216whh => exact rfl); (case q216wF => k_asm); (case q216wX => k_asm); (case q216wN => k_asm); (case q216wu => ktr_units); (case q216wp1 => k_extra "my PO"); (case q216wp2 => k_extra "my PO"); (case q216wp3 => k_extra "my PO"); (case q216wp4 => k_extra "my PO"); k_whole; intro c' h' tk' F' N' P'; (try k_sweep)))
  k_with "my RETRS" => (refine' ret_rs ?q217wF ?q217wN ?q217wS ?_; (case q217wF => k_asm); (case q217wN => k_asm); (case q217wS => k_extra "my SUB"))
  k_with "my compareOp IsNot ref ref" => (k_here; (first | (with_reducible refine' isnot_ori_col ?q218wF ?q218wX ?_) | (with_reducible refine' isnot_ori ?q218wF ?q218wX ?_)); (case q218wF => k_asm); (case q218wX => k_asm); k_whole)
  k_with "my MS" => first | assumption | exact Ms.mono (by assumption) (by k_extra "my SUB")
  k_with "my exec Assign" => (k_fold)
  k_with "my exec If" => (k_fold)
  k_with "my eval BinOp" => (k_fold)
  k_with "my eval Tuple" => (k_fold)
  k_with "my eval Call" => (k_fold)
  k_with "my eval Call Attribute" => (k_fold)
  k_with "my storeName" => (k_here; k_dflt (refine' storeL ?q226wF ?q226wN ?_ ?q226wa ?q226wb; (case q226wF => k_asm); (case q226wN => k_asm); (case q226wa => rfl); (case q226wb => rfl); k_whole; intro m' h' tk' F' N'; (try k_sweep)))
  k_with "my eval Name" => (k_here; k_dflt (refine' nameL ?q227wF ?q227wv ?_ ?q227wok ?q227whl; (case q227wF => k_asm); (case q227whl => rfl); (case q227wok => rfl); (case q227wv => rfl); k_whole))
  k_with "my eval Attribute Name" => (k_here; k_dflt (refine' attrL ?q228wF ?q228wv ?_ ?q228wok ?q228whl; (case q228wF => k_asm); (case q228whl => rfl); (case q228wok => rfl); (case q228wv => rfl); k_whole))
  k_with "my spliced" => (k_here; k_dflt (first
    | ((with_reducible refine' argLL ?q229wF ?q229wv ?q229wu ?_ ?q229wok ?q229woj ?q229whl); (case q229wF => k_asm); (case q229whl => rfl); (case q229wok => rfl); (case q229woj => rfl); (case q229wv => rfl); (case q229wu => rfl); k_whole)
    | ((with_reducible refine' argL1 ?q229wF ?q229wv ?_ ?q229wok ?q229whl); (case q229wF => k_asm); (case q229whl => rfl); (case q229wok => rfl); (case q229wv => rfl); k_whole)
    | ((with_reducible refine' argL ?q229wF ?q229wv ?_ ?q229wok ?q229whl); (case q229wF => k_asm); (case q229whl => rfl); (case q229wok => rfl); (case q229wv => rfl); k_whole)))
  k_with "my eval Call Attribute" => (k_here; k_dflt (refine' methL ?q230wF ?q230wv ?_ ?q230wok ?q230whl ?q230whe; (case q230wF => k_asm); (case q230whl => rfl); (case q230wok => rfl); (case q230wv => rfl); (case q230whe => rfl); k_whole))
  k_with "my isTrue Compare" => (k_here; k_dflt (first
    | ((with_reducible refine' cmpLL ?q231wF ?q231wv ?q231wu ?_ ?q231wok ?q231woj ?q231whl ?q231whm); (case q231wF => k_asm); (case q231whl => rfl); (case q231wok => rfl); (case q231woj => rfl); (case q231whm => with_unfolding_all rfl); (case q231wv => rfl); (case q231wu => rfl); k_whole)
    | ((with_reducible refine' cmpL ?q231wF ?q231wv ?_ ?q231wok ?q231whl ?q231whm); (case q231wF => k_asm); (case q231whl => rfl); (case q231wok => rfl); (case q231whm => with_unfolding_all rfl); (case q231wv => rfl); k_whole)))
  trivial
theorem k_subo (w : World) {dp un : Nat} {gd : Option (List Code)} {cn : Str} {cs : Scope} {a : Addr} {ccd : Value} {cl : List (Str × Addr)} {outer : List Env} {A₀ : Around} {base h₀ : Heap} {L : Addr} {m : Str → Option Value}
    {pr : Program} {loose : List Str} {mean : ExcName → Option Value} {mg mb : Str → Option Value} {s : Shared} {Q E : Value → Shared → Prop} {news : List (Addr × Obj)} {cx s1 s2 : Addr} {P1 P2 P3 P4 : Pt}
    (B : Below A₀ base outer h₀) (F : Fr h₀ L s.heap m) (X : (Mine.k0.heap_1_39 w.params).In h₀) (N : News h₀ L s.heap news) (T : Top pr loose mean mg mb h₀) (hcs : cs.kind = .function) (hd : dp + 12 < recursionLimit) (hu : un + 100 < cLine)
    (hc : Cx news cx) (h1 : So news s1 P1 P2) (h2 : So news s2 P3 P4)
    (hret : ∀ (nw : List (Addr × Obj)) (v : Value) (h' : Heap) (tk' : Nat), Fr h₀ L h' m → News h₀ L h' (nw ++ news) → RsP (nw ++ news) v (subOverlap P1 P2 P3 P4) → Q v { s with heap := h', toks := tk' }) :
    wpAny (model PySem.Challenge.rw_ix0019_01.prog w) (ktrTop dp un gd cn cs L a ccd cl outer) (call (.ref 427) [.ref s1, .ref s2, .ref cx]) Q E s := by
  revert X
  k_fill
  intro X
  have H1 := h1
  have H2 := h2
  have Hc := hc
  refine Cx.elim hc ?_; clear hc; intro dc kc mc1 mc2
  refine So.elim h1 ?_; clear h1; intro d1 e1 t1 p1 e2 t2 p2 k1 m1 m2 x1 x2
  refine So.elim h2 ?_; clear h2; intro d2 e3 t3 p3 e4 t4 p4 k2 m3 m4 x3 x4
  refine wpAny_call ?_
  k_dflt cell_enter
  k_steps
  all_goals refine (fun z : ∃ nw, Fr h₀ L _ m ∧ News h₀ L _ (nw ++ news) ∧ RsP (nw ++ news) _ _ => z.elim fun nw z => hret nw _ _ _ z.1 z.2.1 z.2.2) ?_
  all_goals walk_at "RETRS"
  all_goals rw [subOverlap, q4_of ‹srtP _ = _›]
  all_goals dsimp only
  all_goals try simp only [or_if]
  all_goals repeat (first | rw [if_pos (by assumption)] | rw [if_neg (by assumption)])
  all_goals first
    | exact ⟨_, rfl, by walk_at "SO"⟩
    | exact ⟨_, _, _, _, _, rfl, by walk_at "MS", by k_mem, by walk_at "SO", by walk_at "SO"⟩
    | exact ⟨_, _, _, _, _, _, _, rfl, by walk_at "MS", by k_mem, by walk_at "SO", by walk_at "SO", by walk_at "SO", by walk_at "SO"⟩
    | trace_state
theorem k_symo (w : World) {dp un : Nat} {gd : Option (List Code)} {cn : Str} {cs : Scope} {a : Addr} {ccd : Value} {cl : List (Str × Addr)} {outer : List Env} {A₀ : Around} {base h₀ : Heap} {L : Addr} {m : Str → Option Value}
    {pr : Program} {loose : List Str} {mean : ExcName → Option Value} {mg mb : Str → Option Value} {s : Shared} {Q E : Value → Shared → Prop} {news : List (Addr × Obj)} {cx s1 s2 : Addr} {P1 P2 P3 P4 : Pt}
    (B : Below A₀ base outer h₀) (F : Fr h₀ L s.heap m) (X : (Mine.k0.heap_1_39 w.params).In h₀) (N : News h₀ L s.heap news) (T : Top pr loose mean mg mb h₀) (hcs : cs.kind = .function) (hd : dp + 12 < recursionLimit) (hu : un + 100 < cLine)
    (hc : Cx news cx) (h1 : So news s1 P1 P2) (h2 : So news s2 P3 P4)
    (hret : ∀ (nw : List (Addr × Obj)) (v : Value) (h' : Heap) (tk' : Nat), Fr h₀ L h' m → News h₀ L h' (nw ++ news) → RsP (nw ++ news) v (symOverlap P1 P2 P3 P4) → Q v { s with heap := h', toks := tk' }) :
    wpAny (model PySem.Challenge.rw_ix0019_01.prog w) (ktrTop dp un gd cn cs L a ccd cl outer) (call (.ref 434) [.ref s1, .ref s2, .ref cx]) Q E s := by
  revert X
  k_fill
  intro X
  have H1 := h1
  have H2 := h2
  have Hc := hc
  refine Cx.elim hc ?_; clear hc; intro dc kc mc1 mc2
  refine So.elim h1 ?_; clear h1; intro d1 e1 t1 p1 e2 t2 p2 k1 m1 m2 x1 x2
  refine So.elim h2 ?_; clear h2; intro d2 e3 t3 p3 e4 t4 p4 k2 m3 m4 x3 x4
  refine wpAny_call ?_
  k_dflt cell_enter
  k_steps
  all_goals refine (fun z : ∃ nw, Fr h₀ L _ m ∧ News h₀ L _ (nw ++ news) ∧ RsP (nw ++ news) _ _ => z.elim fun nw z => hret nw _ _ _ z.1 z.2.1 z.2.2) ?_
  all_goals walk_at "RETRS"
  all_goals rw [symOverlap, q4_of ‹srtP _ = _›]
  all_goals dsimp only
  all_goals try simp only [or_if]
  all_goals repeat (first | rw [if_pos (by assumption)] | rw [if_neg (by assumption)])
  all_goals first
    | exact ⟨_, rfl, by walk_at "SO"⟩
    | exact ⟨_, _, _, _, _, rfl, by walk_at "MS", by k_mem, by walk_at "SO", by walk_at "SO"⟩
    | exact ⟨_, _, _, _, _, _, _, rfl, by walk_at "MS", by k_mem, by walk_at "SO", by walk_at "SO", by walk_at "SO", by walk_at "SO"⟩
    | trace_state
theorem k_iovl (w : World) {dp un : Nat} {gd : Option (List Code)} {cn : Str} {cs : Scope} {a : Addr} {ccd : Value} {cl : List (Str × Addr)} {outer : List Env} {A₀ : Around} {base h₀ : Heap} {L : Addr} {m : Str → Option Value}
    {pr : Program} {loose : List Str} {mean : ExcName → Option Value} {mg mb : Str → Option Value} {s : Shared} {Q E : Value → Shared → Prop} {news : List (Addr × Obj)} {cx s1 s2 : Addr} {P1 P2 P3 P4 : Pt}
    (B : Below A₀ base outer h₀) (F : Fr h₀ L s.heap m) (X : (Mine.k0.heap_1_39 w.params).In h₀) (N : News h₀ L s.heap news) (T : Top pr loose mean mg mb h₀) (hcs : cs.kind = .function) (hd : dp + 12 < recursionLimit) (hu : un + 100 < cLine)
    (hc : Cx news cx) (h1 : So news s1 P1 P2) (h2 : So news s2 P3 P4)
    (hret : ∀ (nw : List (Addr × Obj)) (v : Value) (h' : Heap) (tk' : Nat), Fr h₀ L h' m → News h₀ L h' (nw ++ news) → RsP (nw ++ news) v (.seg ((q4 P1 P2 P3 P4).2.1, (q4 P1 P2 P3 P4).2.2.1)) → Q v { s with heap := h', toks := tk' }) :
    wpAny (model PySem.Challenge.rw_ix0019_01.prog w) (ktrTop dp un gd cn cs L a ccd cl outer) (call (.ref 462) [.ref s1, .ref s2, .ref cx]) Q E s := by
  revert X
  k_fill
  intro X
  have H1 := h1
  have H2 := h2
  have Hc := hc
  refine Cx.elim hc ?_; clear hc; intro dc kc mc1 mc2
  refine So.elim h1 ?_; clear h1; intro d1 e1 t1 p1 e2 t2 p2 k1 m1 m2 x1 x2
  refine So.elim h2 ?_; clear h2; intro d2 e3 t3 p3 e4 t4 p4 k2 m3 m4 x3 x4
  refine wpAny_call ?_
  k_dflt cell_enter
  k_steps
  all_goals refine (fun z : ∃ nw, Fr h₀ L _ m ∧ News h₀ L _ (nw ++ news) ∧ RsP (nw ++ news) _ _ => z.elim fun nw z => hret nw _ _ _ z.1 z.2.1 z.2.2) ?_
  all_goals walk_at "RETRS"
  all_goals rw [q4_of ‹srtP _ = _›]
  all_goals dsimp only
  all_goals try simp only [or_if]
  all_goals repeat (first | rw [if_pos (by assumption)] | rw [if_neg (by assumption)])
  all_goals first
    | exact ⟨_, rfl, by walk_at "SO"⟩
    | exact ⟨_, _, _, _, _, rfl, by walk_at "MS", by k_mem, by walk_at "SO", by walk_at "SO"⟩
    | exact ⟨_, _, _, _, _, _, _, rfl, by walk_at "MS", by k_mem, by walk_at "SO", by walk_at "SO", by walk_at "SO", by walk_at "SO"⟩
    | trace_state
end
section
open PySem PySem.W PyProof.Rows PySem.Calls PySem.Spec
set_option Elab.async false
set_option maxRecDepth 100000
set_option maxHeartbeats 8000000
theorem set_W19 : True := by
  k_with_none
  k_with "my MEM" => first | ktr_member | with_reducible exact List.mem_cons_self | (with_reducible refine' List.mem_cons_of_mem _ ?_; k_extra "my MEM") | (with_reducible refine' List.mem_append_right _ ?_; k_extra "my MEM") | (with_reducible refine' List.mem_append_left _ ?_; k_extra "my MEM")
  k_with "my CELL" => (refine' code_def ?qcellk1 ?qcellk2 ?qcellk3 ?qcellk4 ?qcellk5 ?qcellkA ?qcellkF ?qcellkK ?qcellk6 ?qcellk7 ?qcellk8 ?qcellk9 ?qcellkB ?_ ?qcellc2 ?qcellc3 ?qcellc4 ?qcellc5; (case qcellkA => exact rfl); (case qcellkF => exact rfl); (case qcellkK => first | assumption | exact rfl); (case qcellk1 => k_asm); (case qcellk2 => k_asm); (case qcellk3 => k_asm); (case qcellk4 => k_asm); (case qcellk5 => k_asm); (case qcellk6 => k_is); (case qcellk7 => k_is); (case qcellk8 => ktr_room); (case qcellk9 => first | exact BindsTo.of_eq rfl | exact binds_K (by k_in) rfl (by k_is) rfl rfl rfl); (case qcellc5 => decide); (case qcellkB => exact locs rfl); (case qcellc2 => exact rfl); (case qcellc3 => exact rfl); (case qcellc4 => exact rfl); k_whole; intro g' L' h' FG' F' N' B' X' T'; (try dsimp only); (try k_lift B'); (try k_fold))
  k_with "my testChain" => first | with_reducible refine test_link ?_ | with_reducible refine test_last ?_ | with_unfolding_all refine test_link ?_ | with_unfolding_all refine test_last ?_
  k_with "my SUB" => (intro x hx; first | exact hx | (simp only [List.mem_append, List.mem_cons, hx, true_or, or_true]; done) | (simp only [List.mem_append, List.mem_cons] at hx ⊢; simp_all; done))
  k_with "my PO" => first | assumption | exact Po.mono (by assumption) (by k_extra "my SUB")
  k_with "my CTX" => ((case q9B => k_asm); (case q9F => k_asm); (case q9X => k_asm); (case q9N => k_asm); (case q9T => k_asm); (case q9K => first | assumption | exact rfl); (case q9d => ktr_room); (case q9u => ktr_units))
  k_with "my getAttr ref" => (k_here; (with_reducible show wpAny _ _ (getAttr (Value.ref _) (PySem.Str.ofString "x") _) _ _ _); k_dflt (refine' getx _ ?q9B ?q9F ?q9X ?q9N ?q9T ?q9K ?q9d ?q9u ?q236wp ?_; k_extra "my CTX"; (case q236wp => k_extra "my PO"); k_whole; intro t' h' tk' F' N'; (try k_sweep)))
  k_with "my getAttr ref" => (k_here; (with_reducible show wpAny _ _ (getAttr (Value.ref _) (PySem.Str.ofString "y") _) _ _ _); k_dflt (refine' gety _ ?q9B ?q9F ?q9X ?q9N ?q9T ?q9K ?q9d ?q9u ?q237wp ?_; k_extra "my CTX"; (case q237wp => k_extra "my PO"); k_whole; intro t' h' tk' F' N'; (try k_sweep)))
  k_with "my call ref" => (k_here; (with_reducible show wpAny _ _ (call (Value.ref 364) [_, _, _, _]) _ _ _); k_dflt (refine' k_angle _ ?q9B ?q9F ?q9X ?q9N ?q9T ?q9K ?q9d ?q9u ?q238wp1 ?q238wp2 ?q238wp3 ?q238wb1 ?q238wb2 ?q238wb3 ?_; k_extra "my CTX"; (case q238wp1 => k_extra "my PO"); (case q238wp2 => k_extra "my PO"); (case q238wp3 => k_extra "my PO"); (case q238wb1 => k_extra "my BP"); (case q238wb2 => k_extra "my BP"); (case q238wb3 => k_extra "my BP"); k_whole; intro h' tk' F' N'; (try k_sweep)))
  k_with "my BP" => first | assumption | exact Bp.min (by assumption) (by assumption) | exact Bp.max (by assumption) (by assumption)
  k_with "my call builtin:min" => (k_here; (with_reducible show wpAny _ _ (call (Value.builtin "min") [Value.ref _, Value.ref _]) _ _ _); k_dflt (refine' min2_po ?q240whh ?q240wF ?q240wX ?q240wN ?q240wu ?q240wp1 ?q240wp2 ?_; (case q240whh => exact rfl); (case q240wF => k_asm); (case q240wX => k_asm); (case q240wN => k_asm); (case q240wu => ktr_units); (case q240wp1 => k_extra "my PO"); (case q240wp2 => k_extra "my PO"); k_whole; intro c' h' tk' F' N' P'; (try k_sweep)))
  k_with "my call builtin:max" => (k_here; (with_reducible show wpAny _ _ (call (Value.builtin "max") [Value.ref _, Value.ref _]) _ _ _); k_dflt (refine' max2_po ?q241whh ?q241wF ?q241wX ?q241wN ?q241wu ?q241wp1 ?q241wp2 ?_; (case q241whh => exact rfl); (case q241wF => k_asm); (case q241wX => k_asm); (case q241wN => k_asm); (case q241wu => ktr_units); (case q241wp1 => k_extra "my PO"); (case q241wp2 => k_extra "my PO"); k_whole; intro c' h' tk' F' N' P'; (try k_sweep)))
  k_with "my compareOp Eq ref ref" => (k_here; k_dflt (refine' eq_po ?q242wF ?q242wX ?q242wN ?q242wu ?q242wp1 ?q242wp2 ?_; (case q242wF => k_asm); (case q242wX => k_asm); (case q242wN => k_asm); (case q242wp1 => k_extra "my PO"); (case q242wp2 => k_extra "my PO"); (case q242wu => ktr_units); k_whole))
  k_with "my compareOp NotEq ref ref" => (k_here; k_dflt (refine' ne_po ?q243wF ?q243wX ?q243wN ?q243wu ?q243wp1 ?q243wp2 ?_; (case q243wF => k_asm); (case q243wX => k_asm); (case q243wN => k_asm); (case q243wp1 => k_extra "my PO"); (case q243wp2 => k_extra "my PO"); (case q243wu => ktr_units); k_whole))
  k_with "my compareOp Lt ref ref" => (k_here; k_dflt (refine' lt_po ?q244wF ?q244wX ?q244wN ?q244wu ?q244wp1 ?q244wp2 ?_; (case q244wF => k_asm); (case q244wX => k_asm); (case q244wN => k_asm); (case q244wp1 => k_extra "my PO"); (case q244wp2 => k_extra "my PO"); (case q244wu => ktr_units); k_whole))
  k_with "my compareOp LtE ref ref" => (k_here; k_dflt (refine' le_po ?q245wF ?q245wX ?q245wN ?q245wu ?q245wp1 ?q245wp2 ?_; (case q245wF => k_asm); (case q245wX => k_asm); (case q245wN => k_asm); (case q245wp1 => k_extra "my PO"); (case q245wp2 => k_extra "my PO"); (case q245wu => ktr_units); k_whole))
  k_with "my compareOp Is ref ref" => (k_here; (first | (with_reducible refine' is_ori_col ?q246wF ?q246wX ?_) | (with_reducible refine' is_ori ?q246wF ?q246wX ?_)); (case q246wF => k_asm); (case q246wX => k_asm); k_whole)
  k_with "my SO" => first | assumption | exact So.mono (by assumption) (by k_extra "my SUB")
  k_with "my call builtin:sorted" => (k_here; (with_reducible show wpAny _ _ (call (Value.builtin "sorted") [Value.ref _]) _ _ _); k_dflt (refine' sorted4_led ?q248wF ?q248wX ?q248wN ?q248whm ?q248whc ?q248whd ?q248wh0 ?q248wh1 ?q248wh2 ?q248wh3 ?q248wu ?_; (case q248wF => k_asm); (case q248wX => k_asm); (case q248wN => k_asm); (case q248whm => k_mem); (case q248whc => exact rfl); (case q248whd => exact rfl); (case q248wh0 => k_extra "my PO"); (case q248wh1 => k_extra "my PO"); (case q248wh2 => k_extra "my PO"); (case q248wh3 => k_extra "my PO"); (case q248wu => ktr_units); k_whole; intro D' c' b0' b1' b2' b3' q0' q1' q2' q3' h' F' N' l1 P0' P1' P2' P3' hsrt; (try k_sweep)))
  k_with "my call ref" => (k_here; (with_reducible show wpAny _ _ (call (Value.ref 322) [_, _, _]) _ _ _); k_dflt (refine' k_seg _ ?q9B ?q9F ?q9X ?q9N ?q9T ?q9K ?q9d ?q9u ?q249wp1 ?q249wp2 ?_; k_extra "my CTX"; (case q249wp1 => k_extra "my PO"); (case q249wp2 => k_extra "my PO"); k_whole; intro nw' r' h' tk' F' N' S'; (try k_sweep)))
  k_with "my call ref" => (k_here; (with_reducible show wpAny _ _ (call (Value.ref 329) [_, _]) _ _ _); k_dflt (refine' k_mseg _ ?q9B ?q9F ?q9X ?q9N ?q9T ?q9K ?q9d ?q9u ?_; k_extra "my CTX"; k_whole; intro nw' r' h' tk' F' N' S'; (try k_sweep)))
  k_with "my call ref" => (k_here; (with_reducible show wpAny _ _ (call (Value.ref 336) [_, _]) _ _ _); k_dflt (refine' k_mpt _ ?q9B ?q9F ?q9X ?q9N ?q9T ?q9K ?q9d ?q9u ?_; k_extra "my CTX"; k_whole; intro nw' r' h' tk' F' N' S'; (try k_sweep)))
  k_with "my call ref" => (k_here; (with_reducible show wpAny _ _ (call (Value.ref 378) [_, _, _]) _ _ _); k_dflt (refine' k_inter _ ?q9B ?q9F ?q9X ?q9N ?q9T ?q9K ?q9d ?q9u ?q252wc ?q252ws1 ?q252ws2 ?q252wb1 ?q252wb2 ?q252wb3 ?q252wb4 ?q252whi ?q252wok ?_; k_extra "my CTX"; (case q252wc => k_extra "my CX"); (case q252ws1 => k_extra "my SO"); (case q252ws2 => k_extra "my SO"); (case q252wb1 => k_extra "my BP"); (case q252wb2 => k_extra "my BP"); (case q252wb3 => k_extra "my BP"); (case q252wb4 => k_extra "my BP"); (case q252whi => assumption); (case q252wok => assumption); k_whole; intro nw' r' h' tk' F' N' P'; (try k_sweep)))
  k_with "my CX" => first | assumption | exact Cx.mono (by assumption) (by k_extra "my SUB")
  k_with "my call builtin:min" => (k_here; (with_reducible show wpAny _ _ (call (Value.builtin "min") [Value.ref _, Value.ref _, Value.ref _, Value.ref _]) _ _ _); k_dflt (refine' min4_po ?q254whh ?q254wF ?q254wX ?q254wN ?q254wu ?q254wp1 ?q254wp2 ?q254wp3 ?q254wp4 ?_; (case q254whh => exact rfl); (case q254wF => k_asm); (case q254wX => k_asm); (case q254wN => k_asm); (case q254wu => ktr_units); (case q254wp1 => k_extra "my PO"); (case q254wp2 => k_extra "my PO"); (case q254wp3 => k_extra "my PO"); (case q254wp4 => k_extra "my PO"); k_whole; intro c' h' tk' F' N' P'; (try k_sweep)))
  k_with "my call builtin:max" => (k_here; (with_reducible show wpAny _ _ (call (Value.builtin "max") [Value.ref _, Value.ref _, Value.ref _, Value.ref _]) _ _ _); k_dflt (refine' max4_po ?q255whh ?q255wF ?q255wX ?q255wN ?q255wu ?q255wp1 ?q255wp2 ?q255wp3 ?q255wp4 ?_; (case q255whh => exact rfl); (case q255wF => k_asm); (case q255wX => k_asm); (case q255wN => k_asm); (case q255wu => ktr_units); (case q255wp1 => k_extra "my PO"); (case q255wp2 => k_extra "my PO"); (case q255wp3 => k_extra "my PO"); (case q255wp4 => k_extra "my PO"); k_whole; intro c' h' tk' F' N' P'; (try k_sweep)))
  k_with "my RETRS" => (refine' ret_rs ?q256wF ?q256wN ?q256wS ?_; (case q256wF => k_asm); (case q256wN => k_asm); (case q256wS => k_extra "my SUB"))
  k_with "my compareOp IsNot ref ref" => (k_here; (first | (with_reducible refine' isnot_ori_col ?q257wF ?q257wX ?_) | (with_reducible refine' isnot_ori ?q257wF ?q257wX ?_)); (case q257wF => k_asm); (case q257wX => k_asm); k_whole)
  k_with "my MS" => first | assumption | exact Ms.mono (by assumption) (by k_extra "my SUB")
  k_with "my exec Assign" => (k_fold)
  k_with "my exec If" => (k_fold)
  k_with "my eval BinOp" => (k_fold)
  k_with "my eval Tuple" => (k_fold)
  k_with "my eval Call" => (k_fold)
  k_with "my eval Call Attribute" => (k_fold)
  k_with "my storeName" => (k_here; k_dflt (refine' storeL ?q265wF ?q265wN ?_ ?q265wa ?q265wb; (case q265wF => k_asm); (case q265wN => k_asm); (case q265wa => rfl); (case q265wb => rfl); k_whole; intro m' h' tk' F' N'; (try k_sweep)))
  k_with "my eval Name" => (k_here; k_dflt (refine' nameL ?q266wF ?q266wv ?_ ?q266wok ?q266whl; (case q266wF => k_asm); (case q266whl => rfl); (case q266wok => rfl); (case q266wv => rfl); k_whole))
  k_with "my eval Attribute Name" => (k_here; k_dflt (refine' attrL ?q267wF ?q267wv ?_ ?q267wok ?q267whl; (case q267wF => k_asm); (case q267whl => rfl); (case q267wok => rfl); (case q267wv => rfl); k_whole))
  k_with "my spliced" => (k_here; k_dflt (first
    | ((with_reducible refine' argLL ?q268wF ?q268wv ?q268wu ?_ ?q268wok ?q268woj ?q268whl); (case q268wF => k_asm); (case q268whl => rfl); (case q268wok => rfl); (case q268woj => rfl); (case q268wv => rfl); (case q268wu => rfl); k_whole)
    | ((with_reducible refine' argL1 ?q268wF ?q268wv ?_ ?q268wok ?q268whl); (case q268wF => k_asm); (case q268whl => rfl); (case q268wok => rfl); (case q268wv => rfl); k_whole)
    | ((with_reducible refine' argL ?q268wF ?q268wv ?_ ?q268wok ?q268whl); (case q268wF => k_asm); (case q268whl => rfl); (case q268wok => rfl); (case q268wv => rfl); k_whole)))
  k_with "my eval Call Attribute" => (k_here; k_dflt (refine' methL ?q269wF ?q269wv ?_ ?q269wok ?q269whl ?q269whe; (case q269wF => k_asm); (case q269whl => rfl); (case q269wok => rfl); (case q269wv => rfl); (case q269whe => rfl); k_whole))
  k_with "my isTrue Compare" => (k_here; k_dflt (first
    | ((with_reducible refine' cmpLL ?q270wF ?q270wv ?q270wu ?_ ?q270wok ?q270woj ?q270whl ?q270whm); (case q270wF => k_asm); (case q270whl => rfl); (case q270wok => rfl); (case q270woj => rfl); (case q270whm => with_unfolding_all rfl); (case q270wv => rfl); (case q270wu => rfl); k_whole)
    | ((with_reducible refine' cmpL ?q270wF ?q270wv ?_ ?q270wok ?q270whl ?q270whm); (case q270wF => k_asm); (case q270whl => rfl); (case q270wok => rfl); (case q270whm => with_unfolding_all rfl); (case q270wv => rfl); k_whole)))
  trivial
theorem k_subc (w : World) {dp un : Nat} {gd : Option (List Code)} {cn : Str} {cs : Scope} {a : Addr} {ccd : Value} {cl : List (Str × Addr)} {outer : List Env} {A₀ : Around} {base h₀ : Heap} {L : Addr} {m : Str → Option Value}
    {pr : Program} {loose : List Str} {mean : ExcName → Option Value} {mg mb : Str → Option Value} {s : Shared} {Q E : Value → Shared → Prop} {news : List (Addr × Obj)} {cx s1 s2 : Addr} {P1 P2 P3 P4 : Pt}
    (B : Below A₀ base outer h₀) (F : Fr h₀ L s.heap m) (X : (Mine.k0.heap_1_39 w.params).In h₀) (N : News h₀ L s.heap news) (T : Top pr loose mean mg mb h₀) (hcs : cs.kind = .function) (hd : dp + 12 < recursionLimit) (hu : un + 100 < cLine)
    (hc : Cx news cx) (h1 : So news s1 P1 P2) (h2 : So news s2 P3 P4)
    (hret : ∀ (nw : List (Addr × Obj)) (v : Value) (h' : Heap) (tk' : Nat), Fr h₀ L h' m → News h₀ L h' (nw ++ news) → RsP (nw ++ news) v (subComposite P1 P2 P3 P4) → Q v { s with heap := h', toks := tk' }) :
    wpAny (model PySem.Challenge.rw_ix0019_01.prog w) (ktrTop dp un gd cn cs L a ccd cl outer) (call (.ref 420) [.ref s1, .ref s2, .ref cx]) Q E s := by
  revert X
  k_fill
  intro X
  have H1 := h1
  have H2 := h2
  have Hc := hc
  refine Cx.elim hc ?_; clear hc; intro dc kc mc1 mc2
  refine So.elim h1 ?_; clear h1; intro d1 e1 t1 p1 e2 t2 p2 k1 m1 m2 x1 x2
  refine So.elim h2 ?_; clear h2; intro d2 e3 t3 p3 e4 t4 p4 k2 m3 m4 x3 x4
  refine wpAny_call ?_
  k_dflt cell_enter
  k_steps
  all_goals refine (fun z : ∃ nw, Fr h₀ L _ m ∧ News h₀ L _ (nw ++ news) ∧ RsP (nw ++ news) _ _ => z.elim fun nw z => hret nw _ _ _ z.1 z.2.1 z.2.2) ?_
  all_goals walk_at "RETRS"
  all_goals rw [subComposite, q4_of ‹srtP _ = _›]
  all_goals dsimp only
  all_goals simp only [or_if]
  all_goals repeat (first | rw [if_pos (by assumption)] | rw [if_neg (by assumption)])
  all_goals first
    | exact ⟨_, rfl, by walk_at "SO"⟩
    | exact ⟨_, _, _, _, _, rfl, by walk_at "MS", by k_mem, by walk_at "SO", by walk_at "SO"⟩
    | exact ⟨_, _, _, _, _, _, _, rfl, by walk_at "MS", by k_mem, by walk_at "SO", by walk_at "SO", by walk_at "SO", by walk_at "SO"⟩
    | trace_state
end
section
open PySem PySem.W PyProof.Rows PySem.Calls PySem.Spec
set_option Elab.async false
set_option maxRecDepth 100000
set_option maxHeartbeats 8000000
theorem set_W20 : True := by
  k_with_none
  k_with "my MEM" => first | ktr_member | with_reducible exact List.mem_cons_self | (with_reducible refine' List.mem_cons_of_mem _ ?_; k_extra "my MEM") | (with_reducible refine' List.mem_append_right _ ?_; k_extra "my MEM") | (with_reducible refine' List.mem_append_left _ ?_; k_extra "my MEM")
  k_with "my CELL" => (refine' code_def ?qcellk1 ?qcellk2 ?qcellk3 ?qcellk4 ?qcellk5 ?qcellkA ?qcellkF ?qcellkK ?qcellk6 ?qcellk7 ?qcellk8 ?qcellk9 ?qcellkB ?_ ?qcellc2 ?qcellc3 ?qcellc4 ?qcellc5; (case qcellkA => exact rfl); (case qcellkF => exact rfl); (case qcellkK => first | assumption | exact rfl); (case qcellk1 => k_asm); (case qcellk2 => k_asm); (case qcellk3 => k_asm); (case qcellk4 => k_asm); (case qcellk5 => k_asm); (case qcellk6 => k_is); (case qcellk7 => k_is); (case qcellk8 => ktr_room); (case qcellk9 => first | exact BindsTo.of_eq rfl | exact binds_K (by k_in) rfl (by k_is) rfl rfl rfl); (case qcellc5 => decide); (case qcellkB => exact locs rfl); (case qcellc2 => exact rfl); (case qcellc3 => exact rfl); (case qcellc4 => exact rfl); k_whole; intro g' L' h' FG' F' N' B' X' T'; (try dsimp only); (try k_lift B'); (try k_fold))
  k_with "my testChain" => first | with_reducible refine test_link ?_ | with_reducible refine test_last ?_ | with_unfolding_all refine test_link ?_ | with_unfolding_all refine test_last ?_
  k_with "my SUB" => (intro x hx; first | exact hx | (simp only [List.mem_append, List.mem_cons, hx, true_or, or_true]; done) | (simp only [List.mem_append, List.mem_cons] at hx ⊢; simp_all; done))
  k_with "my PO" => first | assumption | exact Po.mono (by assumption) (by k_extra "my SUB")
  k_with "my CTX" => ((case q9B => k_asm); (case q9F => k_asm); (case q9X => k_asm); (case q9N => k_asm); (case q9T => k_asm); (case q9K => first | assumption | exact rfl); (case q9d => ktr_room); (case q9u => ktr_units))
  k_with "my getAttr ref" => (k_here; (with_reducible show wpAny _ _ (getAttr (Value.ref _) (PySem.Str.ofString "x") _) _ _ _); k_dflt (refine' getx _ ?q9B ?q9F ?q9X ?q9N ?q9T ?q9K ?q9d ?q9u ?q275wp ?_; k_extra "my CTX"; (case q275wp => k_extra "my PO"); k_whole; intro t' h' tk' F' N'; (try k_sweep)))
  k_with "my getAttr ref" => (k_here; (with_reducible show wpAny _ _ (getAttr (Value.ref _) (PySem.Str.ofString "y") _) _ _ _); k_dflt (refine' gety _ ?q9B ?q9F ?q9X ?q9N ?q9T ?q9K ?q9d ?q9u ?q276wp ?_; k_extra "my CTX"; (case q276wp => k_extra "my PO"); k_whole; intro t' h' tk' F' N'; (try k_sweep)))
  k_with "my call ref" => (k_here; (with_reducible show wpAny _ _ (call (Value.ref 364) [_, _, _, _]) _ _ _); k_dflt (refine' k_angle _ ?q9B ?q9F ?q9X ?q9N ?q9T ?q9K ?q9d ?q9u ?q277wp1 ?q277wp2 ?q277wp3 ?q277wb1 ?q277wb2 ?q277wb3 ?_; k_extra "my CTX"; (case q277wp1 => k_extra "my PO"); (case q277wp2 => k_extra "my PO"); (case q277wp3 => k_extra "my PO"); (case q277wb1 => k_extra "my BP"); (case q277wb2 => k_extra "my BP"); (case q277wb3 => k_extra "my BP"); k_whole; intro h' tk' F' N'; (try k_sweep)))
  k_with "my BP" => first | assumption | exact Bp.min (by assumption) (by assumption) | exact Bp.max (by assumption) (by assumption)
  k_with "my call builtin:min" => (k_here; (with_reducible show wpAny _ _ (call (Value.builtin "min") [Value.ref _, Value.ref _]) _ _ _); k_dflt (refine' min2_po ?q279whh ?q279wF ?q279wX ?q279wN ?q279wu ?q279wp1 ?q279wp2 ?_; (case q279whh => exact rfl); (case q279wF => k_asm); (case q279wX => k_asm); (case q279wN => k_asm); (case q279wu => ktr_units); (case q279wp1 => k_extra "my PO"); (case q279wp2 => k_extra "my PO"); k_whole; intro c' h' tk' F' N' P'; (try k_sweep)))
  k_with "my call builtin:max" => (k_here; (with_reducible show wpAny _ _ (call (Value.builtin "max") [Value.ref _, Value.ref _]) _ _ _); k_dflt (refine' max2_po ?q280whh ?q280wF ?q280wX ?q280wN ?q280wu ?q280wp1 ?q280wp2 ?_; (case q280whh => exact rfl); (case q280wF => k_asm); (case q280wX => k_asm); (case q280wN => k_asm); (case q280wu => ktr_units); (case q280wp1 => k_extra "my PO"); (case q280wp2 => k_extra "my PO"); k_whole; intro c' h' tk' F' N' P'; (try k_sweep)))
  k_with "my compareOp Eq ref ref" => (k_here; k_dflt (refine' eq_po ?q281wF ?q281wX ?q281wN ?q281wu ?q281wp1 ?q281wp2 ?_; (case q281wF => k_asm); (case q281wX => k_asm); (case q281wN => k_asm); (case q281wp1 => k_extra "my PO"); (case q281wp2 => k_extra "my PO"); (case q281wu => ktr_units); k_whole))
  k_with "my compareOp NotEq ref ref" => (k_here; k_dflt (refine' ne_po ?q282wF ?q282wX ?q282wN ?q282wu ?q282wp1 ?q282wp2 ?_; (case q282wF => k_asm); (case q282wX => k_asm); (case q282wN => k_asm); (case q282wp1 => k_extra "my PO"); (case q282wp2 => k_extra "my PO"); (case q282wu => ktr_units); k_whole))
  k_with "my compareOp Lt ref ref" => (k_here; k_dflt (refine' lt_po ?q283wF ?q283wX ?q283wN ?q283wu ?q283wp1 ?q283wp2 ?_; (case q283wF => k_asm); (case q283wX => k_asm); (case q283wN => k_asm); (case q283wp1 => k_extra "my PO"); (case q283wp2 => k_extra "my PO"); (case q283wu => ktr_units); k_whole))
  k_with "my compareOp LtE ref ref" => (k_here; k_dflt (refine' le_po ?q284wF ?q284wX ?q284wN ?q284wu ?q284wp1 ?q284wp2 ?_; (case q284wF => k_asm); (case q284wX => k_asm); (case q284wN => k_asm); (case q284wp1 => k_extra "my PO"); (case q284wp2 => k_extra "my PO"); (case q284wu => ktr_units); k_whole))
  k_with "my compareOp Is ref ref" => (k_here; (first | (with_reducible refine' is_ori_col ?q285wF ?q285wX ?_) | (with_reducible refine' is_ori ?q285wF ?q285wX ?_)); (case q285wF => k_asm); (case q285wX => k_asm); k_whole)
  k_with "my call ref" => (k_here; k_dflt (first
    | (refine' call_cls0 ?q286wk1 ?q286wk2 ?q286wk3 ?q286wk4 ?q286wk5 ?_; (case q286wk1 => k_asm); (case q286wk2 => k_asm); (case q286wk3 => k_asm); (case q286wk4 => k_is); (case q286wk5 => k_is); k_whole; intro x' d' h' F' N' l1 l2; (try k_lt l1); (try k_lt2 l2); (try k_sweep))
    | (refine' call_cls ?q286wk1 ?q286wk2 ?q286wk3 ?q286wk4 ?q286wk5 ?q286wk6 ?_; (case q286wk1 => k_asm); (case q286wk2 => k_asm); (case q286wk3 => k_asm); (case q286wk4 => k_is); (case q286wk5 => k_is); (case q286wk6 => k_is); k_whole; intro x' d' h' F' N' l1 l2; (try k_lt l1); (try k_lt2 l2); (try k_sweep); cell_enter)
    | (refine wpAny_call ?_; cell_enter)))
  k_with "my SO" => first | assumption | exact So.mono (by assumption) (by k_extra "my SUB")
  k_with "my call builtin:sorted" => (k_here; (with_reducible show wpAny _ _ (call (Value.builtin "sorted") [Value.ref _]) _ _ _); k_dflt (refine' sorted4_led ?q288wF ?q288wX ?q288wN ?q288whm ?q288whc ?q288whd ?q288wh0 ?q288wh1 ?q288wh2 ?q288wh3 ?q288wu ?_; (case q288wF => k_asm); (case q288wX => k_asm); (case q288wN => k_asm); (case q288whm => k_mem); (case q288whc => exact rfl); (case q288whd => exact rfl); (case q288wh0 => k_extra "my PO"); (case q288wh1 => k_extra "my PO"); (case q288wh2 => k_extra "my PO"); (case q288wh3 => k_extra "my PO"); (case q288wu => ktr_units); k_whole; intro D' c' b0' b1' b2' b3' q0' q1' q2' q3' h' F' N' l1 P0' P1' P2' P3' hsrt; (try k_sweep)))
  k_with "my call ref" => (k_here; (with_reducible show wpAny _ _ (call (Value.ref 322) [_, _, _]) _ _ _); k_dflt (refine' k_seg _ ?q9B ?q9F ?q9X ?q9N ?q9T ?q9K ?q9d ?q9u ?q289wp1 ?q289wp2 ?_; k_extra "my CTX"; (case q289wp1 => k_extra "my PO"); (case q289wp2 => k_extra "my PO"); k_whole; intro nw' r' h' tk' F' N' S'; (try k_sweep)))
  k_with "my call ref" => (k_here; (with_reducible show wpAny _ _ (call (Value.ref 329) [_, _]) _ _ _); k_dflt (refine' k_mseg _ ?q9B ?q9F ?q9X ?q9N ?q9T ?q9K ?q9d ?q9u ?_; k_extra "my CTX"; k_whole; intro nw' r' h' tk' F' N' S'; (try k_sweep)))
  k_with "my call ref" => (k_here; (with_reducible show wpAny _ _ (call (Value.ref 336) [_, _]) _ _ _); k_dflt (refine' k_mpt _ ?q9B ?q9F ?q9X ?q9N ?q9T ?q9K ?q9d ?q9u ?_; k_extra "my CTX"; k_whole; intro nw' r' h' tk' F' N' S'; (try k_sweep)))
  k_with "my call ref" => (k_here; (with_reducible show wpAny _ _ (call (Value.ref 378) [_, _, _]) _ _ _); k_dflt (refine' k_inter _ ?q9B ?q9F ?q9X ?q9N ?q9T ?q9K ?q9d ?q9u ?q292wc ?q292ws1 ?q292ws2 ?q292wb1 ?q292wb2 ?q292wb3 ?q292wb4 ?q292whi ?q292wok ?_; k_extra "my CTX"; (case q292wc => k_extra "my CX"); (case q292ws1 => k_extra "my SO"); (case q292ws2 => k_extra "my SO"); (case q292wb1 => k_extra "my BP"); (case q292wb2 => k_extra "my BP"); (case q292wb3 => k_extra "my BP"); (case q292wb4 => k_extra "my BP"); (case q292whi => assumption); (case q292wok => assumption); k_whole; intro nw' r' h' tk' F' N' P'; (try k_sweep)))
  k_with "my CX" => first | assumption | exact Cx.mono (by assumption) (by k_extra "my SUB")
  k_with "my call builtin:min" => (k_here; (with_reducible show wpAny _ _ (call (Value.builtin "min") [Value.ref _, Value.ref _, Value.ref _, Value.ref _]) _ _ _); k_dflt (refine' min4_po ?q294whh ?q294wF ?q294wX ?q294wN ?q294wu ?q294wp1 ?q294wp2 ?q294wp3 ?q294wp4 ?_; (case q294whh => exact rfl); (case q294wF => k_asm); (case q294wX => k_asm); (case q294wN => k_asm); (case q294wu => ktr_units); (case q294wp1 => k_extra "my PO"); (case q294wp2 => k_extra "my PO"); (case q294wp3 => k_extra "my PO"); (case q294wp4 => k_extra "my PO"); k_whole; intro c' h' tk' F' N' P'; (try k_sweep)))
  k_with "my call builtin:max" => (k_here; (with_reducible show wpAny _ _ (call (Value.builtin "max") [Value.ref _, Value.ref _, Value.ref _, Value.ref _]) _ _ _); k_dflt (refine' max4_po ?q295whh ?q295wF ?q295wX ?q295wN ?q295wu ?q295wp1 ?q295wp2 ?q295wp3 ?q295wp4 ?_; (case q295whh => exact rfl); (case q295wF => k_asm); (case q295wX => k_asm); (case q295wN => k_asm); (case q295wu => ktr_units); (case q295wp1 => k_extra "my PO"); (case q295wp2 => k_extra "my PO"); (case q295wp3 => k_extra "my PO"); (case q295wp4 => k_extra "my PO"); k_whole; intro c' h' tk' F' N' P'; (try k_sweep)))
  k_with "my RETRS" => (refine' ret_rs ?q296wF ?q296wN ?q296wS ?_; (case q296wF => k_asm); (case q296wN => k_asm); (case q296wS => k_extra "my SUB"))
  k_with "my compareOp IsNot ref ref" => (k_here; (first | (with_reducible refine' isnot_ori_col ?q297wF ?q297wX ?_) | (with_reducible refine' isnot_ori ?q297wF ?q297wX ?_)); (case q297wF => k_asm); (case q297wX => k_asm); k_whole)
  k_with "my MS" => first | assumption | exact Ms.mono (by assumption) (by k_extra "my SUB")
  k_with "my call ref" => (k_here; (with_reducible show wpAny _ _ (call (Value.ref _) [_, _]) _ _ _); (refine' call_meth ?q299wk1 ?q299wk2 ?_; (case q299wk1 => k_asm); (case q299wk2 => k_mem)); k_dflt (refine' k_segC _ ?q9B ?q9F ?q9X ?q9N ?q9T ?q9K ?q9d ?q9u ?q299wp1 ?q299wp2 ?_; k_extra "my CTX"; (case q299wp1 => k_extra "my PO"); (case q299wp2 => k_extra "my PO"); k_whole; intro nw' r' h' tk' F' N' S'; (try k_sweep)))
  k_with "my exec Assign" => (k_fold)
  k_with "my exec If" => (k_fold)
  k_with "my eval BinOp" => (k_fold)
  k_with "my eval Tuple" => (k_fold)
  k_with "my eval Call" => (k_fold)
  k_with "my eval Call Attribute" => (k_fold)
  k_with "my storeName" => (k_here; k_dflt (refine' storeL ?q306wF ?q306wN ?_ ?q306wa ?q306wb; (case q306wF => k_asm); (case q306wN => k_asm); (case q306wa => rfl); (case q306wb => rfl); k_whole; intro m' h' tk' F' N'; (try k_sweep)))
  k_with "my eval Name" => (k_here; k_dflt (refine' nameL ?q307wF ?q307wv ?_ ?q307wok ?q307whl; (case q307wF => k_asm); (case q307whl => rfl); (case q307wok => rfl); (case q307wv => rfl); k_whole))
  k_with "my eval Attribute Name" => (k_here; k_dflt (refine' attrL ?q308wF ?q308wv ?_ ?q308wok ?q308whl; (case q308wF => k_asm); (case q308whl => rfl); (case q308wok => rfl); (case q308wv => rfl); k_whole))
  k_with "my spliced" => (k_here; k_dflt (first
    | ((with_reducible refine' argLL ?q309wF ?q309wv ?q309wu ?_ ?q309wok ?q309woj ?q309whl); (case q309wF => k_asm); (case q309whl => rfl); (case q309wok => rfl); (case q309woj => rfl); (case q309wv => rfl); (case q309wu => rfl); k_whole)
    | ((with_reducible refine' argL1 ?q309wF ?q309wv ?_ ?q309wok ?q309whl); (case q309wF => k_asm); (case q309whl => rfl); (case q309wok => rfl); (case q309wv => rfl); k_whole)
    | ((with_reducible refine' argL ?q309wF ?q309wv ?_ ?q309wok ?q309whl); (case q309wF => k_asm); (case q309whl => rfl); (case q309wok => rfl); (case q309wv => rfl); k_whole)))
  k_with "my eval Call Attribute" => (k_here; k_dflt (refine' methL ?q310wF ?q310wv ?_ ?q310wok ?q310whl ?q310whe; (case q310wF => k_asm); (case q310whl => rfl); (case q310wok => rfl); (case q310wv => rfl); (case q310whe => rfl); k_whole))
  k_with "my isTrue Compare" => (k_here; k_dflt (first
    | ((with_reducible refine' cmpLL ?q311wF ?q311wv ?q311wu ?_ ?q311wok ?q311woj ?q311whl ?q311whm); (case q311wF => k_asm); (case q311whl => rfl); (case q311wok => rfl); (case q311woj => rfl); (case q311whm => with_unfolding_all rfl); (case q311wv => rfl); (case q311wu => rfl); k_whole)
    | ((with_reducible refine' cmpL ?q311wF ?q311wv ?_ ?q311wok ?q311whl ?q311whm); (case q311wF => k_asm); (case q311whl => rfl); (case q311wok => rfl); (case q311whm => with_unfolding_all rfl); (case q311wv => rfl); k_whole)))
  trivial
theorem k_segC (w : World) {dp un : Nat} {gd : Option (List Code)} {cn : Str} {cs : Scope} {a : Addr} {ccd : Value} {cl : List (Str × Addr)} {outer : List Env} {A₀ : Around} {base h₀ : Heap} {L : Addr} {m : Str → Option Value}
    {pr : Program} {loose : List Str} {mean : ExcName → Option Value} {mg mb : Str → Option Value} {s : Shared} {Q E : Value → Shared → Prop} {news : List (Addr × Obj)} {cx p1 p2 : Addr} {P1 P2 : Pt}
    (B : Below A₀ base outer h₀) (F : Fr h₀ L s.heap m) (X : (Mine.k0.heap_1_39 w.params).In h₀) (N : News h₀ L s.heap news) (T : Top pr loose mean mg mb h₀) (hcs : cs.kind = .function) (hd : dp + 5 < recursionLimit) (hu : un + 30 < cLine)
    (h1 : Po news p1 P1) (h2 : Po news p2 P2)
    (hret : ∀ (nw : List (Addr × Obj)) (r : Addr) (h' : Heap) (tk' : Nat), Fr h₀ L h' m → News h₀ L h' (nw ++ news) → So (nw ++ news) r P1 P2 → Q (.ref r) { s with heap := h', toks := tk' }) :
    codeAny (model PySem.Challenge.rw_ix0019_01.prog w) (ktrTop dp un gd cn cs L a ccd cl outer) (.call (.ref 322) ⟨[.ref cx, .ref p1, .ref p2], []⟩) (fun r s' => match r with | .ok (.ret v) => Q v s' | .ok _ => False | .error e => E e s') s := by
  revert X
  k_fill
  intro X
  k_dflt cell_enter
  k_steps
  refine hret [_, _, _] _ _ _ (by k_asm) (by k_asm) ?_
  exact ⟨_, _, _, _, _, _, _, _, List.mem_cons_of_mem _ List.mem_cons_self, List.mem_cons_of_mem _ (List.mem_cons_of_mem _ List.mem_cons_self), h1.mono (by walk_at "SUB"), h2.mono (by walk_at "SUB")⟩
theorem k_unic (w : World) {dp un : Nat} {gd : Option (List Code)} {cn : Str} {cs : Scope} {a : Addr} {ccd : Value} {cl : List (Str × Addr)} {outer : List Env} {A₀ : Around} {base h₀ : Heap} {L : Addr} {m : Str → Option Value}
    {pr : Program} {loose : List Str} {mean : ExcName → Option Value} {mg mb : Str → Option Value} {s : Shared} {Q E : Value → Shared → Prop} {news : List (Addr × Obj)} {cx s1 s2 : Addr} {P1 P2 P3 P4 : Pt}
    (B : Below A₀ base outer h₀) (F : Fr h₀ L s.heap m) (X : (Mine.k0.heap_1_39 w.params).In h₀) (N : News h₀ L s.heap news) (T : Top pr loose mean mg mb h₀) (hcs : cs.kind = .function) (hd : dp + 125 < recursionLimit) (hu : un + 260 < cLine)
    (hc : Cx news cx) (h1 : So news s1 P1 P2) (h2 : So news s2 P3 P4) (b1 : Bp P1) (b2 : Bp P2) (b3 : Bp P3) (b4 : Bp P4) (hi : importsNone pr = true) (ok : isxOk P1 P2 P3 P4)
    (hret : ∀ (nw : List (Addr × Obj)) (v : Value) (h' : Heap) (tk' : Nat), Fr h₀ L h' m → News h₀ L h' (nw ++ news) → RsP (nw ++ news) v (uniCross P1 P2 P3 P4) → Q v { s with heap := h', toks := tk' }) :
    wpAny (model PySem.Challenge.rw_ix0019_01.prog w) (ktrTop dp un gd cn cs L a ccd cl outer) (call (.ref 441) [.ref s1, .ref s2, .ref cx]) Q E s := by
  revert X
  k_fill
  intro X
  have H1 := h1
  have H2 := h2
  have Hc := hc
  refine Cx.elim hc ?_; clear hc; intro dc kc mc1 mc2
  refine So.elim h1 ?_; clear h1; intro d1 e1 t1 p1 e2 t2 p2 k1 m1 m2 x1 x2
  refine So.elim h2 ?_; clear h2; intro d2 e3 t3 p3 e4 t4 p4 k2 m3 m4 x3 x4
  refine wpAny_call ?_
  k_dflt cell_enter
  k_steps
  all_goals refine (fun z : ∃ nw, Fr h₀ L _ m ∧ News h₀ L _ (nw ++ news) ∧ RsP (nw ++ news) _ _ => z.elim fun nw z => hret nw _ _ _ z.1 z.2.1 z.2.2) ?_
  all_goals walk_at "RETRS"
  all_goals unfold uniCross
  all_goals dsimp only
  all_goals try simp only [or_if]
  all_goals repeat (first | rw [if_pos (by assumption)] | rw [if_neg (by assumption)])
  all_goals first
    | exact ⟨_, rfl, by walk_at "SO"⟩
    | exact ⟨_, _, _, _, _, rfl, by walk_at "MS", by k_mem, by walk_at "SO", by walk_at "SO"⟩
    | exact ⟨_, _, _, _, _, _, _, rfl, by walk_at "MS", by k_mem, by walk_at "SO", by walk_at "SO", by walk_at "SO", by walk_at "SO"⟩
    | trace_state
end
section
open PySem PySem.W PyProof.Rows PySem.Calls PySem.Spec
set_option Elab.async false
set_option maxRecDepth 100000
set_option maxHeartbeats 8000000
theorem set_W21 : True := by
  k_with_none
  k_with "my MEM" => first | ktr_member | with_reducible exact List.mem_cons_self | (with_reducible refine' List.mem_cons_of_mem _ ?_; k_extra "my MEM") | (with_reducible refine' List.mem_append_right _ ?_; k_extra "my MEM") | (with_reducible refine' List.mem_append_left _ ?_; k_extra "my MEM")
  k_with "my CELL" => (refine' code_def ?qcellk1 ?qcellk2 ?qcellk3 ?qcellk4 ?qcellk5 ?qcellkA ?qcellkF ?qcellkK ?qcellk6 ?qcellk7 ?qcellk8 ?qcellk9 ?qcellkB ?_ ?qcellc2 ?qcellc3 ?qcellc4 ?qcellc5; (case qcellkA => exact rfl); (case qcellkF => exact rfl); (case qcellkK => first | assumption | exact rfl); (case qcellk1 => k_asm); (case qcellk2 => k_asm); (case qcellk3 => k_asm); (case qcellk4 => k_asm); (case qcellk5 => k_asm); (case qcellk6 => k_is); (case qcellk7 => k_is); (case qcellk8 => ktr_room); (case qcellk9 => first | exact BindsTo.of_eq rfl | exact binds_K (by k_in) rfl (by k_is) rfl rfl rfl); (case qcellc5 => decide); (case qcellkB => exact locs rfl); (case qcellc2 => exact rfl); (case qcellc3 => exact rfl); (case qcellc4 => exact rfl); k_whole; intro g' L' h' FG' F' N' B' X' T'; (try dsimp only); (try k_lift B'); (try k_fold))
  k_with "my testChain" => first | with_reducible refine test_link ?_ | with_reducible refine test_last ?_ | with_unfolding_all refine test_link ?_ | with_unfolding_all refine test_last ?_
  k_with "my SUB" => (intro x hx; first | exact hx | (simp only [List.mem_append, List.mem_cons, hx, true_or, or_true]; done) | (simp only [List.mem_append, List.mem_cons] at hx ⊢; simp_all; done))
  k_with "my PO" => first | assumption | exact Po.mono (by assumption) (by k_extra "my SUB")
  k_with "my CTX" => ((case q9B => k_asm); (case q9F => k_asm); (case q9X => k_asm); (case q9N => k_asm); (case q9T => k_asm); (case q9K => first | assumption | exact rfl); (case q9d => ktr_room); (case q9u => ktr_units))
  k_with "my getAttr ref" => (k_here; (with_reducible show wpAny _ _ (getAttr (Value.ref _) (PySem.Str.ofString "x") _) _ _ _); k_dflt (refine' getx _ ?q9B ?q9F ?q9X ?q9N ?q9T ?q9K ?q9d ?q9u ?q316wp ?_; k_extra "my CTX"; (case q316wp => k_extra "my PO"); k_whole; intro t' h' tk' F' N'; (try k_sweep)))
  k_with "my getAttr ref" => (k_here; (with_reducible show wpAny _ _ (getAttr (Value.ref _) (PySem.Str.ofString "y") _) _ _ _); k_dflt (refine' gety _ ?q9B ?q9F ?q9X ?q9N ?q9T ?q9K ?q9d ?q9u ?q317wp ?_; k_extra "my CTX"; (case q317wp => k_extra "my PO"); k_whole; intro t' h' tk' F' N'; (try k_sweep)))
  k_with "my call ref" => (k_here; (with_reducible show wpAny _ _ (call (Value.ref 364) [_, _, _, _]) _ _ _); k_dflt (refine' k_angle _ ?q9B ?q9F ?q9X ?q9N ?q9T ?q9K ?q9d ?q9u ?q318wp1 ?q318wp2 ?q318wp3 ?q318wb1 ?q318wb2 ?q318wb3 ?_; k_extra "my CTX"; (case q318wp1 => k_extra "my PO"); (case q318wp2 => k_extra "my PO"); (case q318wp3 => k_extra "my PO"); (case q318wb1 => k_extra "my BP"); (case q318wb2 => k_extra "my BP"); (case q318wb3 => k_extra "my BP"); k_whole; intro h' tk' F' N'; (try k_sweep)))
  k_with "my BP" => first | assumption | exact Bp.min (by assumption) (by assumption) | exact Bp.max (by assumption) (by assumption)
  k_with "my call builtin:min" => (k_here; (with_reducible show wpAny _ _ (call (Value.builtin "min") [Value.ref _, Value.ref _]) _ _ _); k_dflt (refine' min2_po ?q320whh ?q320wF ?q320wX ?q320wN ?q320wu ?q320wp1 ?q320wp2 ?_; (case q320whh => exact rfl); (case q320wF => k_asm); (case q320wX => k_asm); (case q320wN => k_asm); (case q320wu => ktr_units); (case q320wp1 => k_extra "my PO"); (case q320wp2 => k_extra "my PO"); k_whole; intro c' h' tk' F' N' P'; (try k_sweep)))
  k_with "my call builtin:max" => (k_here; (with_reducible show wpAny _ _ (call (Value.builtin "max") [Value.ref _, Value.ref _]) _ _ _); k_dflt (refine' max2_po ?q321whh ?q321wF ?q321wX ?q321wN ?q321wu ?q321wp1 ?q321wp2 ?_; (case q321whh => exact rfl); (case q321wF => k_asm); (case q321wX => k_asm); (case q321wN => k_asm); (case q321wu => ktr_units); (case q321wp1 => k_extra "my PO"); (case q321wp2 => k_extra "my PO"); k_whole; intro c' h' tk' F' N' P'; (try k_sweep)))
  k_with "my compareOp Eq ref ref" => (k_here; k_dflt (refine' eq_po ?q322wF ?q322wX ?q322wN ?q322wu ?q322wp1 ?q322wp2 ?_; (case q322wF => k_asm); (case q322wX => k_asm); (case q322wN => k_asm); (case q322wp1 => k_extra "my PO"); (case q322wp2 => k_extra "my PO"); (case q322wu => ktr_units); k_whole))
  k_with "my compareOp NotEq ref ref" => (k_here; k_dflt (refine' ne_po ?q323wF ?q323wX ?q323wN ?q323wu ?q323wp1 ?q323wp2 ?_; (case q323wF => k_asm); (case q323wX => k_asm); (case q323wN => k_asm); (case q323wp1 => k_extra "my PO"); (case q323wp2 => k_extra "my PO"); (case q323wu => ktr_units); k_whole))
  k_with "my compareOp Lt ref ref" => (k_here; k_dflt (refine' lt_po ?q324wF ?q324wX ?q324wN ?q324wu ?q324wp1 ?q324wp2 ?_; (case q324wF => k_asm); (case q324wX => k_asm); (case q324wN => k_asm); (case q324wp1 => k_extra "my PO"); (case q324wp2 => k_extra "my PO"); (case q324wu => ktr_units); k_whole))
  k_with "my compareOp LtE ref ref" => (k_here; k_dflt (refine' le_po ?q325wF ?q325wX ?q325wN ?q325wu ?q325wp1 ?q325wp2 ?_; (case q325wF => k_asm); (case q325wX => k_asm); (case q325wN => k_asm); (case q325wp1 => k_extra "my PO"); (case q325wp2 => k_extra "my PO"); (case q325wu => ktr_units); k_whole))
  k_with "my compareOp Is ref ref" => (k_here; (first | (with_reducible refine' is_ori_col ?q326wF ?q326wX ?_) | (with_reducible refine' is_ori ?q326wF ?q326wX ?_)); (case q326wF => k_asm); (case q326wX => k_asm); k_whole)
  k_with "my SO" => first | assumption | exact So.mono (by assumption) (by k_extra "my SUB")
  k_with "my call builtin:sorted" => (k_here; (with_reducible show wpAny _ _ (call (Value.builtin "sorted") [Value.ref _]) _ _ _); k_dflt (refine' sorted4_led ?q328wF ?q328wX ?q328wN ?q328whm ?q328whc ?q328whd ?q328wh0 ?q328wh1 ?q328wh2 ?q328wh3 ?q328wu ?_; (case q328wF => k_asm); (case q328wX => k_asm); (case q328wN => k_asm); (case q328whm => k_mem); (case q328whc => exact rfl); (case q328whd => exact rfl); (case q328wh0 => k_extra "my PO"); (case q328wh1 => k_extra "my PO"); (case q328wh2 => k_extra "my PO"); (case q328wh3 => k_extra "my PO"); (case q328wu => ktr_units); k_whole; intro D' c' b0' b1' b2' b3' q0' q1' q2' q3' h' F' N' l1 P0' P1' P2' P3' hsrt; (try k_sweep)))
  k_with "my call ref" => (k_here; (with_reducible show wpAny _ _ (call (Value.ref 322) [_, _, _]) _ _ _); k_dflt (refine' k_seg _ ?q9B ?q9F ?q9X ?q9N ?q9T ?q9K ?q9d ?q9u ?q329wp1 ?q329wp2 ?_; k_extra "my CTX"; (case q329wp1 => k_extra "my PO"); (case q329wp2 => k_extra "my PO"); k_whole; intro nw' r' h' tk' F' N' S'; (try k_sweep)))
  k_with "my call ref" => (k_here; (with_reducible show wpAny _ _ (call (Value.ref 329) [_, _]) _ _ _); k_dflt (refine' k_mseg _ ?q9B ?q9F ?q9X ?q9N ?q9T ?q9K ?q9d ?q9u ?_; k_extra "my CTX"; k_whole; intro nw' r' h' tk' F' N' S'; (try k_sweep)))
  k_with "my call ref" => (k_here; (with_reducible show wpAny _ _ (call (Value.ref 336) [_, _]) _ _ _); k_dflt (refine' k_mpt _ ?q9B ?q9F ?q9X ?q9N ?q9T ?q9K ?q9d ?q9u ?_; k_extra "my CTX"; k_whole; intro nw' r' h' tk' F' N' S'; (try k_sweep)))
  k_with "my call ref" => (k_here; (with_reducible show wpAny _ _ (call (Value.ref 378) [_, _, _]) _ _ _); k_dflt (refine' k_inter _ ?q9B ?q9F ?q9X ?q9N ?q9T ?q9K ?q9d ?q9u ?q332wc ?q332ws1 ?q332ws2 ?q332wb1 ?q332wb2 ?q332wb3 ?q332wb4 ?q332whi ?q332wok ?_; k_extra "my CTX"; (case q332wc => k_extra "my CX"); (case q332ws1 => k_extra "my SO"); (case q332ws2 => k_extra "my SO"); (case q332wb1 => k_extra "my BP"); (case q332wb2 => k_extra "my BP"); (case q332wb3 => k_extra "my BP"); (case q332wb4 => k_extra "my BP"); (case q332whi => assumption); (case q332wok => assumption); k_whole; intro nw' r' h' tk' F' N' P'; (try k_sweep)))
  k_with "my CX" => first | assumption | exact Cx.mono (by assumption) (by k_extra "my SUB")
  k_with "my call builtin:min" => (k_here; (with_reducible show wpAny _ _ (call (Value.builtin "min") [Value.ref _, Value.ref _, Value.ref _, Value.ref _]) _ _ _); k_dflt (refine' min4_po ?q334whh ?q334wF ?q334wX ?q334wN ?q334wu ?q334wp1 ?q334wp2 ?q334wp3 ?q334wp4 ?_; (case q334whh => exact rfl); (case q334wF => k_asm); (case q334wX => k_asm); (case q334wN => k_asm); (case q334wu => ktr_units); (case q334wp1 => k_extra "my PO"); (case q334wp2 => k_extra "my PO"); (case q334wp3 => k_extra "my PO"); (case q334wp4 => k_extra "my PO"); k_whole; intro c' h' tk' F' N' P'; (try k_sweep)))
  k_with "my call builtin:max" => (k_here; (with_reducible show wpAny _ _ (call (Value.builtin "max") [Value.ref _, Value.ref _, Value.ref _, Value.ref _]) _ _ _); k_dflt (refine' max4_po ?q335whh ?q335wF ?q335wX ?q335wN ?q335wu ?q335wp1 ?q335wp2 ?q335wp3 ?q335wp4 ?_; (case q335whh => exact rfl); (case q335wF => k_asm); (case q335wX => k_asm); (case q335wN => k_asm); (case q335wu => ktr_units); (case q335wp1 => k_extra "my PO"); (case q335wp2 => k_extra "my PO"); (case q335wp3 => k_extra "my PO"); (case q335wp4 => k_extra "my PO"); k_whole; intro c' h' tk' F' N' P'; (try k_sweep)))
  k_with "my RETRS" => (refine' ret_rs ?q336wF ?q336wN ?q336wS ?_; (case q336wF => k_asm); (case q336wN => k_asm); (case q336wS => k_extra "my SUB"))
  k_with "my compareOp IsNot ref ref" => (k_here; (first | (with_reducible refine' isnot_ori_col ?q337wF ?q337wX ?_) | (with_reducible refine' isnot_ori ?q337wF ?q337wX ?_)); (case q337wF => k_asm); (case q337wX => k_asm); k_whole)
  k_with "my MS" => first | assumption | exact Ms.mono (by assumption) (by k_extra "my SUB")
  k_with "my CutB" => (plain_pass; refine' CutB.mk' ?q339wF ?q339wN ?q339we; (case q339wF => k_asm); (case q339wN => k_asm); (case q339we => first
    | exact tst_c (by with_reducible assumption) (by with_reducible assumption)
    | exact tst_a (by with_reducible assumption)
    | exact tst_b (by with_reducible assumption)
    | exact and4_t (by with_reducible assumption) (by with_reducible assumption) (by with_reducible assumption) (by with_reducible assumption)
    | exact and4_4 (by with_reducible assumption)
    | exact and4_3 (by with_reducible assumption)
    | exact and4_2 (by with_reducible assumption)
    | exact and4_1 (by with_reducible assumption)))
  k_with "my isTrue BoolOp" => (k_here; (with_reducible show wpAny _ _ (isTrue (Expr.BoolOp BoolOp.Or [Expr.Compare (Expr.Attribute (Expr.Name (Str.ofString "first") _) (Str.ofString "start") _) [CmpOp.NotEq] [Expr.Attribute (Expr.Name (Str.ofString "second") _) (Str.ofString "start") _] _, _] _) _ _) _ _ _); (fail_if_success (with_reducible show wpAny _ _ _ (fun ok s' => CutB _ _ _ _ (tst P1 P3 P1 P2 P4) _ ok s') _ _)); (refine' cut_bool (tst P1 P3 P1 P2 P4) ?q340wF ?q340wN ?_ ?q340wtwo; (case q340wF => k_asm); (case q340wN => k_asm); (case' q340wtwo => intro h' tk' F' N'; (try dsimp only); (try k_sweep))))
  k_with "my isTrue BoolOp" => (k_here; (with_reducible show wpAny _ _ (isTrue (Expr.BoolOp BoolOp.Or [Expr.Compare (Expr.Attribute (Expr.Name (Str.ofString "first") _) (Str.ofString "start") _) [CmpOp.NotEq] [Expr.Attribute (Expr.Name (Str.ofString "second") _) (Str.ofString "end") _] _, _] _) _ _) _ _ _); (fail_if_success (with_reducible show wpAny _ _ _ (fun ok s' => CutB _ _ _ _ (tst P1 P4 P1 P2 P3) _ ok s') _ _)); (refine' cut_bool (tst P1 P4 P1 P2 P3) ?q341wF ?q341wN ?_ ?q341wtwo; (case q341wF => k_asm); (case q341wN => k_asm); (case' q341wtwo => intro h' tk' F' N'; (try dsimp only); (try k_sweep))))
  k_with "my isTrue BoolOp" => (k_here; (with_reducible show wpAny _ _ (isTrue (Expr.BoolOp BoolOp.Or [Expr.Compare (Expr.Attribute (Expr.Name (Str.ofString "first") _) (Str.ofString "end") _) [CmpOp.NotEq] [Expr.Attribute (Expr.Name (Str.ofString "second") _) (Str.ofString "start") _] _, _] _) _ _) _ _ _); (fail_if_success (with_reducible show wpAny _ _ _ (fun ok s' => CutB _ _ _ _ (tst P2 P3 P2 P1 P4) _ ok s') _ _)); (refine' cut_bool (tst P2 P3 P2 P1 P4) ?q342wF ?q342wN ?_ ?q342wtwo; (case q342wF => k_asm); (case q342wN => k_asm); (case' q342wtwo => intro h' tk' F' N'; (try dsimp only); (try k_sweep))))
  k_with "my isTrue BoolOp" => (k_here; (with_reducible show wpAny _ _ (isTrue (Expr.BoolOp BoolOp.Or [Expr.Compare (Expr.Attribute (Expr.Name (Str.ofString "first") _) (Str.ofString "end") _) [CmpOp.NotEq] [Expr.Attribute (Expr.Name (Str.ofString "second") _) (Str.ofString "end") _] _, _] _) _ _) _ _ _); (fail_if_success (with_reducible show wpAny _ _ _ (fun ok s' => CutB _ _ _ _ (tst P2 P4 P2 P1 P3) _ ok s') _ _)); (refine' cut_bool (tst P2 P4 P2 P1 P3) ?q343wF ?q343wN ?_ ?q343wtwo; (case q343wF => k_asm); (case q343wN => k_asm); (case' q343wtwo => intro h' tk' F' N'; (try dsimp only); (try k_sweep))))
  k_with "my isTrue BoolOp" => (k_here; (with_reducible show wpAny _ _ (isTrue (Expr.BoolOp BoolOp.And [_, _, _, _] _) _ _) _ _ _); (fail_if_success (with_reducible show wpAny _ _ _ (fun ok s' => CutB _ _ _ _ ((tst P1 P3 P1 P2 P4 && (tst P1 P4 P1 P2 P3 && (tst P2 P3 P2 P1 P4 && tst P2 P4 P2 P1 P3)))) _ ok s') _ _)); (refine' cut_bool ((tst P1 P3 P1 P2 P4 && (tst P1 P4 P1 P2 P3 && (tst P2 P3 P2 P1 P4 && tst P2 P4 P2 P1 P3)))) ?q344wF ?q344wN ?_ ?q344wtwo; (case q344wF => k_asm); (case q344wN => k_asm); (case' q344wtwo => intro h' tk' F' N'; (try dsimp only); (try k_sweep))))
  k_with "my exec Assign" => (k_fold)
  k_with "my exec If" => (k_fold)
  k_with "my eval BinOp" => (k_fold)
  k_with "my eval Tuple" => (k_fold)
  k_with "my eval Call" => (k_fold)
  k_with "my eval Call Attribute" => (k_fold)
  k_with "my storeName" => (k_here; k_dflt (refine' storeL ?q351wF ?q351wN ?_ ?q351wa ?q351wb; (case q351wF => k_asm); (case q351wN => k_asm); (case q351wa => rfl); (case q351wb => rfl); k_whole; intro m' h' tk' F' N'; (try k_sweep)))
  k_with "my eval Name" => (k_here; k_dflt (refine' nameL ?q352wF ?q352wv ?_ ?q352wok ?q352whl; (case q352wF => k_asm); (case q352whl => rfl); (case q352wok => rfl); (case q352wv => rfl); k_whole))
  k_with "my eval Attribute Name" => (k_here; k_dflt (refine' attrL ?q353wF ?q353wv ?_ ?q353wok ?q353whl; (case q353wF => k_asm); (case q353whl => rfl); (case q353wok => rfl); (case q353wv => rfl); k_whole))
  k_with "my spliced" => (k_here; k_dflt (first
    | ((with_reducible refine' argLL ?q354wF ?q354wv ?q354wu ?_ ?q354wok ?q354woj ?q354whl); (case q354wF => k_asm); (case q354whl => rfl); (case q354wok => rfl); (case q354woj => rfl); (case q354wv => rfl); (case q354wu => rfl); k_whole)
    | ((with_reducible refine' argL1 ?q354wF ?q354wv ?_ ?q354wok ?q354whl); (case q354wF => k_asm); (case q354whl => rfl); (case q354wok => rfl); (case q354wv => rfl); k_whole)
    | ((with_reducible refine' argL ?q354wF ?q354wv ?_ ?q354wok ?q354whl); (case q354wF => k_asm); (case q354whl => rfl); (case q354wok => rfl); (case q354wv => rfl); k_whole)))
  k_with "my eval Call Attribute" => (k_here; k_dflt (refine' methL ?q355wF ?q355wv ?_ ?q355wok ?q355whl ?q355whe; (case q355wF => k_asm); (case q355whl => rfl); (case q355wok => rfl); (case q355wv => rfl); (case q355whe => rfl); k_whole))
  k_with "my isTrue Compare" => (k_here; k_dflt (first
    | ((with_reducible refine' cmpLL ?q356wF ?q356wv ?q356wu ?_ ?q356wok ?q356woj ?q356whl ?q356whm); (case q356wF => k_asm); (case q356whl => rfl); (case q356wok => rfl); (case q356woj => rfl); (case q356whm => with_unfolding_all rfl); (case q356wv => rfl); (case q356wu => rfl); k_whole)
    | ((with_reducible refine' cmpL ?q356wF ?q356wv ?_ ?q356wok ?q356whl ?q356whm); (case q356wF => k_asm); (case q356whl => rfl); (case q356wok => rfl); (case q356whm => with_unfolding_all rfl); (case q356wv => rfl); k_whole)))
  trivial
def tst (a c u v w : Pt) : Bool := !decide (a = c) || !decide (orient u v w = .col)
theorem tst_a {a c u v w : Pt} (h : ¬ a = c) : true = tst a c u v w := by simp [tst, h]
theorem tst_b {a c u v w : Pt} (h : ¬ orient u v w = .col) : true = tst a c u v w := by simp [tst, h]
theorem tst_c {a c u v w : Pt} (h : a = c) (k : orient u v w = .col) : false = tst a c u v w := by simp [tst, h, k]
theorem and4_t {a b c d : Bool} (h1 : a = true) (h2 : b = true) (h3 : c = true) (h4 : d = true) : true = (a && (b && (c && d))) := by simp [h1, h2, h3, h4]
theorem and4_1 {a b c d : Bool} (h1 : a = false) : false = (a && (b && (c && d))) := by simp [h1]
theorem and4_2 {a b c d : Bool} (h1 : b = false) : false = (a && (b && (c && d))) := by simp [h1]
theorem and4_3 {a b c d : Bool} (h1 : c = false) : false = (a && (b && (c && d))) := by simp [h1]
theorem and4_4 {a b c d : Bool} (h1 : d = false) : false = (a && (b && (c && d))) := by simp [h1]
theorem tst_iff {a c u v w : Pt} : tst a c u v w = true ↔ (a ≠ c ∨ orient u v w ≠ .col) := by simp [tst]
theorem uni_t {a b c d : Pt} (h : (tst a c a b d && (tst a d a b c && (tst b c b a d && tst b d b a c))) = true) : uniTouch a b c d = .mseg [(a, b), (c, d)] := by
  simp only [Bool.and_eq_true, tst_iff] at h
  unfold uniTouch
  rw [if_pos h]
theorem uni_f {a b c d : Pt} (h : (tst a c a b d && (tst a d a b c && (tst b c b a d && tst b d b a c))) = false) : uniTouch a b c d = .seg (minP (minP (minP a b) c) d, maxP (maxP (maxP a b) c) d) := by
  have k : ¬ ((tst a c a b d && (tst a d a b c && (tst b c b a d && tst b d b a c))) = true) := by rw [h]; decide
  simp only [Bool.and_eq_true, tst_iff] at k
  unfold uniTouch
  rw [if_neg k]
theorem k_unit (w : World) {dp un : Nat} {gd : Option (List Code)} {cn : Str} {cs : Scope} {a : Addr} {ccd : Value} {cl : List (Str × Addr)} {outer : List Env} {A₀ : Around} {base h₀ : Heap} {L : Addr} {m : Str → Option Value}
    {pr : Program} {loose : List Str} {mean : ExcName → Option Value} {mg mb : Str → Option Value} {s : Shared} {Q E : Value → Shared → Prop} {news : List (Addr × Obj)} {cx s1 s2 : Addr} {P1 P2 P3 P4 : Pt}
    (B : Below A₀ base outer h₀) (F : Fr h₀ L s.heap m) (X : (Mine.k0.heap_1_39 w.params).In h₀) (N : News h₀ L s.heap news) (T : Top pr loose mean mg mb h₀) (hcs : cs.kind = .function) (hd : dp + 20 < recursionLimit) (hu : un + 160 < cLine)
    (hc : Cx news cx) (h1 : So news s1 P1 P2) (h2 : So news s2 P3 P4) (b1 : Bp P1) (b2 : Bp P2) (b3 : Bp P3) (b4 : Bp P4)
    (hret : ∀ (nw : List (Addr × Obj)) (v : Value) (h' : Heap) (tk' : Nat), Fr h₀ L h' m → News h₀ L h' (nw ++ news) → RsP (nw ++ news) v (uniTouch P1 P2 P3 P4) → Q v { s with heap := h', toks := tk' }) :
    wpAny (model PySem.Challenge.rw_ix0019_01.prog w) (ktrTop dp un gd cn cs L a ccd cl outer) (call (.ref 455) [.ref s1, .ref s2, .ref cx]) Q E s := by
  revert X
  k_fill
  intro X
  have H1 := h1
  have H2 := h2
  have Hc := hc
  refine Cx.elim hc ?_; clear hc; intro dc kc mc1 mc2
  refine So.elim h1 ?_; clear h1; intro d1 e1 t1 p1 e2 t2 p2 k1 m1 m2 x1 x2
  refine So.elim h2 ?_; clear h2; intro d2 e3 t3 p3 e4 t4 p4 k2 m3 m4 x3 x4
  refine wpAny_call ?_
  k_dflt cell_enter
  k_steps
  all_goals refine (fun z : ∃ nw, Fr h₀ L _ m ∧ News h₀ L _ (nw ++ news) ∧ RsP (nw ++ news) _ _ => z.elim fun nw z => hret nw _ _ _ z.1 z.2.1 z.2.2) ?_
  all_goals walk_at "RETRS"
  all_goals first | rw [uni_t (by with_reducible assumption)] | rw [uni_f (by with_reducible assumption)] | skip
  all_goals first
    | exact ⟨_, rfl, by walk_at "SO"⟩
    | exact ⟨_, _, _, _, _, rfl, by walk_at "MS", by k_mem, by walk_at "SO", by walk_at "SO"⟩
end
section
open PySem PySem.W PyProof.Rows PySem.Calls PySem.Spec
set_option Elab.async false
set_option maxRecDepth 100000
set_option maxHeartbeats 8000000
def RelOk (a b c d : Pt) : Prop := rel a b c d = .touch ∨ rel a b c d = .cross → isxOk a b c d
theorem RelOk.ok {a b c d : Pt} (h : RelOk a b c d) (e : rel a b c d = .touch ∨ rel a b c d = .cross) : isxOk a b c d := h e
theorem set_W22 : True := by
  k_with_none
  k_with "my MEM" => first | ktr_member | with_reducible exact List.mem_cons_self | (with_reducible refine' List.mem_cons_of_mem _ ?_; k_extra "my MEM") | (with_reducible refine' List.mem_append_right _ ?_; k_extra "my MEM") | (with_reducible refine' List.mem_append_left _ ?_; k_extra "my MEM")
  k_with "my CELL" => (refine' code_def ?qcellk1 ?qcellk2 ?qcellk3 ?qcellk4 ?qcellk5 ?qcellkA ?qcellkF ?qcellkK ?qcellk6 ?qcellk7 ?qcellk8 ?qcellk9 ?qcellkB ?_ ?qcellc2 ?qcellc3 ?qcellc4 ?qcellc5; (case qcellkA => exact rfl); (case qcellkF => exact rfl); (case qcellkK => first | assumption | exact rfl); (case qcellk1 => k_asm); (case qcellk2 => k_asm); (case qcellk3 => k_asm); (case qcellk4 => k_asm); (case qcellk5 => k_asm); (case qcellk6 => k_is); (case qcellk7 => k_is); (case qcellk8 => ktr_room); (case qcellk9 => first | exact BindsTo.of_eq rfl | exact binds_K (by k_in) rfl (by k_is) rfl rfl rfl); (case qcellc5 => decide); (case qcellkB => exact locs rfl); (case qcellc2 => exact rfl); (case qcellc3 => exact rfl); (case qcellc4 => exact rfl); k_whole; intro g' L' h' FG' F' N' B' X' T'; (try dsimp only); (try k_lift B'); (try k_fold))
  k_with "my testChain" => first | with_reducible refine test_link ?_ | with_reducible refine test_last ?_ | with_unfolding_all refine test_link ?_ | with_unfolding_all refine test_last ?_
  k_with "my SUB" => (intro x hx; first | exact hx | (simp only [List.mem_append, List.mem_cons, hx, true_or, or_true]; done) | (simp only [List.mem_append, List.mem_cons] at hx ⊢; simp_all; done))
  k_with "my PO" => first | assumption | exact Po.mono (by assumption) (by k_extra "my SUB")
  k_with "my CTX" => ((case q9B => k_asm); (case q9F => k_asm); (case q9X => k_asm); (case q9N => k_asm); (case q9T => k_asm); (case q9K => first | assumption | exact rfl); (case q9d => ktr_room); (case q9u => ktr_units))
  k_with "my getAttr ref" => (k_here; (with_reducible show wpAny _ _ (getAttr (Value.ref _) (PySem.Str.ofString "x") _) _ _ _); k_dflt (refine' getx _ ?q9B ?q9F ?q9X ?q9N ?q9T ?q9K ?q9d ?q9u ?q361wp ?_; k_extra "my CTX"; (case q361wp => k_extra "my PO"); k_whole; intro t' h' tk' F' N'; (try k_sweep)))
  k_with "my getAttr ref" => (k_here; (with_reducible show wpAny _ _ (getAttr (Value.ref _) (PySem.Str.ofString "y") _) _ _ _); k_dflt (refine' gety _ ?q9B ?q9F ?q9X ?q9N ?q9T ?q9K ?q9d ?q9u ?q362wp ?_; k_extra "my CTX"; (case q362wp => k_extra "my PO"); k_whole; intro t' h' tk' F' N'; (try k_sweep)))
  k_with "my call ref" => (k_here; (with_reducible show wpAny _ _ (call (Value.ref 364) [_, _, _, _]) _ _ _); k_dflt (refine' k_angle _ ?q9B ?q9F ?q9X ?q9N ?q9T ?q9K ?q9d ?q9u ?q363wp1 ?q363wp2 ?q363wp3 ?q363wb1 ?q363wb2 ?q363wb3 ?_; k_extra "my CTX"; (case q363wp1 => k_extra "my PO"); (case q363wp2 => k_extra "my PO"); (case q363wp3 => k_extra "my PO"); (case q363wb1 => k_extra "my BP"); (case q363wb2 => k_extra "my BP"); (case q363wb3 => k_extra "my BP"); k_whole; intro h' tk' F' N'; (try k_sweep)))
  k_with "my BP" => first | assumption | exact Bp.min (by assumption) (by assumption) | exact Bp.max (by assumption) (by assumption)
  k_with "my call builtin:min" => (k_here; (with_reducible show wpAny _ _ (call (Value.builtin "min") [Value.ref _, Value.ref _]) _ _ _); k_dflt (refine' min2_po ?q365whh ?q365wF ?q365wX ?q365wN ?q365wu ?q365wp1 ?q365wp2 ?_; (case q365whh => exact rfl); (case q365wF => k_asm); (case q365wX => k_asm); (case q365wN => k_asm); (case q365wu => ktr_units); (case q365wp1 => k_extra "my PO"); (case q365wp2 => k_extra "my PO"); k_whole; intro c' h' tk' F' N' P'; (try k_sweep)))
  k_with "my call builtin:max" => (k_here; (with_reducible show wpAny _ _ (call (Value.builtin "max") [Value.ref _, Value.ref _]) _ _ _); k_dflt (refine' max2_po ?q366whh ?q366wF ?q366wX ?q366wN ?q366wu ?q366wp1 ?q366wp2 ?_; (case q366whh => exact rfl); (case q366wF => k_asm); (case q366wX => k_asm); (case q366wN => k_asm); (case q366wu => ktr_units); (case q366wp1 => k_extra "my PO"); (case q366wp2 => k_extra "my PO"); k_whole; intro c' h' tk' F' N' P'; (try k_sweep)))
  k_with "my compareOp Eq ref ref" => (k_here; k_dflt (refine' eq_po ?q367wF ?q367wX ?q367wN ?q367wu ?q367wp1 ?q367wp2 ?_; (case q367wF => k_asm); (case q367wX => k_asm); (case q367wN => k_asm); (case q367wp1 => k_extra "my PO"); (case q367wp2 => k_extra "my PO"); (case q367wu => ktr_units); k_whole))
  k_with "my compareOp NotEq ref ref" => (k_here; k_dflt (refine' ne_po ?q368wF ?q368wX ?q368wN ?q368wu ?q368wp1 ?q368wp2 ?_; (case q368wF => k_asm); (case q368wX => k_asm); (case q368wN => k_asm); (case q368wp1 => k_extra "my PO"); (case q368wp2 => k_extra "my PO"); (case q368wu => ktr_units); k_whole))
  k_with "my compareOp Lt ref ref" => (k_here; k_dflt (refine' lt_po ?q369wF ?q369wX ?q369wN ?q369wu ?q369wp1 ?q369wp2 ?_; (case q369wF => k_asm); (case q369wX => k_asm); (case q369wN => k_asm); (case q369wp1 => k_extra "my PO"); (case q369wp2 => k_extra "my PO"); (case q369wu => ktr_units); k_whole))
  k_with "my compareOp LtE ref ref" => (k_here; k_dflt (refine' le_po ?q370wF ?q370wX ?q370wN ?q370wu ?q370wp1 ?q370wp2 ?_; (case q370wF => k_asm); (case q370wX => k_asm); (case q370wN => k_asm); (case q370wp1 => k_extra "my PO"); (case q370wp2 => k_extra "my PO"); (case q370wu => ktr_units); k_whole))
  k_with "my compareOp Is ref ref" => (k_here; (first | (with_reducible refine' is_ori_col ?q371wF ?q371wX ?_) | (with_reducible refine' is_ori ?q371wF ?q371wX ?_)); (case q371wF => k_asm); (case q371wX => k_asm); k_whole)
  k_with "my SO" => first | assumption | exact So.mono (by assumption) (by k_extra "my SUB")
  k_with "my call builtin:sorted" => (k_here; (with_reducible show wpAny _ _ (call (Value.builtin "sorted") [Value.ref _]) _ _ _); k_dflt (refine' sorted4_led ?q373wF ?q373wX ?q373wN ?q373whm ?q373whc ?q373whd ?q373wh0 ?q373wh1 ?q373wh2 ?q373wh3 ?q373wu ?_; (case q373wF => k_asm); (case q373wX => k_asm); (case q373wN => k_asm); (case q373whm => k_mem); (case q373whc => exact rfl); (case q373whd => exact rfl); (case q373wh0 => k_extra "my PO"); (case q373wh1 => k_extra "my PO"); (case q373wh2 => k_extra "my PO"); (case q373wh3 => k_extra "my PO"); (case q373wu => ktr_units); k_whole; intro D' c' b0' b1' b2' b3' q0' q1' q2' q3' h' F' N' l1 P0' P1' P2' P3' hsrt; (try k_sweep)))
  k_with "my call ref" => (k_here; (with_reducible show wpAny _ _ (call (Value.ref 322) [_, _, _]) _ _ _); k_dflt (refine' k_seg _ ?q9B ?q9F ?q9X ?q9N ?q9T ?q9K ?q9d ?q9u ?q374wp1 ?q374wp2 ?_; k_extra "my CTX"; (case q374wp1 => k_extra "my PO"); (case q374wp2 => k_extra "my PO"); k_whole; intro nw' r' h' tk' F' N' S'; (try k_sweep)))
  k_with "my call ref" => (k_here; (with_reducible show wpAny _ _ (call (Value.ref 329) [_, _]) _ _ _); k_dflt (refine' k_mseg _ ?q9B ?q9F ?q9X ?q9N ?q9T ?q9K ?q9d ?q9u ?_; k_extra "my CTX"; k_whole; intro nw' r' h' tk' F' N' S'; (try k_sweep)))
  k_with "my call ref" => (k_here; (with_reducible show wpAny _ _ (call (Value.ref 336) [_, _]) _ _ _); k_dflt (refine' k_mpt _ ?q9B ?q9F ?q9X ?q9N ?q9T ?q9K ?q9d ?q9u ?_; k_extra "my CTX"; k_whole; intro nw' r' h' tk' F' N' S'; (try k_sweep)))
  k_with "my call ref" => (k_here; (with_reducible show wpAny _ _ (call (Value.ref 378) [_, _, _]) _ _ _); k_dflt (refine' k_inter _ ?q9B ?q9F ?q9X ?q9N ?q9T ?q9K ?q9d ?q9u ?q377wc ?q377ws1 ?q377ws2 ?q377wb1 ?q377wb2 ?q377wb3 ?q377wb4 ?q377whi ?q377wok ?_; k_extra "my CTX"; (case q377wc => k_extra "my CX"); (case q377ws1 => k_extra "my SO"); (case q377ws2 => k_extra "my SO"); (case q377wb1 => k_extra "my BP"); (case q377wb2 => k_extra "my BP"); (case q377wb3 => k_extra "my BP"); (case q377wb4 => k_extra "my BP"); (case q377whi => assumption); (case q377wok => assumption); k_whole; intro nw' r' h' tk' F' N' P'; (try k_sweep)))
  k_with "my CX" => first | assumption | exact Cx.mono (by assumption) (by k_extra "my SUB")
  k_with "my call builtin:min" => (k_here; (with_reducible show wpAny _ _ (call (Value.builtin "min") [Value.ref _, Value.ref _, Value.ref _, Value.ref _]) _ _ _); k_dflt (refine' min4_po ?q379whh ?q379wF ?q379wX ?q379wN ?q379wu ?q379wp1 ?q379wp2 ?q379wp3 ?q379wp4 ?_; (case q379whh => exact rfl); (case q379wF => k_asm); (case q379wX => k_asm); (case q379wN => k_asm); (case q379wu => ktr_units); (case q379wp1 => k_extra "my PO"); (case q379wp2 => k_extra "my PO"); (case q379wp3 => k_extra "my PO"); (case q379wp4 => k_extra "my PO"); k_whole; intro c' h' tk' F' N' P'; (try k_sweep)))
  k_with "my call builtin:max" => (k_here; (with_reducible show wpAny _ _ (call (Value.builtin "max") [Value.ref _, Value.ref _, Value.ref _, Value.ref _]) _ _ _); k_dflt (refine' max4_po ?q380whh ?q380wF ?q380wX ?q380wN ?q380wu ?q380wp1 ?q380wp2 ?q380wp3 ?q380wp4 ?_; (case q380whh => exact rfl); (case q380wF => k_asm); (case q380wX => k_asm); (case q380wN => k_asm); (case q380wu => ktr_units); (case q380wp1 => k_extra "my PO"); (case q380wp2 => k_extra "my PO"); (case q380wp3 => k_extra "my PO"); (case q380wp4 => k_extra "my PO"); k_whole; intro c' h' tk' F' N' P'; (try k_sweep)))
  k_with "my RETRS" => (refine' ret_rs ?q381wF ?q381wN ?q381wS ?_; (case q381wF => k_asm); (case q381wN => k_asm); (case q381wS => k_extra "my SUB"))
  k_with "my compareOp IsNot ref ref" => (k_here; (first | (with_reducible refine' isnot_ori_col ?q382wF ?q382wX ?_) | (with_reducible refine' isnot_ori ?q382wF ?q382wX ?_)); (case q382wF => k_asm); (case q382wX => k_asm); k_whole)
  k_with "my call ref" => (k_here; (with_reducible show wpAny _ _ (call (Value.ref 371) [_, _, _]) _ _ _); k_dflt (refine' k_rel _ ?q9B ?q9F ?q9X ?q9N ?q9T ?q9K ?q9d ?q9u ?q383wc ?q383ws1 ?q383ws2 ?q383wb1 ?q383wb2 ?q383wb3 ?q383wb4 ?_; k_extra "my CTX"; (case q383wc => k_extra "my CX"); (case q383ws1 => k_extra "my SO"); (case q383ws2 => k_extra "my SO"); (case q383wb1 => k_extra "my BP"); (case q383wb2 => k_extra "my BP"); (case q383wb3 => k_extra "my BP"); (case q383wb4 => k_extra "my BP"); k_whole; intro h' tk' F' N'; (try k_sweep)))
  k_with "my call ref" => (k_here; (with_reducible show wpAny _ _ (call (Value.ref 378) [_, _, _]) _ _ _); k_dflt (refine' k_inter _ ?q9B ?q9F ?q9X ?q9N ?q9T ?q9K ?q9d ?q9u ?q384wc ?q384ws1 ?q384ws2 ?q384wb1 ?q384wb2 ?q384wb3 ?q384wb4 ?q384whi ?q384wok ?_; k_extra "my CTX"; (case q384wc => k_extra "my CX"); (case q384ws1 => k_extra "my SO"); (case q384ws2 => k_extra "my SO"); (case q384wb1 => k_extra "my BP"); (case q384wb2 => k_extra "my BP"); (case q384wb3 => k_extra "my BP"); (case q384wb4 => k_extra "my BP"); (case q384whi => assumption); (case q384wok => k_extra "my OK"); k_whole; intro nw' r' h' tk' F' N' P'; (try k_sweep)))
  k_with "my call ref" => (k_here; (with_reducible show wpAny _ _ (call (Value.ref 427) [_, _, _]) _ _ _); k_dflt (refine' k_subo _ ?q9B ?q9F ?q9X ?q9N ?q9T ?q9K ?q9d ?q9u ?q385wc ?q385ws1 ?q385ws2 ?_; k_extra "my CTX"; (case q385wc => k_extra "my CX"); (case q385ws1 => k_extra "my SO"); (case q385ws2 => k_extra "my SO"); k_whole; intro nw' v' h' tk' F' N' R'; (try k_sweep)))
  k_with "my call ref" => (k_here; (with_reducible show wpAny _ _ (call (Value.ref 434) [_, _, _]) _ _ _); k_dflt (refine' k_symo _ ?q9B ?q9F ?q9X ?q9N ?q9T ?q9K ?q9d ?q9u ?q386wc ?q386ws1 ?q386ws2 ?_; k_extra "my CTX"; (case q386wc => k_extra "my CX"); (case q386ws1 => k_extra "my SO"); (case q386ws2 => k_extra "my SO"); k_whole; intro nw' v' h' tk' F' N' R'; (try k_sweep)))
  k_with "my call ref" => (k_here; (with_reducible show wpAny _ _ (call (Value.ref 462) [_, _, _]) _ _ _); k_dflt (refine' k_iovl _ ?q9B ?q9F ?q9X ?q9N ?q9T ?q9K ?q9d ?q9u ?q387wc ?q387ws1 ?q387ws2 ?_; k_extra "my CTX"; (case q387wc => k_extra "my CX"); (case q387ws1 => k_extra "my SO"); (case q387ws2 => k_extra "my SO"); k_whole; intro nw' v' h' tk' F' N' R'; (try k_sweep)))
  k_with "my call ref" => (k_here; (with_reducible show wpAny _ _ (call (Value.ref 420) [_, _, _]) _ _ _); k_dflt (refine' k_subc _ ?q9B ?q9F ?q9X ?q9N ?q9T ?q9K ?q9d ?q9u ?q388wc ?q388ws1 ?q388ws2 ?_; k_extra "my CTX"; (case q388wc => k_extra "my CX"); (case q388ws1 => k_extra "my SO"); (case q388ws2 => k_extra "my SO"); k_whole; intro nw' v' h' tk' F' N' R'; (try k_sweep)))
  k_with "my call ref" => (k_here; (with_reducible show wpAny _ _ (call (Value.ref 448) [_, _, _]) _ _ _); k_dflt (refine' k_unio _ ?q9B ?q9F ?q9X ?q9N ?q9T ?q9K ?q9d ?q9u ?q389wc ?q389ws1 ?q389ws2 ?_; k_extra "my CTX"; (case q389wc => k_extra "my CX"); (case q389ws1 => k_extra "my SO"); (case q389ws2 => k_extra "my SO"); k_whole; intro nw' v' h' tk' F' N' R'; (try k_sweep)))
  k_with "my call ref" => (k_here; (with_reducible show wpAny _ _ (call (Value.ref 441) [_, _, _]) _ _ _); k_dflt (refine' k_unic _ ?q9B ?q9F ?q9X ?q9N ?q9T ?q9K ?q9d ?q9u ?q390wc ?q390ws1 ?q390ws2 ?q390wb1 ?q390wb2 ?q390wb3 ?q390wb4 ?q390whi ?q390wok ?_; k_extra "my CTX"; (case q390wc => k_extra "my CX"); (case q390ws1 => k_extra "my SO"); (case q390ws2 => k_extra "my SO"); (case q390wb1 => k_extra "my BP"); (case q390wb2 => k_extra "my BP"); (case q390wb3 => k_extra "my BP"); (case q390wb4 => k_extra "my BP"); (case q390whi => assumption); (case q390wok => k_extra "my OK"); k_whole; intro nw' v' h' tk' F' N' R'; (try k_sweep)))
  k_with "my call ref" => (k_here; (with_reducible show wpAny _ _ (call (Value.ref 455) [_, _, _]) _ _ _); k_dflt (refine' k_unit _ ?q9B ?q9F ?q9X ?q9N ?q9T ?q9K ?q9d ?q9u ?q391wc ?q391ws1 ?q391ws2 ?q391wb1 ?q391wb2 ?q391wb3 ?q391wb4 ?_; k_extra "my CTX"; (case q391wc => k_extra "my CX"); (case q391ws1 => k_extra "my SO"); (case q391ws2 => k_extra "my SO"); (case q391wb1 => k_extra "my BP"); (case q391wb2 => k_extra "my BP"); (case q391wb3 => k_extra "my BP"); (case q391wb4 => k_extra "my BP"); k_whole; intro nw' v' h' tk' F' N' R'; (try k_sweep)))
  k_with "my OK" => first | assumption | exact RelOk.ok (by assumption) (by first | exact Or.inl (by assumption) | exact Or.inr (by assumption))
  k_with "my compareOp Is ref ref" => (k_here; (first | (with_reducible refine' is_rel_disjoint ?q393wF ?q393wX ?_) | (with_reducible refine' is_rel_touch ?q393wF ?q393wX ?_) | (with_reducible refine' is_rel_cross ?q393wF ?q393wX ?_) | (with_reducible refine' is_rel_overlap ?q393wF ?q393wX ?_) | (with_reducible refine' is_rel_composite ?q393wF ?q393wX ?_) | (with_reducible refine' is_rel_equal ?q393wF ?q393wX ?_) | (with_reducible refine' is_rel_component ?q393wF ?q393wX ?_)); (case q393wF => k_asm); (case q393wX => k_asm); k_whole)
  k_with "my MS" => first | assumption | exact Ms.mono (by assumption) (by k_extra "my SUB")
  k_with "my MP" => first | assumption | exact Mp.mono (by assumption) (by k_extra "my SUB")
  k_with "my exec Assign" => (k_fold)
  k_with "my exec If" => (k_fold)
  k_with "my eval BinOp" => (k_fold)
  k_with "my eval Tuple" => (k_fold)
  k_with "my eval Call" => (k_fold)
  k_with "my eval Call Attribute" => (k_fold)
  k_with "my storeName" => (k_here; k_dflt (refine' storeL ?q402wF ?q402wN ?_ ?q402wa ?q402wb; (case q402wF => k_asm); (case q402wN => k_asm); (case q402wa => rfl); (case q402wb => rfl); k_whole; intro m' h' tk' F' N'; (try k_sweep)))
  k_with "my eval Name" => (k_here; k_dflt (refine' nameL ?q403wF ?q403wv ?_ ?q403wok ?q403whl; (case q403wF => k_asm); (case q403whl => rfl); (case q403wok => rfl); (case q403wv => rfl); k_whole))
  k_with "my eval Attribute Name" => (k_here; k_dflt (refine' attrL ?q404wF ?q404wv ?_ ?q404wok ?q404whl; (case q404wF => k_asm); (case q404whl => rfl); (case q404wok => rfl); (case q404wv => rfl); k_whole))
  k_with "my spliced" => (k_here; k_dflt (first
    | ((with_reducible refine' argLL ?q405wF ?q405wv ?q405wu ?_ ?q405wok ?q405woj ?q405whl); (case q405wF => k_asm); (case q405whl => rfl); (case q405wok => rfl); (case q405woj => rfl); (case q405wv => rfl); (case q405wu => rfl); k_whole)
    | ((with_reducible refine' argL1 ?q405wF ?q405wv ?_ ?q405wok ?q405whl); (case q405wF => k_asm); (case q405whl => rfl); (case q405wok => rfl); (case q405wv => rfl); k_whole)
    | ((with_reducible refine' argL ?q405wF ?q405wv ?_ ?q405wok ?q405whl); (case q405wF => k_asm); (case q405whl => rfl); (case q405wok => rfl); (case q405wv => rfl); k_whole)))
  k_with "my eval Call Attribute" => (k_here; k_dflt (refine' methL ?q406wF ?q406wv ?_ ?q406wok ?q406whl ?q406whe; (case q406wF => k_asm); (case q406whl => rfl); (case q406wok => rfl); (case q406wv => rfl); (case q406whe => rfl); k_whole))
  k_with "my isTrue Compare" => (k_here; k_dflt (first
    | ((with_reducible refine' cmpLL ?q407wF ?q407wv ?q407wu ?_ ?q407wok ?q407woj ?q407whl ?q407whm); (case q407wF => k_asm); (case q407whl => rfl); (case q407wok => rfl); (case q407woj => rfl); (case q407whm => with_unfolding_all rfl); (case q407wv => rfl); (case q407wu => rfl); k_whole)
    | ((with_reducible refine' cmpL ?q407wF ?q407wv ?_ ?q407wok ?q407whl ?q407whm); (case q407wF => k_asm); (case q407whl => rfl); (case q407wok => rfl); (case q407whm => with_unfolding_all rfl); (case q407wv => rfl); k_whole)))
  trivial
theorem k_intersect (w : World) {dp un : Nat} {gd : Option (List Code)} {cn : Str} {cs : Scope} {a : Addr} {ccd : Value} {cl : List (Str × Addr)} {outer : List Env} {A₀ : Around} {base h₀ : Heap} {L : Addr} {m : Str → Option Value}
    {pr : Program} {loose : List Str} {mean : ExcName → Option Value} {mg mb : Str → Option Value} {s : Shared} {Q E : Value → Shared → Prop} {news : List (Addr × Obj)} {cx s1 s2 : Addr} {P1 P2 P3 P4 : Pt}
    (B : Below A₀ base outer h₀) (F : Fr h₀ L s.heap m) (X : (Mine.k0.heap_1_39 w.params).In h₀) (N : News h₀ L s.heap news) (T : Top pr loose mean mg mb h₀) (hcs : cs.kind = .function) (hd : dp + 130 < recursionLimit) (hu : un + 400 < cLine)
    (hc : Cx news cx) (h1 : So news s1 P1 P2) (h2 : So news s2 P3 P4) (b1 : Bp P1) (b2 : Bp P2) (b3 : Bp P3) (b4 : Bp P4) (hi : importsNone pr = true) (ok : RelOk P1 P2 P3 P4)
    (hret : ∀ (nw : List (Addr × Obj)) (v : Value) (h' : Heap) (tk' : Nat), Fr h₀ L h' m → News h₀ L h' (nw ++ news) → RsP (nw ++ news) v (intersectF P1 P2 P3 P4) → Q v { s with heap := h', toks := tk' }) :
    wpAny (model PySem.Challenge.rw_ix0019_01.prog w) (ktrTop dp un gd cn cs L a ccd cl outer) (call (.ref 392) [.ref s1, .ref s2, .ref cx]) Q E s := by
  revert X
  k_fill
  intro X
  have H1 := h1
  have H2 := h2
  have Hc := hc
  refine Cx.elim hc ?_; clear hc; intro dc kc mc1 mc2
  refine So.elim h1 ?_; clear h1; intro d1 e1 t1 p1 e2 t2 p2 k1 m1 m2 x1 x2
  refine So.elim h2 ?_; clear h2; intro d2 e3 t3 p3 e4 t4 p4 k2 m3 m4 x3 x4
  refine wpAny_call ?_
  k_dflt cell_enter
  k_steps
  all_goals refine (fun z : ∃ nw, Fr h₀ L _ m ∧ News h₀ L _ (nw ++ news) ∧ RsP (nw ++ news) _ _ => z.elim fun nw z => hret nw _ _ _ z.1 z.2.1 z.2.2) ?_
  all_goals walk_at "RETRS"
  all_goals unfold intersectF
  all_goals cases hr : rel P1 P2 P3 P4
  all_goals first
    | exact absurd hr (by assumption)
    | exact absurd (hr.symm.trans (by assumption : rel P1 P2 P3 P4 = Rel.disjoint)) (by decide)
    | exact absurd (hr.symm.trans (by assumption : rel P1 P2 P3 P4 = Rel.touch)) (by decide)
    | exact absurd (hr.symm.trans (by assumption : rel P1 P2 P3 P4 = Rel.cross)) (by decide)
    | exact absurd (hr.symm.trans (by assumption : rel P1 P2 P3 P4 = Rel.overlap)) (by decide)
    | exact absurd (hr.symm.trans (by assumption : rel P1 P2 P3 P4 = Rel.composite)) (by decide)
    | exact absurd (hr.symm.trans (by assumption : rel P1 P2 P3 P4 = Rel.equal)) (by decide)
    | exact absurd (hr.symm.trans (by assumption : rel P1 P2 P3 P4 = Rel.component)) (by decide)
    | skip
  all_goals dsimp only
  all_goals first
    | exact rfl
    | assumption
    | exact RsP.mono (by assumption) (by walk_at "SUB")
    | exact ⟨_, rfl, by walk_at "SO"⟩
    | exact ⟨_, _, _, _, rfl, by walk_at "MP", by k_mem, by walk_at "PO"⟩
    | exact ⟨_, _, _, _, _, rfl, by walk_at "MS", by k_mem, by walk_at "SO", by walk_at "SO"⟩
    | trace_state
end
section
open PySem PySem.W PyProof.Rows PySem.Calls PySem.Spec
set_option Elab.async false
set_option maxRecDepth 100000
set_option maxHeartbeats 8000000
theorem set_W23 : True := by
  k_with_none
  k_with "my MEM" => first | ktr_member | with_reducible exact List.mem_cons_self | (with_reducible refine' List.mem_cons_of_mem _ ?_; k_extra "my MEM") | (with_reducible refine' List.mem_append_right _ ?_; k_extra "my MEM") | (with_reducible refine' List.mem_append_left _ ?_; k_extra "my MEM")
  k_with "my CELL" => (refine' code_def ?qcellk1 ?qcellk2 ?qcellk3 ?qcellk4 ?qcellk5 ?qcellkA ?qcellkF ?qcellkK ?qcellk6 ?qcellk7 ?qcellk8 ?qcellk9 ?qcellkB ?_ ?qcellc2 ?qcellc3 ?qcellc4 ?qcellc5; (case qcellkA => exact rfl); (case qcellkF => exact rfl); (case qcellkK => first | assumption | exact rfl); (case qcellk1 => k_asm); (case qcellk2 => k_asm); (case qcellk3 => k_asm); (case qcellk4 => k_asm); (case qcellk5 => k_asm); (case qcellk6 => k_is); (case qcellk7 => k_is); (case qcellk8 => ktr_room); (case qcellk9 => first | exact BindsTo.of_eq rfl | exact binds_K (by k_in) rfl (by k_is) rfl rfl rfl); (case qcellc5 => decide); (case qcellkB => exact locs rfl); (case qcellc2 => exact rfl); (case qcellc3 => exact rfl); (case qcellc4 => exact rfl); k_whole; intro g' L' h' FG' F' N' B' X' T'; (try dsimp only); (try k_lift B'); (try k_fold))
  k_with "my testChain" => first | with_reducible refine test_link ?_ | with_reducible refine test_last ?_ | with_unfolding_all refine test_link ?_ | with_unfolding_all refine test_last ?_
  k_with "my SUB" => (intro x hx; first | exact hx | (simp only [List.mem_append, List.mem_cons, hx, true_or, or_true]; done) | (simp only [List.mem_append, List.mem_cons] at hx ⊢; simp_all; done))
  k_with "my PO" => first | assumption | exact Po.mono (by assumption) (by k_extra "my SUB")
  k_with "my CTX" => ((case q9B => k_asm); (case q9F => k_asm); (case q9X => k_asm); (case q9N => k_asm); (case q9T => k_asm); (case q9K => first | assumption | exact rfl); (case q9d => ktr_room); (case q9u => ktr_units))
  k_with "my getAttr ref" => (k_here; (with_reducible show wpAny _ _ (getAttr (Value.ref _) (PySem.Str.ofString "x") _) _ _ _); k_dflt (refine' getx _ ?q9B ?q9F ?q9X ?q9N ?q9T ?q9K ?q9d ?q9u ?q412wp ?_; k_extra "my CTX"; (case q412wp => k_extra "my PO"); k_whole; intro t' h' tk' F' N'; (try k_sweep)))
  k_with "my getAttr ref" => (k_here; (with_reducible show wpAny _ _ (getAttr (Value.ref _) (PySem.Str.ofString "y") _) _ _ _); k_dflt (refine' gety _ ?q9B ?q9F ?q9X ?q9N ?q9T ?q9K ?q9d ?q9u ?q413wp ?_; k_extra "my CTX"; (case q413wp => k_extra "my PO"); k_whole; intro t' h' tk' F' N'; (try k_sweep)))
  k_with "my call ref" => (k_here; (with_reducible show wpAny _ _ (call (Value.ref 364) [_, _, _, _]) _ _ _); k_dflt (refine' k_angle _ ?q9B ?q9F ?q9X ?q9N ?q9T ?q9K ?q9d ?q9u ?q414wp1 ?q414wp2 ?q414wp3 ?q414wb1 ?q414wb2 ?q414wb3 ?_; k_extra "my CTX"; (case q414wp1 => k_extra "my PO"); (case q414wp2 => k_extra "my PO"); (case q414wp3 => k_extra "my PO"); (case q414wb1 => k_extra "my BP"); (case q414wb2 => k_extra "my BP"); (case q414wb3 => k_extra "my BP"); k_whole; intro h' tk' F' N'; (try k_sweep)))
  k_with "my BP" => first | assumption | exact Bp.min (by assumption) (by assumption) | exact Bp.max (by assumption) (by assumption)
  k_with "my call builtin:min" => (k_here; (with_reducible show wpAny _ _ (call (Value.builtin "min") [Value.ref _, Value.ref _]) _ _ _); k_dflt (refine' min2_po ?q416whh ?q416wF ?q416wX ?q416wN ?q416wu ?q416wp1 ?q416wp2 ?_; (case q416whh => exact rfl); (case q416wF => k_asm); (case q416wX => k_asm); (case q416wN => k_asm); (case q416wu => ktr_units); (case q416wp1 => k_extra "my PO"); (case q416wp2 => k_extra "my PO"); k_whole; intro c' h' tk' F' N' P'; (try k_sweep)))
  k_with "my call builtin:max" => (k_here; (with_reducible show wpAny _ _ (call (Value.builtin "max") [Value.ref _, Value.ref _]) _ _ _); k_dflt (refine' max2_po ?q417whh ?q417wF ?q417wX ?q417wN ?q417wu ?q417wp1 ?q417wp2 ?_; (case q417whh => exact rfl); (case q417wF => k_asm); (case q417wX => k_asm); (case q417wN => k_asm); (case q417wu => ktr_units); (case q417wp1 => k_extra "my PO"); (case q417wp2 => k_extra "my PO"); k_whole; intro c' h' tk' F' N' P'; (try k_sweep)))
  k_with "my compareOp Eq ref ref" => (k_here; k_dflt (refine' eq_po ?q418wF ?q418wX ?q418wN ?q418wu ?q418wp1 ?q418wp2 ?_; (case q418wF => k_asm); (case q418wX => k_asm); (case q418wN => k_asm); (case q418wp1 => k_extra "my PO"); (case q418wp2 => k_extra "my PO"); (case q418wu => ktr_units); k_whole))
  k_with "my compareOp NotEq ref ref" => (k_here; k_dflt (refine' ne_po ?q419wF ?q419wX ?q419wN ?q419wu ?q419wp1 ?q419wp2 ?_; (case q419wF => k_asm); (case q419wX => k_asm); (case q419wN => k_asm); (case q419wp1 => k_extra "my PO"); (case q419wp2 => k_extra "my PO"); (case q419wu => ktr_units); k_whole))
  k_with "my compareOp Lt ref ref" => (k_here; k_dflt (refine' lt_po ?q420wF ?q420wX ?q420wN ?q420wu ?q420wp1 ?q420wp2 ?_; (case q420wF => k_asm); (case q420wX => k_asm); (case q420wN => k_asm); (case q420wp1 => k_extra "my PO"); (case q420wp2 => k_extra "my PO"); (case q420wu => ktr_units); k_whole))
  k_with "my compareOp LtE ref ref" => (k_here; k_dflt (refine' le_po ?q421wF ?q421wX ?q421wN ?q421wu ?q421wp1 ?q421wp2 ?_; (case q421wF => k_asm); (case q421wX => k_asm); (case q421wN => k_asm); (case q421wp1 => k_extra "my PO"); (case q421wp2 => k_extra "my PO"); (case q421wu => ktr_units); k_whole))
  k_with "my compareOp Is ref ref" => (k_here; (first | (with_reducible refine' is_ori_col ?q422wF ?q422wX ?_) | (with_reducible refine' is_ori ?q422wF ?q422wX ?_)); (case q422wF => k_asm); (case q422wX => k_asm); k_whole)
  k_with "my SO" => first | assumption | exact So.mono (by assumption) (by k_extra "my SUB")
  k_with "my call builtin:sorted" => (k_here; (with_reducible show wpAny _ _ (call (Value.builtin "sorted") [Value.ref _]) _ _ _); k_dflt (refine' sorted4_led ?q424wF ?q424wX ?q424wN ?q424whm ?q424whc ?q424whd ?q424wh0 ?q424wh1 ?q424wh2 ?q424wh3 ?q424wu ?_; (case q424wF => k_asm); (case q424wX => k_asm); (case q424wN => k_asm); (case q424whm => k_mem); (case q424whc => exact rfl); (case q424whd => exact rfl); (case q424wh0 => k_extra "my PO"); (case q424wh1 => k_extra "my PO"); (case q424wh2 => k_extra "my PO"); (case q424wh3 => k_extra "my PO"); (case q424wu => ktr_units); k_whole; intro D' c' b0' b1' b2' b3' q0' q1' q2' q3' h' F' N' l1 P0' P1' P2' P3' hsrt; (try k_sweep)))
  k_with "my call ref" => (k_here; (with_reducible show wpAny _ _ (call (Value.ref 322) [_, _, _]) _ _ _); k_dflt (refine' k_seg _ ?q9B ?q9F ?q9X ?q9N ?q9T ?q9K ?q9d ?q9u ?q425wp1 ?q425wp2 ?_; k_extra "my CTX"; (case q425wp1 => k_extra "my PO"); (case q425wp2 => k_extra "my PO"); k_whole; intro nw' r' h' tk' F' N' S'; (try k_sweep)))
  k_with "my call ref" => (k_here; (with_reducible show wpAny _ _ (call (Value.ref 329) [_, _]) _ _ _); k_dflt (refine' k_mseg _ ?q9B ?q9F ?q9X ?q9N ?q9T ?q9K ?q9d ?q9u ?_; k_extra "my CTX"; k_whole; intro nw' r' h' tk' F' N' S'; (try k_sweep)))
  k_with "my call ref" => (k_here; (with_reducible show wpAny _ _ (call (Value.ref 336) [_, _]) _ _ _); k_dflt (refine' k_mpt _ ?q9B ?q9F ?q9X ?q9N ?q9T ?q9K ?q9d ?q9u ?_; k_extra "my CTX"; k_whole; intro nw' r' h' tk' F' N' S'; (try k_sweep)))
  k_with "my call ref" => (k_here; (with_reducible show wpAny _ _ (call (Value.ref 378) [_, _, _]) _ _ _); k_dflt (refine' k_inter _ ?q9B ?q9F ?q9X ?q9N ?q9T ?q9K ?q9d ?q9u ?q428wc ?q428ws1 ?q428ws2 ?q428wb1 ?q428wb2 ?q428wb3 ?q428wb4 ?q428whi ?q428wok ?_; k_extra "my CTX"; (case q428wc => k_extra "my CX"); (case q428ws1 => k_extra "my SO"); (case q428ws2 => k_extra "my SO"); (case q428wb1 => k_extra "my BP"); (case q428wb2 => k_extra "my BP"); (case q428wb3 => k_extra "my BP"); (case q428wb4 => k_extra "my BP"); (case q428whi => assumption); (case q428wok => assumption); k_whole; intro nw' r' h' tk' F' N' P'; (try k_sweep)))
  k_with "my CX" => first | assumption | exact Cx.mono (by assumption) (by k_extra "my SUB")
  k_with "my call builtin:min" => (k_here; (with_reducible show wpAny _ _ (call (Value.builtin "min") [Value.ref _, Value.ref _, Value.ref _, Value.ref _]) _ _ _); k_dflt (refine' min4_po ?q430whh ?q430wF ?q430wX ?q430wN ?q430wu ?q430wp1 ?q430wp2 ?q430wp3 ?q430wp4 ?_; (case q430whh => exact rfl); (case q430wF => k_asm); (case q430wX => k_asm); (case q430wN => k_asm); (case q430wu => ktr_units); (case q430wp1 => k_extra "my PO"); (case q430wp2 => k_extra "my PO"); (case q430wp3 => k_extra "my PO"); (case q430wp4 => k_extra "my PO"); k_whole; intro c' h' tk' F' N' P'; (try k_sweep)))
  k_with "my call builtin:max" => (k_here; (with_reducible show wpAny _ _ (call (Value.builtin "max") [Value.ref _, Value.ref _, Value.ref _, Value.ref _]) _ _ _); k_dflt (refine' max4_po ?q431whh ?q431wF ?q431wX ?q431wN ?q431wu ?q431wp1 ?q431wp2 ?q431wp3 ?q431wp4 ?_; (case q431whh => exact rfl); (case q431wF => k_asm); (case q431wX => k_asm); (case q431wN => k_asm); (case q431wu => ktr_units); (case q431wp1 => k_extra "my PO"); (case q431wp2 => k_extra "my PO"); (case q431wp3 => k_extra "my PO"); (case q431wp4 => k_extra "my PO"); k_whole; intro c' h' tk' F' N' P'; (try k_sweep)))
  k_with "my RETRS" => (refine' ret_rs ?q432wF ?q432wN ?q432wS ?_; (case q432wF => k_asm); (case q432wN => k_asm); (case q432wS => k_extra "my SUB"))
  k_with "my compareOp IsNot ref ref" => (k_here; (first | (with_reducible refine' isnot_ori_col ?q433wF ?q433wX ?_) | (with_reducible refine' isnot_ori ?q433wF ?q433wX ?_)); (case q433wF => k_asm); (case q433wX => k_asm); k_whole)
  k_with "my call ref" => (k_here; (with_reducible show wpAny _ _ (call (Value.ref 371) [_, _, _]) _ _ _); k_dflt (refine' k_rel _ ?q9B ?q9F ?q9X ?q9N ?q9T ?q9K ?q9d ?q9u ?q434wc ?q434ws1 ?q434ws2 ?q434wb1 ?q434wb2 ?q434wb3 ?q434wb4 ?_; k_extra "my CTX"; (case q434wc => k_extra "my CX"); (case q434ws1 => k_extra "my SO"); (case q434ws2 => k_extra "my SO"); (case q434wb1 => k_extra "my BP"); (case q434wb2 => k_extra "my BP"); (case q434wb3 => k_extra "my BP"); (case q434wb4 => k_extra "my BP"); k_whole; intro h' tk' F' N'; (try k_sweep)))
  k_with "my call ref" => (k_here; (with_reducible show wpAny _ _ (call (Value.ref 378) [_, _, _]) _ _ _); k_dflt (refine' k_inter _ ?q9B ?q9F ?q9X ?q9N ?q9T ?q9K ?q9d ?q9u ?q435wc ?q435ws1 ?q435ws2 ?q435wb1 ?q435wb2 ?q435wb3 ?q435wb4 ?q435whi ?q435wok ?_; k_extra "my CTX"; (case q435wc => k_extra "my CX"); (case q435ws1 => k_extra "my SO"); (case q435ws2 => k_extra "my SO"); (case q435wb1 => k_extra "my BP"); (case q435wb2 => k_extra "my BP"); (case q435wb3 => k_extra "my BP"); (case q435wb4 => k_extra "my BP"); (case q435whi => assumption); (case q435wok => k_extra "my OK"); k_whole; intro nw' r' h' tk' F' N' P'; (try k_sweep)))
  k_with "my call ref" => (k_here; (with_reducible show wpAny _ _ (call (Value.ref 427) [_, _, _]) _ _ _); k_dflt (refine' k_subo _ ?q9B ?q9F ?q9X ?q9N ?q9T ?q9K ?q9d ?q9u ?q436wc ?q436ws1 ?q436ws2 ?_; k_extra "my CTX"; (case q436wc => k_extra "my CX"); (case q436ws1 => k_extra "my SO"); (case q436ws2 => k_extra "my SO"); k_whole; intro nw' v' h' tk' F' N' R'; (try k_sweep)))
  k_with "my call ref" => (k_here; (with_reducible show wpAny _ _ (call (Value.ref 434) [_, _, _]) _ _ _); k_dflt (refine' k_symo _ ?q9B ?q9F ?q9X ?q9N ?q9T ?q9K ?q9d ?q9u ?q437wc ?q437ws1 ?q437ws2 ?_; k_extra "my CTX"; (case q437wc => k_extra "my CX"); (case q437ws1 => k_extra "my SO"); (case q437ws2 => k_extra "my SO"); k_whole; intro nw' v' h' tk' F' N' R'; (try k_sweep)))
  k_with "my call ref" => (k_here; (with_reducible show wpAny _ _ (call (Value.ref 462) [_, _, _]) _ _ _); k_dflt (refine' k_iovl _ ?q9B ?q9F ?q9X ?q9N ?q9T ?q9K ?q9d ?q9u ?q438wc ?q438ws1 ?q438ws2 ?_; k_extra "my CTX"; (case q438wc => k_extra "my CX"); (case q438ws1 => k_extra "my SO"); (case q438ws2 => k_extra "my SO"); k_whole; intro nw' v' h' tk' F' N' R'; (try k_sweep)))
  k_with "my call ref" => (k_here; (with_reducible show wpAny _ _ (call (Value.ref 420) [_, _, _]) _ _ _); k_dflt (refine' k_subc _ ?q9B ?q9F ?q9X ?q9N ?q9T ?q9K ?q9d ?q9u ?q439wc ?q439ws1 ?q439ws2 ?_; k_extra "my CTX"; (case q439wc => k_extra "my CX"); (case q439ws1 => k_extra "my SO"); (case q439ws2 => k_extra "my SO"); k_whole; intro nw' v' h' tk' F' N' R'; (try k_sweep)))
  k_with "my call ref" => (k_here; (with_reducible show wpAny _ _ (call (Value.ref 448) [_, _, _]) _ _ _); k_dflt (refine' k_unio _ ?q9B ?q9F ?q9X ?q9N ?q9T ?q9K ?q9d ?q9u ?q440wc ?q440ws1 ?q440ws2 ?_; k_extra "my CTX"; (case q440wc => k_extra "my CX"); (case q440ws1 => k_extra "my SO"); (case q440ws2 => k_extra "my SO"); k_whole; intro nw' v' h' tk' F' N' R'; (try k_sweep)))
  k_with "my call ref" => (k_here; (with_reducible show wpAny _ _ (call (Value.ref 441) [_, _, _]) _ _ _); k_dflt (refine' k_unic _ ?q9B ?q9F ?q9X ?q9N ?q9T ?q9K ?q9d ?q9u ?q441wc ?q441ws1 ?q441ws2 ?q441wb1 ?q441wb2 ?q441wb3 ?q441wb4 ?q441whi ?q441wok ?_; k_extra "my CTX"; (case q441wc => k_extra "my CX"); (case q441ws1 => k_extra "my SO"); (case q441ws2 => k_extra "my SO"); (case q441wb1 => k_extra "my BP"); (case q441wb2 => k_extra "my BP"); (case q441wb3 => k_extra "my BP"); (case q441wb4 => k_extra "my BP"); (case q441whi => assumption); (case q441wok => k_extra "my OK"); k_whole; intro nw' v' h' tk' F' N' R'; (try k_sweep)))
  k_with "my call ref" => (k_here; (with_reducible show wpAny _ _ (call (Value.ref 455) [_, _, _]) _ _ _); k_dflt (refine' k_unit _ ?q9B ?q9F ?q9X ?q9N ?q9T ?q9K ?q9d ?q9u ?q442wc ?q442ws1 ?q442ws2 ?q442wb1 ?q442wb2 ?q442wb3 ?q442wb4 ?_; k_extra "my CTX"; (case q442wc => k_extra "my CX"); (case q442ws1 => k_extra "my SO"); (case q442ws2 => k_extra "my SO"); (case q442wb1 => k_extra "my BP"); (case q442wb2 => k_extra "my BP"); (case q442wb3 => k_extra "my BP"); (case q442wb4 => k_extra "my BP"); k_whole; intro nw' v' h' tk' F' N' R'; (try k_sweep)))
  k_with "my OK" => first | assumption | exact RelOk.ok (by assumption) (by first | exact Or.inl (by assumption) | exact Or.inr (by assumption))
  k_with "my compareOp Is ref ref" => (k_here; (first | (with_reducible refine' is_rel_disjoint ?q444wF ?q444wX ?_) | (with_reducible refine' is_rel_touch ?q444wF ?q444wX ?_) | (with_reducible refine' is_rel_cross ?q444wF ?q444wX ?_) | (with_reducible refine' is_rel_overlap ?q444wF ?q444wX ?_) | (with_reducible refine' is_rel_composite ?q444wF ?q444wX ?_) | (with_reducible refine' is_rel_equal ?q444wF ?q444wX ?_) | (with_reducible refine' is_rel_component ?q444wF ?q444wX ?_)); (case q444wF => k_asm); (case q444wX => k_asm); k_whole)
  k_with "my MS" => first | assumption | exact Ms.mono (by assumption) (by k_extra "my SUB")
  k_with "my MP" => first | assumption | exact Mp.mono (by assumption) (by k_extra "my SUB")
  k_with "my exec Assign" => (k_fold)
  k_with "my exec If" => (k_fold)
  k_with "my eval BinOp" => (k_fold)
  k_with "my eval Tuple" => (k_fold)
  k_with "my eval Call" => (k_fold)
  k_with "my eval Call Attribute" => (k_fold)
  k_with "my storeName" => (k_here; k_dflt (refine' storeL ?q453wF ?q453wN ?_ ?q453wa ?q453wb; (case q453wF => k_asm); (case q453wN => k_asm); (case q453wa => rfl); (case q453wb => rfl); k_whole; intro m' h' tk' F' N'; (try k_sweep)))
  k_with "my eval Name" => (k_here; k_dflt (refine' nameL ?q454wF ?q454wv ?_ ?q454wok ?q454whl; (case q454wF => k_asm); (case q454whl => rfl); (case q454wok => rfl); (case q454wv => rfl); k_whole))
  k_with "my eval Attribute Name" => (k_here; k_dflt (refine' attrL ?q455wF ?q455wv ?_ ?q455wok ?q455whl; (case q455wF => k_asm); (case q455whl => rfl); (case q455wok => rfl); (case q455wv => rfl); k_whole))
  k_with "my spliced" => (k_here; k_dflt (first
    | ((with_reducible refine' argLL ?q456wF ?q456wv ?q456wu ?_ ?q456wok ?q456woj ?q456whl); (case q456wF => k_asm); (case q456whl => rfl); (case q456wok => rfl); (case q456woj => rfl); (case q456wv => rfl); (case q456wu => rfl); k_whole)
    | ((with_reducible refine' argL1 ?q456wF ?q456wv ?_ ?q456wok ?q456whl); (case q456wF => k_asm); (case q456whl => rfl); (case q456wok => rfl); (case q456wv => rfl); k_whole)
    | ((with_reducible refine' argL ?q456wF ?q456wv ?_ ?q456wok ?q456whl); (case q456wF => k_asm); (case q456whl => rfl); (case q456wok => rfl); (case q456wv => rfl); k_whole)))
  k_with "my eval Call Attribute" => (k_here; k_dflt (refine' methL ?q457wF ?q457wv ?_ ?q457wok ?q457whl ?q457whe; (case q457wF => k_asm); (case q457whl => rfl); (case q457wok => rfl); (case q457wv => rfl); (case q457whe => rfl); k_whole))
  k_with "my isTrue Compare" => (k_here; k_dflt (first
    | ((with_reducible refine' cmpLL ?q458wF ?q458wv ?q458wu ?_ ?q458wok ?q458woj ?q458whl ?q458whm); (case q458wF => k_asm); (case q458whl => rfl); (case q458wok => rfl); (case q458woj => rfl); (case q458whm => with_unfolding_all rfl); (case q458wv => rfl); (case q458wu => rfl); k_whole)
    | ((with_reducible refine' cmpL ?q458wF ?q458wv ?_ ?q458wok ?q458whl ?q458whm); (case q458wF => k_asm); (case q458whl => rfl); (case q458wok => rfl); (case q458whm => with_unfolding_all rfl); (case q458wv => rfl); k_whole)))
  trivial
theorem k_subtract (w : World) {dp un : Nat} {gd : Option (List Code)} {cn : Str} {cs : Scope} {a : Addr} {ccd : Value} {cl : List (Str × Addr)} {outer : List Env} {A₀ : Around} {base h₀ : Heap} {L : Addr} {m : Str → Option Value}
    {pr : Program} {loose : List Str} {mean : ExcName → Option Value} {mg mb : Str → Option Value} {s : Shared} {Q E : Value → Shared → Prop} {news : List (Addr × Obj)} {cx s1 s2 : Addr} {P1 P2 P3 P4 : Pt}
    (B : Below A₀ base outer h₀) (F : Fr h₀ L s.heap m) (X : (Mine.k0.heap_1_39 w.params).In h₀) (N : News h₀ L s.heap news) (T : Top pr loose mean mg mb h₀) (hcs : cs.kind = .function) (hd : dp + 130 < recursionLimit) (hu : un + 400 < cLine)
    (hc : Cx news cx) (h1 : So news s1 P1 P2) (h2 : So news s2 P3 P4) (b1 : Bp P1) (b2 : Bp P2) (b3 : Bp P3) (b4 : Bp P4)
    (hret : ∀ (nw : List (Addr × Obj)) (v : Value) (h' : Heap) (tk' : Nat), Fr h₀ L h' m → News h₀ L h' (nw ++ news) → RsP (nw ++ news) v (subtractF P1 P2 P3 P4) → Q v { s with heap := h', toks := tk' }) :
    wpAny (model PySem.Challenge.rw_ix0019_01.prog w) (ktrTop dp un gd cn cs L a ccd cl outer) (call (.ref 399) [.ref s1, .ref s2, .ref cx]) Q E s := by
  revert X
  k_fill
  intro X
  have H1 := h1
  have H2 := h2
  have Hc := hc
  refine Cx.elim hc ?_; clear hc; intro dc kc mc1 mc2
  refine So.elim h1 ?_; clear h1; intro d1 e1 t1 p1 e2 t2 p2 k1 m1 m2 x1 x2
  refine So.elim h2 ?_; clear h2; intro d2 e3 t3 p3 e4 t4 p4 k2 m3 m4 x3 x4
  refine wpAny_call ?_
  k_dflt cell_enter
  k_steps
  all_goals refine (fun z : ∃ nw, Fr h₀ L _ m ∧ News h₀ L _ (nw ++ news) ∧ RsP (nw ++ news) _ _ => z.elim fun nw z => hret nw _ _ _ z.1 z.2.1 z.2.2) ?_
  all_goals walk_at "RETRS"
  all_goals unfold subtractF
  all_goals cases hr : rel P1 P2 P3 P4
  all_goals first
    | exact absurd hr (by assumption)
    | exact absurd (hr.symm.trans (by assumption : rel P1 P2 P3 P4 = Rel.disjoint)) (by decide)
    | exact absurd (hr.symm.trans (by assumption : rel P1 P2 P3 P4 = Rel.touch)) (by decide)
    | exact absurd (hr.symm.trans (by assumption : rel P1 P2 P3 P4 = Rel.cross)) (by decide)
    | exact absurd (hr.symm.trans (by assumption : rel P1 P2 P3 P4 = Rel.overlap)) (by decide)
    | exact absurd (hr.symm.trans (by assumption : rel P1 P2 P3 P4 = Rel.composite)) (by decide)
    | exact absurd (hr.symm.trans (by assumption : rel P1 P2 P3 P4 = Rel.equal)) (by decide)
    | exact absurd (hr.symm.trans (by assumption : rel P1 P2 P3 P4 = Rel.component)) (by decide)
    | skip
  all_goals dsimp only
  all_goals first
    | exact rfl
    | assumption
    | exact RsP.mono (by assumption) (by walk_at "SUB")
    | exact ⟨_, rfl, by walk_at "SO"⟩
    | exact ⟨_, _, _, _, rfl, by walk_at "MP", by k_mem, by walk_at "PO"⟩
    | exact ⟨_, _, _, _, _, rfl, by walk_at "MS", by k_mem, by walk_at "SO", by walk_at "SO"⟩
    | trace_state
end
section
open PySem PySem.W PyProof.Rows PySem.Calls PySem.Spec
set_option Elab.async false
set_option maxRecDepth 100000
set_option maxHeartbeats 8000000
theorem set_W24 : True := by
  k_with_none
  k_with "my MEM" => first | ktr_member | with_reducible exact List.mem_cons_self | (with_reducible refine' List.mem_cons_of_mem _ ?_; k_extra "my MEM") | (with_reducible refine' List.mem_append_right _ ?_; k_extra "my MEM") | (with_reducible refine' List.mem_append_left _ ?_; k_extra "my MEM")
  k_with "my CELL" => (refine' code_def ?qcellk1 ?qcellk2 ?qcellk3 ?qcellk4 ?qcellk5 ?qcellkA ?qcellkF ?qcellkK ?qcellk6 ?qcellk7 ?qcellk8 ?qcellk9 ?qcellkB ?_ ?qcellc2 ?qcellc3 ?qcellc4 ?qcellc5; (case qcellkA => exact rfl); (case qcellkF => exact rfl); (case qcellkK => first | assumption | exact rfl); (case qcellk1 => k_asm); (case qcellk2 => k_asm); (case qcellk3 => k_asm); (case qcellk4 => k_asm); (case qcellk5 => k_asm); (case qcellk6 => k_is); (case qcellk7 => k_is); (case qcellk8 => ktr_room); (case qcellk9 => first | exact BindsTo.of_eq rfl | exact binds_K (by k_in) rfl (by k_is) rfl rfl rfl); (case qcellc5 => decide); (case qcellkB => exact locs rfl); (case qcellc2 => exact rfl); (case qcellc3 => exact rfl); (case qcellc4 => exact rfl); k_whole; intro g' L' h' FG' F' N' B' X' T'; (try dsimp only); (try k_lift B'); (try k_fold))
  k_with "my testChain" => first | with_reducible refine test_link ?_ | with_reducible refine test_last ?_ | with_unfolding_all refine test_link ?_ | with_unfolding_all refine test_last ?_
  k_with "my SUB" => (intro x hx; first | exact hx | (simp only [List.mem_append, List.mem_cons, hx, true_or, or_true]; done) | (simp only [List.mem_append, List.mem_cons] at hx ⊢; simp_all; done))
  k_with "my PO" => first | assumption | exact Po.mono (by assumption) (by k_extra "my SUB")
  k_with "my CTX" => ((case q9B => k_asm); (case q9F => k_asm); (case q9X => k_asm); (case q9N => k_asm); (case q9T => k_asm); (case q9K => first | assumption | exact rfl); (case q9d => ktr_room); (case q9u => ktr_units))
  k_with "my getAttr ref" => (k_here; (with_reducible show wpAny _ _ (getAttr (Value.ref _) (PySem.Str.ofString "x") _) _ _ _); k_dflt (refine' getx _ ?q9B ?q9F ?q9X ?q9N ?q9T ?q9K ?q9d ?q9u ?q463wp ?_; k_extra "my CTX"; (case q463wp => k_extra "my PO"); k_whole; intro t' h' tk' F' N'; (try k_sweep)))
  k_with "my getAttr ref" => (k_here; (with_reducible show wpAny _ _ (getAttr (Value.ref _) (PySem.Str.ofString "y") _) _ _ _); k_dflt (refine' gety _ ?q9B ?q9F ?q9X ?q9N ?q9T ?q9K ?q9d ?q9u ?q464wp ?_; k_extra "my CTX"; (case q464wp => k_extra "my PO"); k_whole; intro t' h' tk' F' N'; (try k_sweep)))
  k_with "my call ref" => (k_here; (with_reducible show wpAny _ _ (call (Value.ref 364) [_, _, _, _]) _ _ _); k_dflt (refine' k_angle _ ?q9B ?q9F ?q9X ?q9N ?q9T ?q9K ?q9d ?q9u ?q465wp1 ?q465wp2 ?q465wp3 ?q465wb1 ?q465wb2 ?q465wb3 ?_; k_extra "my CTX"; (case q465wp1 => k_extra "my PO"); (case q465wp2 => k_extra "my PO"); (case q465wp3 => k_extra "my PO"); (case q465wb1 => k_extra "my BP"); (case q465wb2 => k_extra "my BP"); (case q465wb3 => k_extra "my BP"); k_whole; intro h' tk' F' N'; (try k_sweep)))
  k_with "my BP" => first | assumption | exact Bp.min (by assumption) (by assumption) | exact Bp.max (by assumption) (by assumption)
  k_with "my call builtin:min" => (k_here; (with_reducible show wpAny _ _ (call (Value.builtin "min") [Value.ref _, Value.ref _]) _ _ _); k_dflt (refine' min2_po ?q467whh ?q467wF ?q467wX ?q467wN ?q467wu ?q467wp1 ?q467wp2 ?_; (case q467whh => exact rfl); (case q467wF => k_asm); (case q467wX => k_asm); (case q467wN => k_asm); (case q467wu => ktr_units); (case q467wp1 => k_extra "my PO"); (case q467wp2 => k_extra "my PO"); k_whole; intro c' h' tk' F' N' P'; (try k_sweep)))
  k_with "my call builtin:max" => (k_here; (with_reducible show wpAny _ _ (call (Value.builtin "max") [Value.ref _, Value.ref _]) _ _ _); k_dflt (refine' max2_po ?q468whh ?q468wF ?q468wX ?q468wN ?q468wu ?q468wp1 ?q468wp2 ?_; (case q468whh => exact rfl); (case q468wF => k_asm); (case q468wX => k_asm); (case q468wN => k_asm); (case q468wu => ktr_units); (case q468wp1 => k_extra "my PO"); (case q468wp2 => k_extra "my PO"); k_whole; intro c' h' tk' F' N' P'; (try k_sweep)))
  k_with "my compareOp Eq ref ref" => (k_here; k_dflt (refine' eq_po ?q469wF ?q469wX ?q469wN ?q469wu ?q469wp1 ?q469wp2 ?_; (case q469wF => k_asm); (case q469wX => k_asm); (case q469wN => k_asm); (case q469wp1 => k_extra "my PO"); (case q469wp2 => k_extra "my PO"); (case q469wu => ktr_units); k_whole))
  k_with "my compareOp NotEq ref ref" => (k_here; k_dflt (refine' ne_po ?q470wF ?q470wX ?q470wN ?q470wu ?q470wp1 ?q470wp2 ?_; (case q470wF => k_asm); (case q470wX => k_asm); (case q470wN => k_asm); (case q470wp1 => k_extra "my PO"); (case q470wp2 => k_extra "my PO"); (case q470wu => ktr_units); k_whole))
  k_with "my compareOp Lt ref ref" => (k_here; k_dflt (refine' lt_po ?q471wF ?q471wX ?q471wN ?q471wu ?q471wp1 ?q471wp2 ?_; (case q471wF => k_asm); (case q471wX => k_asm); (case q471wN => k_asm); (case q471wp1 => k_extra "my PO"); (case q471wp2 => k_extra "my PO"); (case q471wu => ktr_units); k_whole))
  k_with "my compareOp LtE ref ref" => (k_here; k_dflt (refine' le_po ?q472wF ?q472wX ?q472wN ?q472wu ?q472wp1 ?q472wp2 ?_; (case q472wF => k_asm); (case q472wX => k_asm); (case q472wN => k_asm); (case q472wp1 => k_extra "my PO"); (case q472wp2 => k_extra "my PO"); (case q472wu => ktr_units); k_whole))
  k_with "my compareOp Is ref ref" => (k_here; (first | (with_reducible refine' is_ori_col ?q473wF ?q473wX ?_) | (with_reducible refine' is_ori ?q473wF ?q473wX ?_)); (case q473wF => k_asm); (case q473wX => k_asm); k_whole)
  k_with "my SO" => first | assumption | exact So.mono (by assumption) (by k_extra "my SUB")
  k_with "my call builtin:sorted" => (k_here; (with_reducible show wpAny _ _ (call (Value.builtin "sorted") [Value.ref _]) _ _ _); k_dflt (refine' sorted4_led ?q475wF ?q475wX ?q475wN ?q475whm ?q475whc ?q475whd ?q475wh0 ?q475wh1 ?q475wh2 ?q475wh3 ?q475wu ?_; (case q475wF => k_asm); (case q475wX => k_asm); (case q475wN => k_asm); (case q475whm => k_mem); (case q475whc => exact rfl); (case q475whd => exact rfl); (case q475wh0 => k_extra "my PO"); (case q475wh1 => k_extra "my PO"); (case q475wh2 => k_extra "my PO"); (case q475wh3 => k_extra "my PO"); (case q475wu => ktr_units); k_whole; intro D' c' b0' b1' b2' b3' q0' q1' q2' q3' h' F' N' l1 P0' P1' P2' P3' hsrt; (try k_sweep)))
  k_with "my call ref" => (k_here; (with_reducible show wpAny _ _ (call (Value.ref 322) [_, _, _]) _ _ _); k_dflt (refine' k_seg _ ?q9B ?q9F ?q9X ?q9N ?q9T ?q9K ?q9d ?q9u ?q476wp1 ?q476wp2 ?_; k_extra "my CTX"; (case q476wp1 => k_extra "my PO"); (case q476wp2 => k_extra "my PO"); k_whole; intro nw' r' h' tk' F' N' S'; (try k_sweep)))
  k_with "my call ref" => (k_here; (with_reducible show wpAny _ _ (call (Value.ref 329) [_, _]) _ _ _); k_dflt (refine' k_mseg _ ?q9B ?q9F ?q9X ?q9N ?q9T ?q9K ?q9d ?q9u ?_; k_extra "my CTX"; k_whole; intro nw' r' h' tk' F' N' S'; (try k_sweep)))
  k_with "my call ref" => (k_here; (with_reducible show wpAny _ _ (call (Value.ref 336) [_, _]) _ _ _); k_dflt (refine' k_mpt _ ?q9B ?q9F ?q9X ?q9N ?q9T ?q9K ?q9d ?q9u ?_; k_extra "my CTX"; k_whole; intro nw' r' h' tk' F' N' S'; (try k_sweep)))
  k_with "my call ref" => (k_here; (with_reducible show wpAny _ _ (call (Value.ref 378) [_, _, _]) _ _ _); k_dflt (refine' k_inter _ ?q9B ?q9F ?q9X ?q9N ?q9T ?q9K ?q9d ?q9u ?q479wc ?q479ws1 ?q479ws2 ?q479wb1 ?q479wb2 ?q479wb3 ?q479wb4 ?q479whi ?q479wok ?_; k_extra "my CTX"; (case q479wc => k_extra "my CX"); (case q479ws1 => k_extra "my SO"); (case q479ws2 => k_extra "my SO"); (case q479wb1 => k_extra "my BP"); (case q479wb2 => k_extra "my BP"); (case q479wb3 => k_extra "my BP"); (case q479wb4 => k_extra "my BP"); (case q479whi => assumption); (case q479wok => assumption); k_whole; intro nw' r' h' tk' F' N' P'; (try k_sweep)))
  k_with "my CX" => first | assumption | exact Cx.mono (by assumption) (by k_extra "my SUB")
  k_with "my call builtin:min" => (k_here; (with_reducible show wpAny _ _ (call (Value.builtin "min") [Value.ref _, Value.ref _, Value.ref _, Value.ref _]) _ _ _); k_dflt (refine' min4_po ?q481whh ?q481wF ?q481wX ?q481wN ?q481wu ?q481wp1 ?q481wp2 ?q481wp3 ?q481wp4 ?_; (case q481whh => exact rfl); (case q481wF => k_asm); (case q481wX => k_asm); (case q481wN => k_asm); (case q481wu => ktr_units); (case q481wp1 => k_extra "my PO"); (case q481wp2 => k_extra "my PO"); (case q481wp3 => k_extra "my PO"); (case q481wp4 => k_extra "my PO"); k_whole; intro c' h' tk' F' N' P'; (try k_sweep)))
  k_with "my call builtin:max" => (k_here; (with_reducible show wpAny _ _ (call (Value.builtin "max") [Value.ref _, Value.ref _, Value.ref _, Value.ref _]) _ _ _); k_dflt (refine' max4_po ?q482whh ?q482wF ?q482wX ?q482wN ?q482wu ?q482wp1 ?q482wp2 ?q482wp3 ?q482wp4 ?_; (case q482whh => exact rfl); (case q482wF => k_asm); (case q482wX => k_asm); (case q482wN => k_asm); (case q482wu => ktr_units); (case q482wp1 => k_extra "my PO"); (case q482wp2 => k_extra "my PO"); (case q482wp3 => k_extra "my PO"); (case q482wp4 => k_extra "my PO"); k_whole; intro c' h' tk' F' N' P'; (try k_sweep)))
  k_with "my RETRS" => (refine' ret_rs ?q483wF ?q483wN ?q483wS ?_; (case q483wF => k_asm); (case q483wN => k_asm); (case q483wS => k_extra "my SUB"))
  k_with "my compareOp IsNot ref ref" => (k_here; (first | (with_reducible refine' isnot_ori_col ?q484wF ?q484wX ?_) | (with_reducible refine' isnot_ori ?q484wF ?q484wX ?_)); (case q484wF => k_asm); (case q484wX => k_asm); k_whole)
  k_with "my call ref" => (k_here; (with_reducible show wpAny _ _ (call (Value.ref 371) [_, _, _]) _ _ _); k_dflt (refine' k_rel _ ?q9B ?q9F ?q9X ?q9N ?q9T ?q9K ?q9d ?q9u ?q485wc ?q485ws1 ?q485ws2 ?q485wb1 ?q485wb2 ?q485wb3 ?q485wb4 ?_; k_extra "my CTX"; (case q485wc => k_extra "my CX"); (case q485ws1 => k_extra "my SO"); (case q485ws2 => k_extra "my SO"); (case q485wb1 => k_extra "my BP"); (case q485wb2 => k_extra "my BP"); (case q485wb3 => k_extra "my BP"); (case q485wb4 => k_extra "my BP"); k_whole; intro h' tk' F' N'; (try k_sweep)))
  k_with "my call ref" => (k_here; (with_reducible show wpAny _ _ (call (Value.ref 378) [_, _, _]) _ _ _); k_dflt (refine' k_inter _ ?q9B ?q9F ?q9X ?q9N ?q9T ?q9K ?q9d ?q9u ?q486wc ?q486ws1 ?q486ws2 ?q486wb1 ?q486wb2 ?q486wb3 ?q486wb4 ?q486whi ?q486wok ?_; k_extra "my CTX"; (case q486wc => k_extra "my CX"); (case q486ws1 => k_extra "my SO"); (case q486ws2 => k_extra "my SO"); (case q486wb1 => k_extra "my BP"); (case q486wb2 => k_extra "my BP"); (case q486wb3 => k_extra "my BP"); (case q486wb4 => k_extra "my BP"); (case q486whi => assumption); (case q486wok => k_extra "my OK"); k_whole; intro nw' r' h' tk' F' N' P'; (try k_sweep)))
  k_with "my call ref" => (k_here; (with_reducible show wpAny _ _ (call (Value.ref 427) [_, _, _]) _ _ _); k_dflt (refine' k_subo _ ?q9B ?q9F ?q9X ?q9N ?q9T ?q9K ?q9d ?q9u ?q487wc ?q487ws1 ?q487ws2 ?_; k_extra "my CTX"; (case q487wc => k_extra "my CX"); (case q487ws1 => k_extra "my SO"); (case q487ws2 => k_extra "my SO"); k_whole; intro nw' v' h' tk' F' N' R'; (try k_sweep)))
  k_with "my call ref" => (k_here; (with_reducible show wpAny _ _ (call (Value.ref 434) [_, _, _]) _ _ _); k_dflt (refine' k_symo _ ?q9B ?q9F ?q9X ?q9N ?q9T ?q9K ?q9d ?q9u ?q488wc ?q488ws1 ?q488ws2 ?_; k_extra "my CTX"; (case q488wc => k_extra "my CX"); (case q488ws1 => k_extra "my SO"); (case q488ws2 => k_extra "my SO"); k_whole; intro nw' v' h' tk' F' N' R'; (try k_sweep)))
  k_with "my call ref" => (k_here; (with_reducible show wpAny _ _ (call (Value.ref 462) [_, _, _]) _ _ _); k_dflt (refine' k_iovl _ ?q9B ?q9F ?q9X ?q9N ?q9T ?q9K ?q9d ?q9u ?q489wc ?q489ws1 ?q489ws2 ?_; k_extra "my CTX"; (case q489wc => k_extra "my CX"); (case q489ws1 => k_extra "my SO"); (case q489ws2 => k_extra "my SO"); k_whole; intro nw' v' h' tk' F' N' R'; (try k_sweep)))
  k_with "my call ref" => (k_here; (with_reducible show wpAny _ _ (call (Value.ref 420) [_, _, _]) _ _ _); k_dflt (refine' k_subc _ ?q9B ?q9F ?q9X ?q9N ?q9T ?q9K ?q9d ?q9u ?q490wc ?q490ws1 ?q490ws2 ?_; k_extra "my CTX"; (case q490wc => k_extra "my CX"); (case q490ws1 => k_extra "my SO"); (case q490ws2 => k_extra "my SO"); k_whole; intro nw' v' h' tk' F' N' R'; (try k_sweep)))
  k_with "my call ref" => (k_here; (with_reducible show wpAny _ _ (call (Value.ref 448) [_, _, _]) _ _ _); k_dflt (refine' k_unio _ ?q9B ?q9F ?q9X ?q9N ?q9T ?q9K ?q9d ?q9u ?q491wc ?q491ws1 ?q491ws2 ?_; k_extra "my CTX"; (case q491wc => k_extra "my CX"); (case q491ws1 => k_extra "my SO"); (case q491ws2 => k_extra "my SO"); k_whole; intro nw' v' h' tk' F' N' R'; (try k_sweep)))
  k_with "my call ref" => (k_here; (with_reducible show wpAny _ _ (call (Value.ref 441) [_, _, _]) _ _ _); k_dflt (refine' k_unic _ ?q9B ?q9F ?q9X ?q9N ?q9T ?q9K ?q9d ?q9u ?q492wc ?q492ws1 ?q492ws2 ?q492wb1 ?q492wb2 ?q492wb3 ?q492wb4 ?q492whi ?q492wok ?_; k_extra "my CTX"; (case q492wc => k_extra "my CX"); (case q492ws1 => k_extra "my SO"); (case q492ws2 => k_extra "my SO"); (case q492wb1 => k_extra "my BP"); (case q492wb2 => k_extra "my BP"); (case q492wb3 => k_extra "my BP"); (case q492wb4 => k_extra "my BP"); (case q492whi => assumption); (case q492wok => k_extra "my OK"); k_whole; intro nw' v' h' tk' F' N' R'; (try k_sweep)))
  k_with "my call ref" => (k_here; (with_reducible show wpAny _ _ (call (Value.ref 455) [_, _, _]) _ _ _); k_dflt (refine' k_unit _ ?q9B ?q9F ?q9X ?q9N ?q9T ?q9K ?q9d ?q9u ?q493wc ?q493ws1 ?q493ws2 ?q493wb1 ?q493wb2 ?q493wb3 ?q493wb4 ?_; k_extra "my CTX"; (case q493wc => k_extra "my CX"); (case q493ws1 => k_extra "my SO"); (case q493ws2 => k_extra "my SO"); (case q493wb1 => k_extra "my BP"); (case q493wb2 => k_extra "my BP"); (case q493wb3 => k_extra "my BP"); (case q493wb4 => k_extra "my BP"); k_whole; intro nw' v' h' tk' F' N' R'; (try k_sweep)))
  k_with "my OK" => first | assumption | exact RelOk.ok (by assumption) (by first | exact Or.inl (by assumption) | exact Or.inr (by assumption))
  k_with "my compareOp Is ref ref" => (k_here; (first | (with_reducible refine' is_rel_disjoint ?q495wF ?q495wX ?_) | (with_reducible refine' is_rel_touch ?q495wF ?q495wX ?_) | (with_reducible refine' is_rel_cross ?q495wF ?q495wX ?_) | (with_reducible refine' is_rel_overlap ?q495wF ?q495wX ?_) | (with_reducible refine' is_rel_composite ?q495wF ?q495wX ?_) | (with_reducible refine' is_rel_equal ?q495wF ?q495wX ?_) | (with_reducible refine' is_rel_component ?q495wF ?q495wX ?_)); (case q495wF => k_asm); (case q495wX => k_asm); k_whole)
  k_with "my MS" => first | assumption | exact Ms.mono (by assumption) (by k_extra "my SUB")
  k_with "my MP" => first | assumption | exact Mp.mono (by assumption) (by k_extra "my SUB")
  k_with "my exec Assign" => (k_fold)
  k_with "my exec If" => (k_fold)
  k_with "my eval BinOp" => (k_fold)
  k_with "my eval Tuple" => (k_fold)
  k_with "my eval Call" => (k_fold)
  k_with "my eval Call Attribute" => (k_fold)
  k_with "my storeName" => (k_here; k_dflt (refine' storeL ?q504wF ?q504wN ?_ ?q504wa ?q504wb; (case q504wF => k_asm); (case q504wN => k_asm); (case q504wa => rfl); (case q504wb => rfl); k_whole; intro m' h' tk' F' N'; (try k_sweep)))
  k_with "my eval Name" => (k_here; k_dflt (refine' nameL ?q505wF ?q505wv ?_ ?q505wok ?q505whl; (case q505wF => k_asm); (case q505whl => rfl); (case q505wok => rfl); (case q505wv => rfl); k_whole))
  k_with "my eval Attribute Name" => (k_here; k_dflt (refine' attrL ?q506wF ?q506wv ?_ ?q506wok ?q506whl; (case q506wF => k_asm); (case q506whl => rfl); (case q506wok => rfl); (case q506wv => rfl); k_whole))
  k_with "my spliced" => (k_here; k_dflt (first
    | ((with_reducible refine' argLL ?q507wF ?q507wv ?q507wu ?_ ?q507wok ?q507woj ?q507whl); (case q507wF => k_asm); (case q507whl => rfl); (case q507wok => rfl); (case q507woj => rfl); (case q507wv => rfl); (case q507wu => rfl); k_whole)
    | ((with_reducible refine' argL1 ?q507wF ?q507wv ?_ ?q507wok ?q507whl); (case q507wF => k_asm); (case q507whl => rfl); (case q507wok => rfl); (case q507wv => rfl); k_whole)
    | ((with_reducible refine' argL ?q507wF ?q507wv ?_ ?q507wok ?q507whl); (case q507wF => k_asm); (case q507whl => rfl); (case q507wok => rfl); (case q507wv => rfl); k_whole)))
  k_with "my eval Call Attribute" => (k_here; k_dflt (refine' methL ?q508wF ?q508wv ?_ ?q508wok ?q508whl ?q508whe; (case q508wF => k_asm); (case q508whl => rfl); (case q508wok => rfl); (case q508wv => rfl); (case q508whe => rfl); k_whole))
  k_with "my isTrue Compare" => (k_here; k_dflt (first
    | ((with_reducible refine' cmpLL ?q509wF ?q509wv ?q509wu ?_ ?q509wok ?q509woj ?q509whl ?q509whm); (case q509wF => k_asm); (case q509whl => rfl); (case q509wok => rfl); (case q509woj => rfl); (case q509whm => with_unfolding_all rfl); (case q509wv => rfl); (case q509wu => rfl); k_whole)
    | ((with_reducible refine' cmpL ?q509wF ?q509wv ?_ ?q509wok ?q509whl ?q509whm); (case q509wF => k_asm); (case q509whl => rfl); (case q509wok => rfl); (case q509whm => with_unfolding_all rfl); (case q509wv => rfl); k_whole)))
  trivial
theorem k_symm (w : World) {dp un : Nat} {gd : Option (List Code)} {cn : Str} {cs : Scope} {a : Addr} {ccd : Value} {cl : List (Str × Addr)} {outer : List Env} {A₀ : Around} {base h₀ : Heap} {L : Addr} {m : Str → Option Value}
    {pr : Program} {loose : List Str} {mean : ExcName → Option Value} {mg mb : Str → Option Value} {s : Shared} {Q E : Value → Shared → Prop} {news : List (Addr × Obj)} {cx s1 s2 : Addr} {P1 P2 P3 P4 : Pt}
    (B : Below A₀ base outer h₀) (F : Fr h₀ L s.heap m) (X : (Mine.k0.heap_1_39 w.params).In h₀) (N : News h₀ L s.heap news) (T : Top pr loose mean mg mb h₀) (hcs : cs.kind = .function) (hd : dp + 130 < recursionLimit) (hu : un + 500 < cLine)
    (hc : Cx news cx) (h1 : So news s1 P1 P2) (h2 : So news s2 P3 P4) (b1 : Bp P1) (b2 : Bp P2) (b3 : Bp P3) (b4 : Bp P4) (hi : importsNone pr = true) (ok : RelOk P1 P2 P3 P4)
    (hret : ∀ (nw : List (Addr × Obj)) (v : Value) (h' : Heap) (tk' : Nat), Fr h₀ L h' m → News h₀ L h' (nw ++ news) → RsP (nw ++ news) v (symmF P1 P2 P3 P4) → Q v { s with heap := h', toks := tk' }) :
    wpAny (model PySem.Challenge.rw_ix0019_01.prog w) (ktrTop dp un gd cn cs L a ccd cl outer) (call (.ref 406) [.ref s1, .ref s2, .ref cx]) Q E s := by
  revert X
  k_fill
  intro X
  have H1 := h1
  have H2 := h2
  have Hc := hc
  refine Cx.elim hc ?_; clear hc; intro dc kc mc1 mc2
  refine So.elim h1 ?_; clear h1; intro d1 e1 t1 p1 e2 t2 p2 k1 m1 m2 x1 x2
  refine So.elim h2 ?_; clear h2; intro d2 e3 t3 p3 e4 t4 p4 k2 m3 m4 x3 x4
  refine wpAny_call ?_
  k_dflt cell_enter
  k_steps
  all_goals refine (fun z : ∃ nw, Fr h₀ L _ m ∧ News h₀ L _ (nw ++ news) ∧ RsP (nw ++ news) _ _ => z.elim fun nw z => hret nw _ _ _ z.1 z.2.1 z.2.2) ?_
  all_goals walk_at "RETRS"
  all_goals unfold symmF
  all_goals cases hr : rel P1 P2 P3 P4
  all_goals first
    | exact absurd hr (by assumption)
    | exact absurd (hr.symm.trans (by assumption : rel P1 P2 P3 P4 = Rel.disjoint)) (by decide)
    | exact absurd (hr.symm.trans (by assumption : rel P1 P2 P3 P4 = Rel.touch)) (by decide)
    | exact absurd (hr.symm.trans (by assumption : rel P1 P2 P3 P4 = Rel.cross)) (by decide)
    | exact absurd (hr.symm.trans (by assumption : rel P1 P2 P3 P4 = Rel.overlap)) (by decide)
    | exact absurd (hr.symm.trans (by assumption : rel P1 P2 P3 P4 = Rel.composite)) (by decide)
    | exact absurd (hr.symm.trans (by assumption : rel P1 P2 P3 P4 = Rel.equal)) (by decide)
    | exact absurd (hr.symm.trans (by assumption : rel P1 P2 P3 P4 = Rel.component)) (by decide)
    | skip
  all_goals dsimp only
  all_goals first
    | exact rfl
    | assumption
    | exact RsP.mono (by assumption) (by walk_at "SUB")
    | exact ⟨_, rfl, by walk_at "SO"⟩
    | exact ⟨_, _, _, _, rfl, by walk_at "MP", by k_mem, by walk_at "PO"⟩
    | exact ⟨_, _, _, _, _, rfl, by walk_at "MS", by k_mem, by walk_at "SO", by walk_at "SO"⟩
    | trace_state
end
section
open PySem PySem.W PyProof.Rows PySem.Calls PySem.Spec
set_option Elab.async false
set_option maxRecDepth 100000
set_option maxHeartbeats 8000000
theorem set_W25 : True := by
  k_with_none
  k_with "my MEM" => first | ktr_member | with_reducible exact List.mem_cons_self | (with_reducible refine' List.mem_cons_of_mem _ ?_; k_extra "my MEM") | (with_reducible refine' List.mem_append_right _ ?_; k_extra "my MEM") | (with_reducible refine' List.mem_append_left _ ?_; k_extra "my MEM")
  k_with "my CELL" => (refine' code_def ?qcellk1 ?qcellk2 ?qcellk3 ?qcellk4 ?qcellk5 ?qcellkA ?qcellkF ?qcellkK ?qcellk6 ?qcellk7 ?qcellk8 ?qcellk9 ?qcellkB ?_ ?qcellc2 ?qcellc3 ?qcellc4 ?qcellc5; (case qcellkA => exact rfl); (case qcellkF => exact rfl); (case qcellkK => first | assumption | exact rfl); (case qcellk1 => k_asm); (case qcellk2 => k_asm); (case qcellk3 => k_asm); (case qcellk4 => k_asm); (case qcellk5 => k_asm); (case qcellk6 => k_is); (case qcellk7 => k_is); (case qcellk8 => ktr_room); (case qcellk9 => first | exact BindsTo.of_eq rfl | exact binds_K (by k_in) rfl (by k_is) rfl rfl rfl); (case qcellc5 => decide); (case qcellkB => exact locs rfl); (case qcellc2 => exact rfl); (case qcellc3 => exact rfl); (case qcellc4 => exact rfl); k_whole; intro g' L' h' FG' F' N' B' X' T'; (try dsimp only); (try k_lift B'); (try k_fold))
  k_with "my testChain" => first | with_reducible refine test_link ?_ | with_reducible refine test_last ?_ | with_unfolding_all refine test_link ?_ | with_unfolding_all refine test_last ?_
  k_with "my SUB" => (intro x hx; first | exact hx | (simp only [List.mem_append, List.mem_cons, hx, true_or, or_true]; done) | (simp only [List.mem_append, List.mem_cons] at hx ⊢; simp_all; done))
  k_with "my PO" => first | assumption | exact Po.mono (by assumption) (by k_extra "my SUB")
  k_with "my CTX" => ((case q9B => k_asm); (case q9F => k_asm); (case q9X => k_asm); (case q9N => k_asm); (case q9T => k_asm); (case q9K => first | assumption | exact rfl); (case q9d => ktr_room); (case q9u => ktr_units))
  k_with "my getAttr ref" => (k_here; (with_reducible show wpAny _ _ (getAttr (Value.ref _) (PySem.Str.ofString "x") _) _ _ _); k_dflt (refine' getx _ ?q9B ?q9F ?q9X ?q9N ?q9T ?q9K ?q9d ?q9u ?q514wp ?_; k_extra "my CTX"; (case q514wp => k_extra "my PO"); k_whole; intro t' h' tk' F' N'; (try k_sweep)))
  k_with "my getAttr ref" => (k_here; (with_reducible show wpAny _ _ (getAttr (Value.ref _) (PySem.Str.ofString "y") _) _ _ _); k_dflt (refine' gety _ ?q9B ?q9F ?q9X ?q9N ?q9T ?q9K ?q9d ?q9u ?q515wp ?_; k_extra "my CTX"; (case q515wp => k_extra "my PO"); k_whole; intro t' h' tk' F' N'; (try k_sweep)))
  k_with "my call ref" => (k_here; (with_reducible show wpAny _ _ (call (Value.ref 364) [_, _, _, _]) _ _ _); k_dflt (refine' k_angle _ ?q9B ?q9F ?q9X ?q9N ?q9T ?q9K ?q9d ?q9u ?q516wp1 ?q516wp2 ?q516wp3 ?q516wb1 ?q516wb2 ?q516wb3 ?_; k_extra "my CTX"; (case q516wp1 => k_extra "my PO"); (case q516wp2 => k_extra "my PO"); (case q516wp3 => k_extra "my PO"); (case q516wb1 => k_extra "my BP"); (case q516wb2 => k_extra "my BP"); (case q516wb3 => k_extra "my BP"); k_whole; intro h' tk' F' N'; (try k_sweep)))
  k_with "my BP" => first | assumption | exact Bp.min (by assumption) (by assumption) | exact Bp.max (by assumption) (by assumption)
  k_with "my call builtin:min" => (k_here; (with_reducible show wpAny _ _ (call (Value.builtin "min") [Value.ref _, Value.ref _]) _ _ _); k_dflt (refine' min2_po ?q518whh ?q518wF ?q518wX ?q518wN ?q518wu ?q518wp1 ?q518wp2 ?_; (case q518whh => exact rfl); (case q518wF => k_asm); (case q518wX => k_asm); (case q518wN => k_asm); (case q518wu => ktr_units); (case q518wp1 => k_extra "my PO"); (case q518wp2 => k_extra "my PO"); k_whole; intro c' h' tk' F' N' P'; (try k_sweep)))
  k_with "my call builtin:max" => (k_here; (with_reducible show wpAny _ _ (call (Value.builtin "max") [Value.ref _, Value.ref _]) _ _ _); k_dflt (refine' max2_po ?q519whh ?q519wF ?q519wX ?q519wN ?q519wu ?q519wp1 ?q519wp2 ?_; (case q519whh => exact rfl); (case q519wF => k_asm); (case q519wX => k_asm); (case q519wN => k_asm); (case q519wu => ktr_units); (case q519wp1 => k_extra "my PO"); (case q519wp2 => k_extra "my PO"); k_whole; intro c' h' tk' F' N' P'; (try k_sweep)))
  k_with "my compareOp Eq ref ref" => (k_here; k_dflt (refine' eq_po ?q520wF ?q520wX ?q520wN ?q520wu ?q520wp1 ?q520wp2 ?_; (case q520wF => k_asm); (case q520wX => k_asm); (case q520wN => k_asm); (case q520wp1 => k_extra "my PO"); (case q520wp2 => k_extra "my PO"); (case q520wu => ktr_units); k_whole))
  k_with "my compareOp NotEq ref ref" => (k_here; k_dflt (refine' ne_po ?q521wF ?q521wX ?q521wN ?q521wu ?q521wp1 ?q521wp2 ?_; (case q521wF => k_asm); (case q521wX => k_asm); (case q521wN => k_asm); (case q521wp1 => k_extra "my PO"); (case q521wp2 => k_extra "my PO"); (case q521wu => ktr_units); k_whole))
  k_with "my compareOp Lt ref ref" => (k_here; k_dflt (refine' lt_po ?q522wF ?q522wX ?q522wN ?q522wu ?q522wp1 ?q522wp2 ?_; (case q522wF => k_asm); (case q522wX => k_asm); (case q522wN => k_asm); (case q522wp1 => k_extra "my PO"); (case q522wp2 => k_extra "my PO"); (case q522wu => ktr_units); k_whole))
  k_with "my compareOp LtE ref ref" => (k_here; k_dflt (refine' le_po ?q523wF ?q523wX ?q523wN ?q523wu ?q523wp1 ?q523wp2 ?_; (case q523wF => k_asm); (case q523wX => k_asm); (case q523wN => k_asm); (case q523wp1 => k_extra "my PO"); (case q523wp2 => k_extra "my PO"); (case q523wu => ktr_units); k_whole))
  k_with "my compareOp Is ref ref" => (k_here; (first | (with_reducible refine' is_ori_col ?q524wF ?q524wX ?_) | (with_reducible refine' is_ori ?q524wF ?q524wX ?_)); (case q524wF => k_asm); (case q524wX => k_asm); k_whole)
  k_with "my SO" => first | assumption | exact So.mono (by assumption) (by k_extra "my SUB")
  k_with "my call builtin:sorted" => (k_here; (with_reducible show wpAny _ _ (call (Value.builtin "sorted") [Value.ref _]) _ _ _); k_dflt (refine' sorted4_led ?q526wF ?q526wX ?q526wN ?q526whm ?q526whc ?q526whd ?q526wh0 ?q526wh1 ?q526wh2 ?q526wh3 ?q526wu ?_; (case q526wF => k_asm); (case q526wX => k_asm); (case q526wN => k_asm); (case q526whm => k_mem); (case q526whc => exact rfl); (case q526whd => exact rfl); (case q526wh0 => k_extra "my PO"); (case q526wh1 => k_extra "my PO"); (case q526wh2 => k_extra "my PO"); (case q526wh3 => k_extra "my PO"); (case q526wu => ktr_units); k_whole; intro D' c' b0' b1' b2' b3' q0' q1' q2' q3' h' F' N' l1 P0' P1' P2' P3' hsrt; (try k_sweep)))
  k_with "my call ref" => (k_here; (with_reducible show wpAny _ _ (call (Value.ref 322) [_, _, _]) _ _ _); k_dflt (refine' k_seg _ ?q9B ?q9F ?q9X ?q9N ?q9T ?q9K ?q9d ?q9u ?q527wp1 ?q527wp2 ?_; k_extra "my CTX"; (case q527wp1 => k_extra "my PO"); (case q527wp2 => k_extra "my PO"); k_whole; intro nw' r' h' tk' F' N' S'; (try k_sweep)))
  k_with "my call ref" => (k_here; (with_reducible show wpAny _ _ (call (Value.ref 329) [_, _]) _ _ _); k_dflt (refine' k_mseg _ ?q9B ?q9F ?q9X ?q9N ?q9T ?q9K ?q9d ?q9u ?_; k_extra "my CTX"; k_whole; intro nw' r' h' tk' F' N' S'; (try k_sweep)))
  k_with "my call ref" => (k_here; (with_reducible show wpAny _ _ (call (Value.ref 336) [_, _]) _ _ _); k_dflt (refine' k_mpt _ ?q9B ?q9F ?q9X ?q9N ?q9T ?q9K ?q9d ?q9u ?_; k_extra "my CTX"; k_whole; intro nw' r' h' tk' F' N' S'; (try k_sweep)))
  k_with "my call ref" => (k_here; (with_reducible show wpAny _ _ (call (Value.ref 378) [_, _, _]) _ _ _); k_dflt (refine' k_inter _ ?q9B ?q9F ?q9X ?q9N ?q9T ?q9K ?q9d ?q9u ?q530wc ?q530ws1 ?q530ws2 ?q530wb1 ?q530wb2 ?q530wb3 ?q530wb4 ?q530whi ?q530wok ?_; k_extra "my CTX"; (case q530wc => k_extra "my CX"); (case q530ws1 => k_extra "my SO"); (case q530ws2 => k_extra "my SO"); (case q530wb1 => k_extra "my BP"); (case q530wb2 => k_extra "my BP"); (case q530wb3 => k_extra "my BP"); (case q530wb4 => k_extra "my BP"); (case q530whi => assumption); (case q530wok => assumption); k_whole; intro nw' r' h' tk' F' N' P'; (try k_sweep)))
  k_with "my CX" => first | assumption | exact Cx.mono (by assumption) (by k_extra "my SUB")
  k_with "my call builtin:min" => (k_here; (with_reducible show wpAny _ _ (call (Value.builtin "min") [Value.ref _, Value.ref _, Value.ref _, Value.ref _]) _ _ _); k_dflt (refine' min4_po ?q532whh ?q532wF ?q532wX ?q532wN ?q532wu ?q532wp1 ?q532wp2 ?q532wp3 ?q532wp4 ?_; (case q532whh => exact rfl); (case q532wF => k_asm); (case q532wX => k_asm); (case q532wN => k_asm); (case q532wu => ktr_units); (case q532wp1 => k_extra "my PO"); (case q532wp2 => k_extra "my PO"); (case q532wp3 => k_extra "my PO"); (case q532wp4 => k_extra "my PO"); k_whole; intro c' h' tk' F' N' P'; (try k_sweep)))
  k_with "my call builtin:max" => (k_here; (with_reducible show wpAny _ _ (call (Value.builtin "max") [Value.ref _, Value.ref _, Value.ref _, Value.ref _]) _ _ _); k_dflt (refine' max4_po ?q533whh ?q533wF ?q533wX ?q533wN ?q533wu ?q533wp1 ?q533wp2 ?q533wp3 ?q533wp4 ?_; (case q533whh => exact rfl); (case q533wF => k_asm); (case q533wX => k_asm); (case q533wN => k_asm); (case q533wu => ktr_units); (case q533wp1 => k_extra "my PO"); (case q533wp2 => k_extra "my PO"); (case q533wp3 => k_extra "my PO"); (case q533wp4 => k_extra "my PO"); k_whole; intro c' h' tk' F' N' P'; (try k_sweep)))
  k_with "my RETRS" => (refine' ret_rs ?q534wF ?q534wN ?q534wS ?_; (case q534wF => k_asm); (case q534wN => k_asm); (case q534wS => k_extra "my SUB"))
  k_with "my compareOp IsNot ref ref" => (k_here; (first | (with_reducible refine' isnot_ori_col ?q535wF ?q535wX ?_) | (with_reducible refine' isnot_ori ?q535wF ?q535wX ?_)); (case q535wF => k_asm); (case q535wX => k_asm); k_whole)
  k_with "my call ref" => (k_here; (with_reducible show wpAny _ _ (call (Value.ref 371) [_, _, _]) _ _ _); k_dflt (refine' k_rel _ ?q9B ?q9F ?q9X ?q9N ?q9T ?q9K ?q9d ?q9u ?q536wc ?q536ws1 ?q536ws2 ?q536wb1 ?q536wb2 ?q536wb3 ?q536wb4 ?_; k_extra "my CTX"; (case q536wc => k_extra "my CX"); (case q536ws1 => k_extra "my SO"); (case q536ws2 => k_extra "my SO"); (case q536wb1 => k_extra "my BP"); (case q536wb2 => k_extra "my BP"); (case q536wb3 => k_extra "my BP"); (case q536wb4 => k_extra "my BP"); k_whole; intro h' tk' F' N'; (try k_sweep)))
  k_with "my call ref" => (k_here; (with_reducible show wpAny _ _ (call (Value.ref 378) [_, _, _]) _ _ _); k_dflt (refine' k_inter _ ?q9B ?q9F ?q9X ?q9N ?q9T ?q9K ?q9d ?q9u ?q537wc ?q537ws1 ?q537ws2 ?q537wb1 ?q537wb2 ?q537wb3 ?q537wb4 ?q537whi ?q537wok ?_; k_extra "my CTX"; (case q537wc => k_extra "my CX"); (case q537ws1 => k_extra "my SO"); (case q537ws2 => k_extra "my SO"); (case q537wb1 => k_extra "my BP"); (case q537wb2 => k_extra "my BP"); (case q537wb3 => k_extra "my BP"); (case q537wb4 => k_extra "my BP"); (case q537whi => assumption); (case q537wok => k_extra "my OK"); k_whole; intro nw' r' h' tk' F' N' P'; (try k_sweep)))
  k_with "my call ref" => (k_here; (with_reducible show wpAny _ _ (call (Value.ref 427) [_, _, _]) _ _ _); k_dflt (refine' k_subo _ ?q9B ?q9F ?q9X ?q9N ?q9T ?q9K ?q9d ?q9u ?q538wc ?q538ws1 ?q538ws2 ?_; k_extra "my CTX"; (case q538wc => k_extra "my CX"); (case q538ws1 => k_extra "my SO"); (case q538ws2 => k_extra "my SO"); k_whole; intro nw' v' h' tk' F' N' R'; (try k_sweep)))
  k_with "my call ref" => (k_here; (with_reducible show wpAny _ _ (call (Value.ref 434) [_, _, _]) _ _ _); k_dflt (refine' k_symo _ ?q9B ?q9F ?q9X ?q9N ?q9T ?q9K ?q9d ?q9u ?q539wc ?q539ws1 ?q539ws2 ?_; k_extra "my CTX"; (case q539wc => k_extra "my CX"); (case q539ws1 => k_extra "my SO"); (case q539ws2 => k_extra "my SO"); k_whole; intro nw' v' h' tk' F' N' R'; (try k_sweep)))
  k_with "my call ref" => (k_here; (with_reducible show wpAny _ _ (call (Value.ref 462) [_, _, _]) _ _ _); k_dflt (refine' k_iovl _ ?q9B ?q9F ?q9X ?q9N ?q9T ?q9K ?q9d ?q9u ?q540wc ?q540ws1 ?q540ws2 ?_; k_extra "my CTX"; (case q540wc => k_extra "my CX"); (case q540ws1 => k_extra "my SO"); (case q540ws2 => k_extra "my SO"); k_whole; intro nw' v' h' tk' F' N' R'; (try k_sweep)))
  k_with "my call ref" => (k_here; (with_reducible show wpAny _ _ (call (Value.ref 420) [_, _, _]) _ _ _); k_dflt (refine' k_subc _ ?q9B ?q9F ?q9X ?q9N ?q9T ?q9K ?q9d ?q9u ?q541wc ?q541ws1 ?q541ws2 ?_; k_extra "my CTX"; (case q541wc => k_extra "my CX"); (case q541ws1 => k_extra "my SO"); (case q541ws2 => k_extra "my SO"); k_whole; intro nw' v' h' tk' F' N' R'; (try k_sweep)))
  k_with "my call ref" => (k_here; (with_reducible show wpAny _ _ (call (Value.ref 448) [_, _, _]) _ _ _); k_dflt (refine' k_unio _ ?q9B ?q9F ?q9X ?q9N ?q9T ?q9K ?q9d ?q9u ?q542wc ?q542ws1 ?q542ws2 ?_; k_extra "my CTX"; (case q542wc => k_extra "my CX"); (case q542ws1 => k_extra "my SO"); (case q542ws2 => k_extra "my SO"); k_whole; intro nw' v' h' tk' F' N' R'; (try k_sweep)))
  k_with "my call ref" => (k_here; (with_reducible show wpAny _ _ (call (Value.ref 441) [_, _, _]) _ _ _); k_dflt (refine' k_unic _ ?q9B ?q9F ?q9X ?q9N ?q9T ?q9K ?q9d ?q9u ?q543wc ?q543ws1 ?q543ws2 ?q543wb1 ?q543wb2 ?q543wb3 ?q543wb4 ?q543whi ?q543wok ?_; k_extra "my CTX"; (case q543wc => k_extra "my CX"); (case q543ws1 => k_extra "my SO"); (case q543ws2 => k_extra "my SO"); (case q543wb1 => k_extra "my BP"); (case q543wb2 => k_extra "my BP"); (case q543wb3 => k_extra "my BP"); (case q543wb4 => k_extra "my BP"); (case q543whi => assumption); (case q543wok => k_extra "my OK"); k_whole; intro nw' v' h' tk' F' N' R'; (try k_sweep)))
  k_with "my call ref" => (k_here; (with_reducible show wpAny _ _ (call (Value.ref 455) [_, _, _]) _ _ _); k_dflt (refine' k_unit _ ?q9B ?q9F ?q9X ?q9N ?q9T ?q9K ?q9d ?q9u ?q544wc ?q544ws1 ?q544ws2 ?q544wb1 ?q544wb2 ?q544wb3 ?q544wb4 ?_; k_extra "my CTX"; (case q544wc => k_extra "my CX"); (case q544ws1 => k_extra "my SO"); (case q544ws2 => k_extra "my SO"); (case q544wb1 => k_extra "my BP"); (case q544wb2 => k_extra "my BP"); (case q544wb3 => k_extra "my BP"); (case q544wb4 => k_extra "my BP"); k_whole; intro nw' v' h' tk' F' N' R'; (try k_sweep)))
  k_with "my OK" => first | assumption | exact RelOk.ok (by assumption) (by first | exact Or.inl (by assumption) | exact Or.inr (by assumption))
  k_with "my compareOp Is ref ref" => (k_here; (first | (with_reducible refine' is_rel_disjoint ?q546wF ?q546wX ?_) | (with_reducible refine' is_rel_touch ?q546wF ?q546wX ?_) | (with_reducible refine' is_rel_cross ?q546wF ?q546wX ?_) | (with_reducible refine' is_rel_overlap ?q546wF ?q546wX ?_) | (with_reducible refine' is_rel_composite ?q546wF ?q546wX ?_) | (with_reducible refine' is_rel_equal ?q546wF ?q546wX ?_) | (with_reducible refine' is_rel_component ?q546wF ?q546wX ?_)); (case q546wF => k_asm); (case q546wX => k_asm); k_whole)
  k_with "my MS" => first | assumption | exact Ms.mono (by assumption) (by k_extra "my SUB")
  k_with "my MP" => first | assumption | exact Mp.mono (by assumption) (by k_extra "my SUB")
  k_with "my exec Assign" => (k_fold)
  k_with "my exec If" => (k_fold)
  k_with "my eval BinOp" => (k_fold)
  k_with "my eval Tuple" => (k_fold)
  k_with "my eval Call" => (k_fold)
  k_with "my eval Call Attribute" => (k_fold)
  k_with "my storeName" => (k_here; k_dflt (refine' storeL ?q555wF ?q555wN ?_ ?q555wa ?q555wb; (case q555wF => k_asm); (case q555wN => k_asm); (case q555wa => rfl); (case q555wb => rfl); k_whole; intro m' h' tk' F' N'; (try k_sweep)))
  k_with "my eval Name" => (k_here; k_dflt (refine' nameL ?q556wF ?q556wv ?_ ?q556wok ?q556whl; (case q556wF => k_asm); (case q556whl => rfl); (case q556wok => rfl); (case q556wv => rfl); k_whole))
  k_with "my eval Attribute Name" => (k_here; k_dflt (refine' attrL ?q557wF ?q557wv ?_ ?q557wok ?q557whl; (case q557wF => k_asm); (case q557whl => rfl); (case q557wok => rfl); (case q557wv => rfl); k_whole))
  k_with "my spliced" => (k_here; k_dflt (first
    | ((with_reducible refine' argLL ?q558wF ?q558wv ?q558wu ?_ ?q558wok ?q558woj ?q558whl); (case q558wF => k_asm); (case q558whl => rfl); (case q558wok => rfl); (case q558woj => rfl); (case q558wv => rfl); (case q558wu => rfl); k_whole)
    | ((with_reducible refine' argL1 ?q558wF ?q558wv ?_ ?q558wok ?q558whl); (case q558wF => k_asm); (case q558whl => rfl); (case q558wok => rfl); (case q558wv => rfl); k_whole)
    | ((with_reducible refine' argL ?q558wF ?q558wv ?_ ?q558wok ?q558whl); (case q558wF => k_asm); (case q558whl => rfl); (case q558wok => rfl); (case q558wv => rfl); k_whole)))
  k_with "my eval Call Attribute" => (k_here; k_dflt (refine' methL ?q559wF ?q559wv ?_ ?q559wok ?q559whl ?q559whe; (case q559wF => k_asm); (case q559whl => rfl); (case q559wok => rfl); (case q559wv => rfl); (case q559whe => rfl); k_whole))
  k_with "my isTrue Compare" => (k_here; k_dflt (first
    | ((with_reducible refine' cmpLL ?q560wF ?q560wv ?q560wu ?_ ?q560wok ?q560woj ?q560whl ?q560whm); (case q560wF => k_asm); (case q560whl => rfl); (case q560wok => rfl); (case q560woj => rfl); (case q560whm => with_unfolding_all rfl); (case q560wv => rfl); (case q560wu => rfl); k_whole)
    | ((with_reducible refine' cmpL ?q560wF ?q560wv ?_ ?q560wok ?q560whl ?q560whm); (case q560wF => k_asm); (case q560whl => rfl); (case q560wok => rfl); (case q560whm => with_unfolding_all rfl); (case q560wv => rfl); k_whole)))
  trivial
theorem k_unite (w : World) {dp un : Nat} {gd : Option (List Code)} {cn : Str} {cs : Scope} {a : Addr} {ccd : Value} {cl : List (Str × Addr)} {outer : List Env} {A₀ : Around} {base h₀ : Heap} {L : Addr} {m : Str → Option Value}
    {pr : Program} {loose : List Str} {mean : ExcName → Option Value} {mg mb : Str → Option Value} {s : Shared} {Q E : Value → Shared → Prop} {news : List (Addr × Obj)} {cx s1 s2 : Addr} {P1 P2 P3 P4 : Pt}
    (B : Below A₀ base outer h₀) (F : Fr h₀ L s.heap m) (X : (Mine.k0.heap_1_39 w.params).In h₀) (N : News h₀ L s.heap news) (T : Top pr loose mean mg mb h₀) (hcs : cs.kind = .function) (hd : dp + 130 < recursionLimit) (hu : un + 500 < cLine)
    (hc : Cx news cx) (h1 : So news s1 P1 P2) (h2 : So news s2 P3 P4) (b1 : Bp P1) (b2 : Bp P2) (b3 : Bp P3) (b4 : Bp P4) (hi : importsNone pr = true) (ok : RelOk P1 P2 P3 P4)
    (hret : ∀ (nw : List (Addr × Obj)) (v : Value) (h' : Heap) (tk' : Nat), Fr h₀ L h' m → News h₀ L h' (nw ++ news) → RsP (nw ++ news) v (uniteF P1 P2 P3 P4) → Q v { s with heap := h', toks := tk' }) :
    wpAny (model PySem.Challenge.rw_ix0019_01.prog w) (ktrTop dp un gd cn cs L a ccd cl outer) (call (.ref 413) [.ref s1, .ref s2, .ref cx]) Q E s := by
  revert X
  k_fill
  intro X
  have H1 := h1
  have H2 := h2
  have Hc := hc
  refine Cx.elim hc ?_; clear hc; intro dc kc mc1 mc2
  refine So.elim h1 ?_; clear h1; intro d1 e1 t1 p1 e2 t2 p2 k1 m1 m2 x1 x2
  refine So.elim h2 ?_; clear h2; intro d2 e3 t3 p3 e4 t4 p4 k2 m3 m4 x3 x4
  refine wpAny_call ?_
  k_dflt cell_enter
  k_steps
  all_goals refine (fun z : ∃ nw, Fr h₀ L _ m ∧ News h₀ L _ (nw ++ news) ∧ RsP (nw ++ news) _ _ => z.elim fun nw z => hret nw _ _ _ z.1 z.2.1 z.2.2) ?_
  all_goals walk_at "RETRS"
  all_goals unfold uniteF
  all_goals cases hr : rel P1 P2 P3 P4
  all_goals first
    | exact absurd hr (by assumption)
    | exact absurd (hr.symm.trans (by assumption : rel P1 P2 P3 P4 = Rel.disjoint)) (by decide)
    | exact absurd (hr.symm.trans (by assumption : rel P1 P2 P3 P4 = Rel.touch)) (by decide)
    | exact absurd (hr.symm.trans (by assumption : rel P1 P2 P3 P4 = Rel.cross)) (by decide)
    | exact absurd (hr.symm.trans (by assumption : rel P1 P2 P3 P4 = Rel.overlap)) (by decide)
    | exact absurd (hr.symm.trans (by assumption : rel P1 P2 P3 P4 = Rel.composite)) (by decide)
    | exact absurd (hr.symm.trans (by assumption : rel P1 P2 P3 P4 = Rel.equal)) (by decide)
    | exact absurd (hr.symm.trans (by assumption : rel P1 P2 P3 P4 = Rel.component)) (by decide)
    | skip
  all_goals dsimp only
  all_goals first
    | exact rfl
    | assumption
    | exact RsP.mono (by assumption) (by walk_at "SUB")
    | exact ⟨_, rfl, by walk_at "SO"⟩
    | exact ⟨_, _, _, _, rfl, by walk_at "MP", by k_mem, by walk_at "PO"⟩
    | exact ⟨_, _, _, _, _, rfl, by walk_at "MS", by k_mem, by walk_at "SO", by walk_at "SO"⟩
    | trace_state
end
section
open PySem PySem.W PyProof.Rows PySem.Calls PySem.Spec Builtin
set_option Elab.async false
set_option maxRecDepth 100000
set_option maxHeartbeats 4000000
def PnSel (a b c : Addr) (p q r : Pt) : Prop := ∀ n, Pn n a p → Pn n b q → Pn n c r
theorem PnSel.get {n : List (Addr × Obj)} {a b c : Addr} {p q r : Pt} (s : PnSel a b c p q r) (x : Pn n a p) (y : Pn n b q) : Pn n c r := s n x y
section
variable {prog : Program} {w : World}
theorem call_min_it {A : Around} {E Q : Value → Shared → Prop} {s : Shared} {ls : List Value} {bt : Nat → Nat → Bool} {v₁ v₂ : Value} {rest : List Value} {a : Addr} (hl : ls = v₁ :: v₂ :: rest) (hT : s.heap.IsTuple a ls.toArray) (hh : A.handled = none)
    (hc : ∀ i j, i < ls.length → j < ls.length → ∀ (s' : Shared) (Q E : Value → Shared → Prop), s.heap.StaysIn s'.heap → Q (.bool (bt i j)) s' → wpAny (model prog w) A.in1 (richCompare .Lt (ls.getD i .none) (ls.getD j .none)) Q E s')
    (h : ∀ h' tk, s.heap.StaysIn h' → Q (ls.getD (argBest bt (ls.length - 1)) .none) { s with heap := h', toks := tk }) :
    wpAny (model prog w) A (call (.builtin "min") [.ref a]) Q E s := by
  have hname : (toString "min" ++ toString ".loop" : String) = "min.loop" := by decide
  have hlt : a < s.heap.objs.size := by obtain ⟨o, e, _⟩ := hT; exact Heap.lt_size e
  refine call_function_tree F.kind_min F.plain_min F.entry_min (F.args_min1 _) ?_
  subst hl
  show wpAny _ A.in1 (Builtin.Builtins.bindParams "min" ["key", "default"] 0 ⟨[], []⟩ >>= _) _ _ s
  refine wpAny_bind (wpAny_of_eq (show Builtin.Builtins.bindParams "min" ["key", "default"] 0 ⟨[], []⟩ = pure [none, none] from rfl) ?_)
  refine wpAny_bind (wpAny_pure ?_)
  refine wpAny_bind (wpAny_pyIter_tuple hT ?_)
  refine wpAny_bind (wpAny_newObj_type ?_)
  rw [hname]
  have hsz : (s.heap.push { cls := .type "tuple_iterator", data := .fields #[.ref a, .int 0 0] }).objs.size = s.heap.objs.size + 1 := Heap.size_push ..
  have hW := Walks.tuple (prog := prog) (w := w) (A := A.in1) hh s.heap.objs.size a (Nat.ne_of_lt hlt) (v₁ :: v₂ :: rest).toArray
  have hn : 0 < (v₁ :: v₂ :: rest).toArray.size := by simp
  refine wpAny_pure ⟨plainId_quiet F.plain_min_loop _, best_min_first (base := s.heap) (vs := fun i => (v₁ :: v₂ :: rest).getD i .none) (bt := bt) hW (fun i v e => by simp only [List.getElem?_toArray] at e; simp [List.getD, e])
    (fun i j hi hj => hc i j (by simpa using hi) (by simpa using hj)) ?_ (Heap.get?_none_of_le ?_) (fun b hb => Heap.get?_none_of_le ?_) hn ⟨⟨_, Heap.get?_push_of_some _ (Heap.get?_push_size _ rfl), rfl, rfl⟩, (hT.push _).push _⟩
    (fun b o e => Heap.get?_push_of_some _ (Heap.get?_push_of_some _ e)) (Heap.get?_push_size _ rfl) fun h' tk hk => h h' tk hk⟩
  · rw [hsz]
    intro hm
    rcases List.mem_cons.mp hm with e | hm
    · exact absurd e (Nat.ne_of_gt (Nat.lt_succ_self _))
    · have e := List.mem_singleton.mp hm
      exact absurd e (Nat.ne_of_gt (Nat.lt_succ_of_lt hlt))
  · rw [hsz]; exact Nat.le_succ _
  · obtain rfl := List.mem_singleton.mp hb
    exact Nat.le_refl _
theorem call_max_it {A : Around} {E Q : Value → Shared → Prop} {s : Shared} {ls : List Value} {bt : Nat → Nat → Bool} {v₁ v₂ : Value} {rest : List Value} {a : Addr} (hl : ls = v₁ :: v₂ :: rest) (hT : s.heap.IsTuple a ls.toArray) (hh : A.handled = none)
    (hc : ∀ i j, i < ls.length → j < ls.length → ∀ (s' : Shared) (Q E : Value → Shared → Prop), s.heap.StaysIn s'.heap → Q (.bool (bt i j)) s' → wpAny (model prog w) A.in1 (richCompare .Gt (ls.getD i .none) (ls.getD j .none)) Q E s')
    (h : ∀ h' tk, s.heap.StaysIn h' → Q (ls.getD (argBest bt (ls.length - 1)) .none) { s with heap := h', toks := tk }) :
    wpAny (model prog w) A (call (.builtin "max") [.ref a]) Q E s := by
  have hname : (toString "max" ++ toString ".loop" : String) = "max.loop" := by decide
  have hlt : a < s.heap.objs.size := by obtain ⟨o, e, _⟩ := hT; exact Heap.lt_size e
  refine call_function_tree F.kind_max F.plain_max F.entry_max (F.args_max1 _) ?_
  subst hl
  show wpAny _ A.in1 (Builtin.Builtins.bindParams "max" ["key", "default"] 0 ⟨[], []⟩ >>= _) _ _ s
  refine wpAny_bind (wpAny_of_eq (show Builtin.Builtins.bindParams "max" ["key", "default"] 0 ⟨[], []⟩ = pure [none, none] from rfl) ?_)
  refine wpAny_bind (wpAny_pure ?_)
  refine wpAny_bind (wpAny_pyIter_tuple hT ?_)
  refine wpAny_bind (wpAny_newObj_type ?_)
  rw [hname]
  have hsz : (s.heap.push { cls := .type "tuple_iterator", data := .fields #[.ref a, .int 0 0] }).objs.size = s.heap.objs.size + 1 := Heap.size_push ..
  have hW := Walks.tuple (prog := prog) (w := w) (A := A.in1) hh s.heap.objs.size a (Nat.ne_of_lt hlt) (v₁ :: v₂ :: rest).toArray
  have hn : 0 < (v₁ :: v₂ :: rest).toArray.size := by simp
  refine wpAny_pure ⟨plainId_quiet F.plain_max_loop _, best_max_first (base := s.heap) (vs := fun i => (v₁ :: v₂ :: rest).getD i .none) (bt := bt) hW (fun i v e => by simp only [List.getElem?_toArray] at e; simp [List.getD, e])
    (fun i j hi hj => hc i j (by simpa using hi) (by simpa using hj)) ?_ (Heap.get?_none_of_le ?_) (fun b hb => Heap.get?_none_of_le ?_) hn ⟨⟨_, Heap.get?_push_of_some _ (Heap.get?_push_size _ rfl), rfl, rfl⟩, (hT.push _).push _⟩
    (fun b o e => Heap.get?_push_of_some _ (Heap.get?_push_of_some _ e)) (Heap.get?_push_size _ rfl) fun h' tk hk => h h' tk hk⟩
  · rw [hsz]
    intro hm
    rcases List.mem_cons.mp hm with e | hm
    · exact absurd e (Nat.ne_of_gt (Nat.lt_succ_self _))
    · have e := List.mem_singleton.mp hm
      exact absurd e (Nat.ne_of_gt (Nat.lt_succ_of_lt hlt))
  · rw [hsz]; exact Nat.le_succ _
  · obtain rfl := List.mem_singleton.mp hb
    exact Nat.le_refl _
end
section
variable {prog : Program} {w : World} {A : Around} {E Q : Value → Shared → Prop} {s : Shared} {h₀ : Heap} {L : Addr} {m : Str → Option Value} {news : List (Addr × Obj)} {a b l : Addr} {o : Obj} {n : Nat} {p q : Pt}
theorem min_it_pn (hh : A.handled = none) (F : Fr h₀ L s.heap m) (N : News h₀ L s.heap news) (hu : A.units + 8 < cLine) (hm : (l, o) ∈ news) (hc : o.cls = .type "tuple") (hd : o.data = .seq #[.ref a, .ref b] n) (x : Pn news a p) (y : Pn news b q)
    (h : ∀ c h' tk, Fr h₀ L h' m → News h₀ L h' news → PnSel a b c p q (minP p q) → Q (.ref c) { s with heap := h', toks := tk }) : wpAny (model prog w) A (call (.builtin "min") [.ref l]) Q E s := by
  refine call_min_it (ls := [.ref a, .ref b]) (bt := fun i j => ltP ([p, q].getD i p) ([p, q].getD j p)) rfl ⟨o, (N _ hm).1, hc, n, hd⟩ hh (fun i j hi hj s' Q' E' st hq => ?_) fun h' tk st => ?_
  · have N' := N.grown st
    have pick : ∀ {i : Nat}, i < 2 → ∃ c, ([.ref a, .ref b] : List Value).getD i .none = .ref c ∧ Pn news c ([p, q].getD i p) := fun {i} hi => get2 (fun (v : Value) (p : Pt) => ∃ c, v = .ref c ∧ Pn news c p) ⟨_, rfl, x⟩ ⟨_, rfl, y⟩ (lt2 hi)
    obtain ⟨c, ec, xc⟩ := pick hi
    obtain ⟨d, ed, xd⟩ := pick hj
    rw [ec, ed]
    exact pt_lt (k := 0) (tupCls_tuple _ _) (xc.pt N') (xd.pt N') A.in1 E' Q' s' rfl (by rw [units_one]; omega) hq
  · have hl : ([.ref a, .ref b] : List Value).length - 1 = 1 := rfl
    rw [hl]
    by_cases hq : ltP q p = true
    · have e : argBest (fun i j => ltP ([p, q].getD i p) ([p, q].getD j p)) 1 = 1 := by simp [argBest, hq]
      rw [e]
      exact h b h' tk (F.grownK st) (N.grown st) (by unfold minP; rw [if_pos hq]; exact fun _ _ y => y)
    · have e : argBest (fun i j => ltP ([p, q].getD i p) ([p, q].getD j p)) 1 = 0 := by simp [argBest, hq]
      rw [e]
      exact h a h' tk (F.grownK st) (N.grown st) (by unfold minP; rw [if_neg hq]; exact fun _ x _ => x)
theorem min2_pn (hh : A.handled = none) (F : Fr h₀ L s.heap m) (N : News h₀ L s.heap news) (hu : A.units + 8 < cLine) (x : Pn news a p) (y : Pn news b q)
    (h : ∀ c h' tk, Fr h₀ L h' m → News h₀ L h' news → Pn news c (minP p q) → Q (.ref c) { s with heap := h', toks := tk }) : wpAny (model prog w) A (call (.builtin "min") [.ref a, .ref b]) Q E s := by
  refine call_min_of (bt := fun i j => ltP ([p, q].getD i p) ([p, q].getD j p)) rfl (by simp) (args_min2 _ _) hh (fun i j hi hj s' Q' E' st hq => ?_) fun h' tk st => ?_
  · have N' := N.grown st
    have pick : ∀ {i : Nat}, i < 2 → ∃ c, ([.ref a, .ref b] : List Value).getD i .none = .ref c ∧ Pn news c ([p, q].getD i p) := fun {i} hi => get2 (fun (v : Value) (p : Pt) => ∃ c, v = .ref c ∧ Pn news c p) ⟨_, rfl, x⟩ ⟨_, rfl, y⟩ (lt2 hi)
    obtain ⟨c, ec, xc⟩ := pick hi
    obtain ⟨d, ed, xd⟩ := pick hj
    rw [ec, ed]
    exact pt_lt (k := 0) (tupCls_tuple _ _) (xc.pt N') (xd.pt N') A.in1 E' Q' s' rfl (by rw [units_one]; omega) hq
  · have hl : ([.ref a, .ref b] : List Value).length - 1 = 1 := rfl
    rw [hl]
    by_cases hq : ltP q p = true
    · have e : argBest (fun i j => ltP ([p, q].getD i p) ([p, q].getD j p)) 1 = 1 := by simp [argBest, hq]
      rw [e]
      exact h b h' tk (F.grownK st) (N.grown st) (by unfold minP; rw [if_pos hq]; exact y)
    · have e : argBest (fun i j => ltP ([p, q].getD i p) ([p, q].getD j p)) 1 = 0 := by simp [argBest, hq]
      rw [e]
      exact h a h' tk (F.grownK st) (N.grown st) (by unfold minP; rw [if_neg hq]; exact x)
theorem max_it_pn (hh : A.handled = none) (F : Fr h₀ L s.heap m) (N : News h₀ L s.heap news) (hu : A.units + 8 < cLine) (hm : (l, o) ∈ news) (hc : o.cls = .type "tuple") (hd : o.data = .seq #[.ref a, .ref b] n) (x : Pn news a p) (y : Pn news b q)
    (h : ∀ c h' tk, Fr h₀ L h' m → News h₀ L h' news → PnSel a b c p q (maxP p q) → Q (.ref c) { s with heap := h', toks := tk }) : wpAny (model prog w) A (call (.builtin "max") [.ref l]) Q E s := by
  refine call_max_it (ls := [.ref a, .ref b]) (bt := fun i j => gtP ([p, q].getD i p) ([p, q].getD j p)) rfl ⟨o, (N _ hm).1, hc, n, hd⟩ hh (fun i j hi hj s' Q' E' st hq => ?_) fun h' tk st => ?_
  · have N' := N.grown st
    have pick : ∀ {i : Nat}, i < 2 → ∃ c, ([.ref a, .ref b] : List Value).getD i .none = .ref c ∧ Pn news c ([p, q].getD i p) := fun {i} hi => get2 (fun (v : Value) (p : Pt) => ∃ c, v = .ref c ∧ Pn news c p) ⟨_, rfl, x⟩ ⟨_, rfl, y⟩ (lt2 hi)
    obtain ⟨c, ec, xc⟩ := pick hi
    obtain ⟨d, ed, xd⟩ := pick hj
    rw [ec, ed]
    exact pt_gt (k := 0) (tupCls_tuple _ _) (xc.pt N') (xd.pt N') A.in1 E' Q' s' rfl (by rw [units_one]; omega) hq
  · have hl : ([.ref a, .ref b] : List Value).length - 1 = 1 := rfl
    rw [hl]
    by_cases hq : gtP q p = true
    · have e : argBest (fun i j => gtP ([p, q].getD i p) ([p, q].getD j p)) 1 = 1 := by simp [argBest, hq]
      rw [e]
      exact h b h' tk (F.grownK st) (N.grown st) (by unfold maxP; rw [if_pos hq]; exact fun _ _ y => y)
    · have e : argBest (fun i j => gtP ([p, q].getD i p) ([p, q].getD j p)) 1 = 0 := by simp [argBest, hq]
      rw [e]
      exact h a h' tk (F.grownK st) (N.grown st) (by unfold maxP; rw [if_neg hq]; exact fun _ x _ => x)
theorem max2_pn (hh : A.handled = none) (F : Fr h₀ L s.heap m) (N : News h₀ L s.heap news) (hu : A.units + 8 < cLine) (x : Pn news a p) (y : Pn news b q)
    (h : ∀ c h' tk, Fr h₀ L h' m → News h₀ L h' news → Pn news c (maxP p q) → Q (.ref c) { s with heap := h', toks := tk }) : wpAny (model prog w) A (call (.builtin "max") [.ref a, .ref b]) Q E s := by
  refine call_max_of (bt := fun i j => gtP ([p, q].getD i p) ([p, q].getD j p)) rfl (by simp) (args_max2 _ _) hh (fun i j hi hj s' Q' E' st hq => ?_) fun h' tk st => ?_
  · have N' := N.grown st
    have pick : ∀ {i : Nat}, i < 2 → ∃ c, ([.ref a, .ref b] : List Value).getD i .none = .ref c ∧ Pn news c ([p, q].getD i p) := fun {i} hi => get2 (fun (v : Value) (p : Pt) => ∃ c, v = .ref c ∧ Pn news c p) ⟨_, rfl, x⟩ ⟨_, rfl, y⟩ (lt2 hi)
    obtain ⟨c, ec, xc⟩ := pick hi
    obtain ⟨d, ed, xd⟩ := pick hj
    rw [ec, ed]
    exact pt_gt (k := 0) (tupCls_tuple _ _) (xc.pt N') (xd.pt N') A.in1 E' Q' s' rfl (by rw [units_one]; omega) hq
  · have hl : ([.ref a, .ref b] : List Value).length - 1 = 1 := rfl
    rw [hl]
    by_cases hq : gtP q p = true
    · have e : argBest (fun i j => gtP ([p, q].getD i p) ([p, q].getD j p)) 1 = 1 := by simp [argBest, hq]
      rw [e]
      exact h b h' tk (F.grownK st) (N.grown st) (by unfold maxP; rw [if_pos hq]; exact y)
    · have e : argBest (fun i j => gtP ([p, q].getD i p) ([p, q].getD j p)) 1 = 0 := by simp [argBest, hq]
      rw [e]
      exact h a h' tk (F.grownK st) (N.grown st) (by unfold maxP; rw [if_neg hq]; exact x)
end
end
section
open PySem PySem.W PyProof.Rows PySem.Calls PySem.Spec
set_option Elab.async false
set_option maxRecDepth 100000
set_option maxHeartbeats 8000000
def Rd (news : List (Addr × Obj)) (v : Value) (d : PyData) : Prop := ∀ h₀ L h, News h₀ L h news → ∃ as, Reads h v d as
theorem Rd.mono {n n' : List (Addr × Obj)} {v : Value} {d : PyData} (x : Rd n v d) (hs : ∀ x ∈ n, x ∈ n') : Rd n' v d := fun h₀ L h N => x h₀ L h fun p hp => N p (hs p hp)
def ptD (p : Pt) : PyData := .tuple [.int p.1, .int p.2]
def sgD (s : Sg) : PyData := .tuple [ptD s.1, ptD s.2]
def toldD (l : List Pt × List Sg) : PyData := .list (l.1.map ptD ++ l.2.map sgD)
theorem Pn.rd {n : List (Addr × Obj)} {a : Addr} {p : Pt} (x : Pn n a p) : Rd n (.ref a) (ptD p) := fun h₀ L h N => by
  obtain ⟨o, t, u, k, m1, m2, m3⟩ := x
  exact ⟨_, Reads.tuple (N _ m1).1 m2 m3 (.cons (.int _ _) (.cons (.int _ _) .nil))⟩
theorem Sn.rd {n : List (Addr × Obj)} {a : Addr} {s : Sg} (x : Sn n a s) : Rd n (.ref a) (sgD s) := fun h₀ L h N => by
  obtain ⟨o, a1, a2, k, m1, m2, m3, m4, m5⟩ := x
  obtain ⟨_, r1⟩ := m4.rd h₀ L h N
  obtain ⟨_, r2⟩ := m5.rd h₀ L h N
  exact ⟨_, Reads.tuple (N _ m1).1 m2 m3 (.cons r1 (.cons r2 .nil))⟩
section
variable {n : List (Addr × Obj)} {a : Addr} {o : Obj} {c : Nat} {v0 v1 v2 v3 : Value} {d0 d1 d2 d3 : PyData}
theorem rd0 (hm : (a, o) ∈ n) (hc : o.cls = .type "list") (hd : o.data = .seq #[] c) : Rd n (.ref a) (.list []) := fun h₀ L h N =>
  ⟨_, Reads.list (N _ hm).1 hc hd .nil⟩
theorem rd1 (hm : (a, o) ∈ n) (hc : o.cls = .type "list") (hd : o.data = .seq #[v0] c) (h0 : Rd n v0 d0) : Rd n (.ref a) (.list [d0]) := fun h₀ L h N => by
  obtain ⟨_, r0⟩ := h0 h₀ L h N
  exact ⟨_, Reads.list (N _ hm).1 hc hd (.cons r0 .nil)⟩
theorem rd2 (hm : (a, o) ∈ n) (hc : o.cls = .type "list") (hd : o.data = .seq #[v0, v1] c) (h0 : Rd n v0 d0) (h1 : Rd n v1 d1) : Rd n (.ref a) (.list [d0, d1]) := fun h₀ L h N => by
  obtain ⟨_, r0⟩ := h0 h₀ L h N
  obtain ⟨_, r1⟩ := h1 h₀ L h N
  exact ⟨_, Reads.list (N _ hm).1 hc hd (.cons r0 (.cons r1 .nil))⟩
theorem rd4 (hm : (a, o) ∈ n) (hc : o.cls = .type "list") (hd : o.data = .seq #[v0, v1, v2, v3] c) (h0 : Rd n v0 d0) (h1 : Rd n v1 d1) (h2 : Rd n v2 d2) (h3 : Rd n v3 d3) : Rd n (.ref a) (.list [d0, d1, d2, d3]) := fun h₀ L h N => by
  obtain ⟨_, r0⟩ := h0 h₀ L h N
  obtain ⟨_, r1⟩ := h1 h₀ L h N
  obtain ⟨_, r2⟩ := h2 h₀ L h N
  obtain ⟨_, r3⟩ := h3 h₀ L h N
  exact ⟨_, Reads.list (N _ hm).1 hc hd (.cons r0 (.cons r1 (.cons r2 (.cons r3 .nil))))⟩
end
theorem ret_rd {h₀ h : Heap} {L : Addr} {m : Str → Option Value} {all news : List (Addr × Obj)} {v : Value} {d : PyData} (F : Fr h₀ L h m) (N : News h₀ L h all) (hs : ∀ x ∈ news, x ∈ all) (R : Rd all v d) : ∃ nw, Fr h₀ L h m ∧ News h₀ L h (nw ++ news) ∧ Rd (nw ++ news) v d :=
  ⟨all, F, ret_all N hs, R.mono fun _ hx => List.mem_append_left _ hx⟩
theorem comp_end {h₀ : Heap} {L I C D : Addr} {m : Str → Option Value} {s₁ : Shared} {oI oC oD : Obj} {S : List (Addr × Obj) → Prop} {rest : Value → List (Addr × Obj) → Prop} {y : Value} {h' : Heap} {tk : Nat} (ex : List (Addr × Obj)) {news : List (Addr × Obj)}
    (F : Fr h₀ L h' m) (N : News h₀ L h' (ex ++ (I, oI) :: (C, oC) :: (D, oD) :: news)) (off : LCg.Off3 I C D news) (nx : ∀ p ∈ ex, p.1 ≠ I ∧ p.1 ≠ C ∧ p.1 ≠ D) (hS : S (ex ++ news)) (r : rest y (ex ++ news)) :
    LCg.CompEnd h₀ L m s₁ I oI C oC D oD S rest y { s₁ with heap := h', toks := tk } := by
  refine LCg.CompEnd.intro F N (ex ++ news) (fun p hp => ?_) ?_ hS r
  · simp only [List.mem_cons, List.mem_append] at hp ⊢
    rcases hp with h | h | h | h | h <;> simp [h]
  · clear N hS r
    induction ex with
    | nil => exact off
    | cons a r ih => exact ⟨nx a (List.mem_cons_self ..), ih fun p hp => nx p (List.mem_cons_of_mem _ hp)⟩
section
variable {prog : Program} {w : World} {A : Around} {E Q : Value → Shared → Prop} {s : Shared} {h₀ : Heap} {L : Addr} {m : Str → Option Value} {news : List (Addr × Obj)} {l : Addr} {o : Obj} {n : Nat} {a0 a1 a2 a3 : Addr} {p0 p1 p2 p3 : Sg}
theorem sorted1_led {v : Value} (F : Fr h₀ L s.heap m) (N : News h₀ L s.heap news) (hm : (l, o) ∈ news) (hc : o.cls = .type "list") (hd : o.data = .seq #[v] n)
    (h : ∀ D c h', Fr h₀ L h' m → News h₀ L h' ((D, listOf #[v] c) :: news) → (∀ q ∈ news, q.1 < D) → Q (.ref D) { s with heap := h' }) :
    wpAny (model prog w) A (call (.builtin "sorted") [.ref l]) Q E s :=
  sorted_short (vs := [v]) F N ⟨o, (N _ hm).1, hc, n, hd⟩ (Nat.lt_succ_self 1) h
theorem sorted0_led (F : Fr h₀ L s.heap m) (N : News h₀ L s.heap news) (hm : (l, o) ∈ news) (hc : o.cls = .type "list") (hd : o.data = .seq #[] n)
    (h : ∀ D c h', Fr h₀ L h' m → News h₀ L h' ((D, listOf #[] c) :: news) → (∀ q ∈ news, q.1 < D) → Q (.ref D) { s with heap := h' }) :
    wpAny (model prog w) A (call (.builtin "sorted") [.ref l]) Q E s :=
  sorted_short (vs := []) F N ⟨o, (N _ hm).1, hc, n, hd⟩ (Nat.zero_lt_succ 1) h
theorem sorted2_led (F : Fr h₀ L s.heap m) (N : News h₀ L s.heap news) (hm : (l, o) ∈ news) (hc : o.cls = .type "list") (hd : o.data = .seq #[.ref a0, .ref a1] n) (h0 : Sn news a0 p0) (h1 : Sn news a1 p1) (hu : A.units + 8 < cLine)
    (h : ∀ D c b0 b1 q0 q1 h', Fr h₀ L h' m → News h₀ L h' ((D, listOf #[.ref b0, .ref b1] c) :: news) → (∀ q ∈ news, q.1 < D) → Sn news b0 q0 → Sn news b1 q1 → srtS [p0, p1] = [q0, q1] → Q (.ref D) { s with heap := h' }) :
    wpAny (model prog w) A (call (.builtin "sorted") [.ref l]) Q E s := sorted2_sn F N ⟨o, (N _ hm).1, hc, n, hd⟩ h0 h1 hu h
theorem sorted4s_led (F : Fr h₀ L s.heap m) (N : News h₀ L s.heap news) (hm : (l, o) ∈ news) (hc : o.cls = .type "list") (hd : o.data = .seq #[.ref a0, .ref a1, .ref a2, .ref a3] n) (h0 : Sn news a0 p0) (h1 : Sn news a1 p1) (h2 : Sn news a2 p2) (h3 : Sn news a3 p3) (hu : A.units + 8 < cLine)
    (h : ∀ D c b0 b1 b2 b3 q0 q1 q2 q3 h', Fr h₀ L h' m → News h₀ L h' ((D, listOf #[.ref b0, .ref b1, .ref b2, .ref b3] c) :: news) → (∀ q ∈ news, q.1 < D) → Sn news b0 q0 → Sn news b1 q1 → Sn news b2 q2 → Sn news b3 q3 → srtS [p0, p1, p2, p3] = [q0, q1, q2, q3] → Q (.ref D) { s with heap := h' }) :
    wpAny (model prog w) A (call (.builtin "sorted") [.ref l]) Q E s := sorted4_sn F N ⟨o, (N _ hm).1, hc, n, hd⟩ h0 h1 h2 h3 hu h
end
theorem set_W26 : True := by
  k_with_none
  k_with "my MEM" => first | ktr_member | with_reducible exact List.mem_cons_self | (with_reducible refine' List.mem_cons_of_mem _ ?_; k_extra "my MEM") | (with_reducible refine' List.mem_append_right _ ?_; k_extra "my MEM") | (with_reducible refine' List.mem_append_left _ ?_; k_extra "my MEM")
  k_with "my CELL" => (refine' code_def ?qcellk1 ?qcellk2 ?qcellk3 ?qcellk4 ?qcellk5 ?qcellkA ?qcellkF ?qcellkK ?qcellk6 ?qcellk7 ?qcellk8 ?qcellk9 ?qcellkB ?_ ?qcellc2 ?qcellc3 ?qcellc4 ?qcellc5; (case qcellkA => exact rfl); (case qcellkF => exact rfl); (case qcellkK => first | assumption | exact rfl); (case qcellk1 => k_asm); (case qcellk2 => k_asm); (case qcellk3 => k_asm); (case qcellk4 => k_asm); (case qcellk5 => k_asm); (case qcellk6 => k_is); (case qcellk7 => k_is); (case qcellk8 => ktr_room); (case qcellk9 => first | exact BindsTo.of_eq rfl | exact binds_K (by k_in) rfl (by k_is) rfl rfl rfl); (case qcellc5 => decide); (case qcellkB => exact locs rfl); (case qcellc2 => exact rfl); (case qcellc3 => exact rfl); (case qcellc4 => exact rfl); k_whole; intro g' L' h' FG' F' N' B' X' T'; (try dsimp only); (try k_lift B'); (try k_fold))
  k_with "my testChain" => first | with_reducible refine test_link ?_ | with_reducible refine test_last ?_ | with_unfolding_all refine test_link ?_ | with_unfolding_all refine test_last ?_
  k_with "my SUB" => (intro x hx; first | exact hx | (simp only [List.mem_append, List.mem_cons, hx, true_or, or_true]; done) | (simp only [List.mem_append, List.mem_cons] at hx ⊢; simp_all; done))
  k_with "my PO" => first | assumption | exact Po.mono (by assumption) (by k_extra "my SUB")
  k_with "my CTX" => ((case q9B => k_asm); (case q9F => k_asm); (case q9X => k_asm); (case q9N => k_asm); (case q9T => k_asm); (case q9K => first | assumption | exact rfl); (case q9d => ktr_room); (case q9u => ktr_units))
  k_with "my getAttr ref" => (k_here; (with_reducible show wpAny _ _ (getAttr (Value.ref _) (PySem.Str.ofString "x") _) _ _ _); k_dflt (refine' getx _ ?q9B ?q9F ?q9X ?q9N ?q9T ?q9K ?q9d ?q9u ?q565wp ?_; k_extra "my CTX"; (case q565wp => k_extra "my PO"); k_whole; intro t' h' tk' F' N'; (try k_sweep)))
  k_with "my getAttr ref" => (k_here; (with_reducible show wpAny _ _ (getAttr (Value.ref _) (PySem.Str.ofString "y") _) _ _ _); k_dflt (refine' gety _ ?q9B ?q9F ?q9X ?q9N ?q9T ?q9K ?q9d ?q9u ?q566wp ?_; k_extra "my CTX"; (case q566wp => k_extra "my PO"); k_whole; intro t' h' tk' F' N'; (try k_sweep)))
  k_with "my call ref" => (k_here; (with_reducible show wpAny _ _ (call (Value.ref 364) [_, _, _, _]) _ _ _); k_dflt (refine' k_angle _ ?q9B ?q9F ?q9X ?q9N ?q9T ?q9K ?q9d ?q9u ?q567wp1 ?q567wp2 ?q567wp3 ?q567wb1 ?q567wb2 ?q567wb3 ?_; k_extra "my CTX"; (case q567wp1 => k_extra "my PO"); (case q567wp2 => k_extra "my PO"); (case q567wp3 => k_extra "my PO"); (case q567wb1 => k_extra "my BP"); (case q567wb2 => k_extra "my BP"); (case q567wb3 => k_extra "my BP"); k_whole; intro h' tk' F' N'; (try k_sweep)))
  k_with "my BP" => first | assumption | exact Bp.min (by assumption) (by assumption) | exact Bp.max (by assumption) (by assumption)
  k_with "my call builtin:min" => (k_here; (with_reducible show wpAny _ _ (call (Value.builtin "min") [Value.ref _, Value.ref _]) _ _ _); k_dflt (refine' min2_po ?q569whh ?q569wF ?q569wX ?q569wN ?q569wu ?q569wp1 ?q569wp2 ?_; (case q569whh => exact rfl); (case q569wF => k_asm); (case q569wX => k_asm); (case q569wN => k_asm); (case q569wu => ktr_units); (case q569wp1 => k_extra "my PO"); (case q569wp2 => k_extra "my PO"); k_whole; intro c' h' tk' F' N' P'; (try k_sweep)))
  k_with "my call builtin:max" => (k_here; (with_reducible show wpAny _ _ (call (Value.builtin "max") [Value.ref _, Value.ref _]) _ _ _); k_dflt (refine' max2_po ?q570whh ?q570wF ?q570wX ?q570wN ?q570wu ?q570wp1 ?q570wp2 ?_; (case q570whh => exact rfl); (case q570wF => k_asm); (case q570wX => k_asm); (case q570wN => k_asm); (case q570wu => ktr_units); (case q570wp1 => k_extra "my PO"); (case q570wp2 => k_extra "my PO"); k_whole; intro c' h' tk' F' N' P'; (try k_sweep)))
  k_with "my compareOp Eq ref ref" => (k_here; k_dflt (refine' eq_po ?q571wF ?q571wX ?q571wN ?q571wu ?q571wp1 ?q571wp2 ?_; (case q571wF => k_asm); (case q571wX => k_asm); (case q571wN => k_asm); (case q571wp1 => k_extra "my PO"); (case q571wp2 => k_extra "my PO"); (case q571wu => ktr_units); k_whole))
  k_with "my compareOp NotEq ref ref" => (k_here; k_dflt (refine' ne_po ?q572wF ?q572wX ?q572wN ?q572wu ?q572wp1 ?q572wp2 ?_; (case q572wF => k_asm); (case q572wX => k_asm); (case q572wN => k_asm); (case q572wp1 => k_extra "my PO"); (case q572wp2 => k_extra "my PO"); (case q572wu => ktr_units); k_whole))
  k_with "my compareOp Lt ref ref" => (k_here; k_dflt (refine' lt_po ?q573wF ?q573wX ?q573wN ?q573wu ?q573wp1 ?q573wp2 ?_; (case q573wF => k_asm); (case q573wX => k_asm); (case q573wN => k_asm); (case q573wp1 => k_extra "my PO"); (case q573wp2 => k_extra "my PO"); (case q573wu => ktr_units); k_whole))
  k_with "my compareOp LtE ref ref" => (k_here; k_dflt (refine' le_po ?q574wF ?q574wX ?q574wN ?q574wu ?q574wp1 ?q574wp2 ?_; (case q574wF => k_asm); (case q574wX => k_asm); (case q574wN => k_asm); (case q574wp1 => k_extra "my PO"); (case q574wp2 => k_extra "my PO"); (case q574wu => ktr_units); k_whole))
  k_with "my compareOp Is ref ref" => (k_here; (first | (with_reducible refine' is_ori_col ?q575wF ?q575wX ?_) | (with_reducible refine' is_ori ?q575wF ?q575wX ?_)); (case q575wF => k_asm); (case q575wX => k_asm); k_whole)
  k_with "my NX" => first | exact List.forall_mem_nil _ | refine List.forall_mem_cons.mpr ⟨⟨by k_ne, by k_ne, by k_ne⟩, by k_extra "my NX"⟩
  k_with "my CompEnd" => first
    | (refine' comp_end [_, _, _] ?q577wF ?q577wN ?q577woff ?q577wnx ?q577wsrc ?_; (case q577wF => assumption); (case q577wN => assumption); (case q577woff => assumption); (case q577wnx => k_extra "my NX"); (case q577wsrc => lcg_src))
    | (refine' comp_end [_, _] ?q577wF ?q577wN ?q577woff ?q577wnx ?q577wsrc ?_; (case q577wF => assumption); (case q577wN => assumption); (case q577woff => assumption); (case q577wnx => k_extra "my NX"); (case q577wsrc => lcg_src))
    | (refine' comp_end [_] ?q577wF ?q577wN ?q577woff ?q577wnx ?q577wsrc ?_; (case q577wF => assumption); (case q577wN => assumption); (case q577woff => assumption); (case q577wnx => k_extra "my NX"); (case q577wsrc => lcg_src))
  k_with "my CompRest" => (with_unfolding_all first
    | (refine LCg.CompRest.succ ?_; intro v' I' oI' C' oC' D' m' h' tk' E' hv' hC' hx' F' N' off' ne'; (have off9 := off'); (first | lcg_open hv' | (obtain ⟨t9', hv9'⟩ := hv'; subst hv9')); (try simp only [LCg.Off3, and_true] at off'))
    | refine LCg.CompRest.zero ?_)
  k_with "my PN" => first | assumption | exact Pn.mono (by assumption) (by k_extra "my SUB") | exact ⟨_, _, _, _, by k_mem, rfl, rfl⟩ | exact PnSel.get (by assumption) (by k_extra "my PN") (by k_extra "my PN")
  k_with "my SN" => first | assumption | exact Sn.mono (by assumption) (by k_extra "my SUB") | exact ⟨_, _, _, _, by k_mem, rfl, rfl, by k_extra "my PN", by k_extra "my PN"⟩
  k_with "my call builtin:min" => (k_here; (with_reducible show wpAny _ _ (call (Value.builtin "min") [Value.ref _]) _ _ _); k_dflt (refine' min_it_pn ?q581whh ?q581wF ?q581wN ?q581wu ?q581whm ?q581whc ?q581whd ?q581wp1 ?q581wp2 ?_; (case q581whh => exact rfl); (case q581wF => k_asm); (case q581wN => k_asm); (case q581whm => k_mem); (case q581whc => exact rfl); (case q581whd => exact rfl); (case q581wu => ktr_units); (case q581wp1 => k_extra "my PN"); (case q581wp2 => k_extra "my PN"); k_whole; intro c' h' tk' F' N' P'; (try k_sweep)))
  k_with "my call builtin:max" => (k_here; (with_reducible show wpAny _ _ (call (Value.builtin "max") [Value.ref _]) _ _ _); k_dflt (refine' max_it_pn ?q582whh ?q582wF ?q582wN ?q582wu ?q582whm ?q582whc ?q582whd ?q582wp1 ?q582wp2 ?_; (case q582whh => exact rfl); (case q582wF => k_asm); (case q582wN => k_asm); (case q582whm => k_mem); (case q582whc => exact rfl); (case q582whd => exact rfl); (case q582wu => ktr_units); (case q582wp1 => k_extra "my PN"); (case q582wp2 => k_extra "my PN"); k_whole; intro c' h' tk' F' N' P'; (try k_sweep)))
  k_with "my call builtin:sorted" => (k_here; (with_reducible show wpAny _ _ (call (Value.builtin "sorted") [Value.ref _]) _ _ _); k_dflt (refine' sorted1_led ?q583wF ?q583wN ?q583whm ?q583whc ?q583whd ?_; (case q583wF => k_asm); (case q583wN => k_asm); (case q583whm => k_mem); (case q583whc => exact rfl); (case q583whd => exact rfl); k_whole; intro D' c' h' F' N' l1; (try k_sweep)))
  k_with "my call builtin:sorted" => (k_here; (with_reducible show wpAny _ _ (call (Value.builtin "sorted") [Value.ref _]) _ _ _); k_dflt (refine' sorted2_led ?q584wF ?q584wN ?q584whm ?q584whc ?q584whd ?q584wh0 ?q584wh1 ?q584wu ?_; (case q584wF => k_asm); (case q584wN => k_asm); (case q584whm => k_mem); (case q584whc => exact rfl); (case q584whd => exact rfl); (case q584wh0 => k_extra "my SN"); (case q584wh1 => k_extra "my SN"); (case q584wu => ktr_units); k_whole; intro D' c' b0' b1' q0' q1' h' F' N' l1 P0' P1' hsrt; (try k_sweep)))
  k_with "my call builtin:sorted" => (k_here; (with_reducible show wpAny _ _ (call (Value.builtin "sorted") [Value.ref _]) _ _ _); k_dflt (refine' sorted4s_led ?q585wF ?q585wN ?q585whm ?q585whc ?q585whd ?q585wh0 ?q585wh1 ?q585wh2 ?q585wh3 ?q585wu ?_; (case q585wF => k_asm); (case q585wN => k_asm); (case q585whm => k_mem); (case q585whc => exact rfl); (case q585whd => exact rfl); (case q585wh0 => k_extra "my SN"); (case q585wh1 => k_extra "my SN"); (case q585wh2 => k_extra "my SN"); (case q585wh3 => k_extra "my SN"); (case q585wu => ktr_units); k_whole; intro D' c' b0' b1' b2' b3' q0' q1' q2' q3' h' F' N' l1 P0' P1' P2' P3' hsrt; (try k_sweep)))
  k_with "my RETRD" => (refine' ret_rd ?q586wF ?q586wN ?q586wS ?_; (case q586wF => k_asm); (case q586wN => k_asm); (case q586wS => k_extra "my SUB"))
  k_with "my RI" => first | exact Sn.rd (by k_extra "my SN") | exact Pn.rd (by k_extra "my PN")
  k_with "my RD" => first
    | (refine' rd0 ?q588wa ?q588wb ?q588wc; (case q588wa => k_mem); (case q588wb => exact rfl); (case q588wc => exact rfl))
    | (refine' rd1 ?q588wa ?q588wb ?q588wc ?q588wd; (case q588wa => k_mem); (case q588wb => exact rfl); (case q588wc => exact rfl); (case q588wd => k_extra "my RI"))
    | (refine' rd2 ?q588wa ?q588wb ?q588wc ?q588wd ?q588we; (case q588wa => k_mem); (case q588wb => exact rfl); (case q588wc => exact rfl); (case q588wd => k_extra "my RI"); (case q588we => k_extra "my RI"))
    | (refine' rd4 ?q588wa ?q588wb ?q588wc ?q588wd ?q588we ?q588wf ?q588wg; (case q588wa => k_mem); (case q588wb => exact rfl); (case q588wc => exact rfl); (case q588wd => k_extra "my RI"); (case q588we => k_extra "my RI"); (case q588wf => k_extra "my RI"); (case q588wg => k_extra "my RI"))
  k_with "my exec Assign" => (k_fold)
  k_with "my exec If" => (k_fold)
  k_with "my eval BinOp" => (k_fold)
  k_with "my eval Tuple" => (k_fold)
  k_with "my eval Call" => (k_fold)
  k_with "my eval Call Attribute" => (k_fold)
  k_with "my storeName" => (k_here; k_dflt (refine' storeL ?q595wF ?q595wN ?_ ?q595wa ?q595wb; (case q595wF => k_asm); (case q595wN => k_asm); (case q595wa => rfl); (case q595wb => rfl); k_whole; intro m' h' tk' F' N'; (try k_sweep)))
  k_with "my eval Name" => (k_here; k_dflt (refine' nameL ?q596wF ?q596wv ?_ ?q596wok ?q596whl; (case q596wF => k_asm); (case q596whl => rfl); (case q596wok => rfl); (case q596wv => rfl); k_whole))
  k_with "my eval Attribute Name" => (k_here; k_dflt (refine' attrL ?q597wF ?q597wv ?_ ?q597wok ?q597whl; (case q597wF => k_asm); (case q597whl => rfl); (case q597wok => rfl); (case q597wv => rfl); k_whole))
  k_with "my spliced" => (k_here; k_dflt (first
    | ((with_reducible refine' argLL ?q598wF ?q598wv ?q598wu ?_ ?q598wok ?q598woj ?q598whl); (case q598wF => k_asm); (case q598whl => rfl); (case q598wok => rfl); (case q598woj => rfl); (case q598wv => rfl); (case q598wu => rfl); k_whole)
    | ((with_reducible refine' argL1 ?q598wF ?q598wv ?_ ?q598wok ?q598whl); (case q598wF => k_asm); (case q598whl => rfl); (case q598wok => rfl); (case q598wv => rfl); k_whole)
    | ((with_reducible refine' argL ?q598wF ?q598wv ?_ ?q598wok ?q598whl); (case q598wF => k_asm); (case q598whl => rfl); (case q598wok => rfl); (case q598wv => rfl); k_whole)))
  k_with "my eval Call Attribute" => (k_here; k_dflt (refine' methL ?q599wF ?q599wv ?_ ?q599wok ?q599whl ?q599whe; (case q599wF => k_asm); (case q599whl => rfl); (case q599wok => rfl); (case q599wv => rfl); (case q599whe => rfl); k_whole))
  k_with "my isTrue Compare" => (k_here; k_dflt (first
    | ((with_reducible refine' cmpLL ?q600wF ?q600wv ?q600wu ?_ ?q600wok ?q600woj ?q600whl ?q600whm); (case q600wF => k_asm); (case q600whl => rfl); (case q600wok => rfl); (case q600woj => rfl); (case q600whm => with_unfolding_all rfl); (case q600wv => rfl); (case q600wu => rfl); k_whole)
    | ((with_reducible refine' cmpL ?q600wF ?q600wv ?_ ?q600wok ?q600whl ?q600whm); (case q600wF => k_asm); (case q600whl => rfl); (case q600wok => rfl); (case q600whm => with_unfolding_all rfl); (case q600wv => rfl); k_whole)))
  trivial
theorem k_told1 (w : World) {dp un : Nat} {gd : Option (List Code)} {cn : Str} {cs : Scope} {a : Addr} {ccd : Value} {cl : List (Str × Addr)} {outer : List Env} {A₀ : Around} {base h₀ : Heap} {L : Addr} {m : Str → Option Value}
    {pr : Program} {loose : List Str} {mean : ExcName → Option Value} {mg mb : Str → Option Value} {s : Shared} {Q E : Value → Shared → Prop} {news : List (Addr × Obj)} {cx r : Addr} {P1 P2 : Pt}
    (B : Below A₀ base outer h₀) (F : Fr h₀ L s.heap m) (X : (Mine.k0.heap_1_39 w.params).In h₀) (N : News h₀ L s.heap news) (T : Top pr loose mean mg mb h₀) (hcs : cs.kind = .function) (hd : dp + 20 < recursionLimit) (hu : un + 160 < cLine)
    (hc : Cx news cx) (h1 : So news r P1 P2)
    (hret : ∀ (nw : List (Addr × Obj)) (v : Value) (h' : Heap) (tk' : Nat), Fr h₀ L h' m → News h₀ L h' (nw ++ news) → Rd (nw ++ news) v (toldD (toldF (.seg (P1, P2)))) → Q v { s with heap := h', toks := tk' }) :
    wpAny (model PySem.Challenge.rw_ix0019_01.prog w) (ktrTop dp un gd cn cs L a ccd cl outer) (call (.ref 467) [.ref r, .ref cx]) Q E s := by
  revert X
  k_fill
  intro X
  have H1 := h1
  refine Cx.elim hc ?_; clear hc; intro dc kc mc1 mc2
  refine So.elim h1 ?_; clear h1; intro d1 e1 t1 p1 e2 t2 p2 k1 m1 m2 x1 x2
  refine wpAny_call ?_
  k_dflt cell_enter
  k_steps
  all_goals refine (fun z : ∃ nw, Fr h₀ L _ m ∧ News h₀ L _ (nw ++ news) ∧ Rd (nw ++ news) _ _ => z.elim fun nw z => hret nw _ _ _ z.1 z.2.1 z.2.2) ?_
  all_goals walk_at "RETRD"
  all_goals (show Rd _ _ (.list [sgD (minP P1 P2, maxP P1 P2)]); walk_at "RD")
end
section
open PySem PySem.W PyProof.Rows PySem.Calls PySem.Spec PySem.PyData PySem.SeqAt
set_option Elab.async false
theorem all_flat : ∀ l : List PyData, (∀ d ∈ l, d.canLay0 = true ∧ depth d ≤ 3) → canLayAll0 l = true ∧ depthAll l ≤ 3
  | [], _ => ⟨by simp [canLayAll0], by simp [depthAll]⟩
  | d :: r, h => by
    have h1 := h d (List.mem_cons_self ..)
    have h2 := all_flat r fun x hx => h x (List.mem_cons_of_mem _ hx)
    refine ⟨by simp [canLayAll0, h1.1, h2.1], ?_⟩
    simp only [depthAll]
    omega
theorem shaped_told (l : List Pt × List Sg) : shaped (toldD l) = true := by
  have h := all_flat (l.1.map ptD ++ l.2.map sgD) (by
    intro d hd
    rcases List.mem_append.mp hd with hd | hd
    · obtain ⟨p, _, rfl⟩ := List.mem_map.mp hd
      exact ⟨by simp [ptD, canLay0, canLayAll0], by simp [ptD, depth, depthAll]⟩
    · obtain ⟨p, _, rfl⟩ := List.mem_map.mp hd
      exact ⟨by simp [sgD, ptD, canLay0, canLayAll0], by simp [sgD, ptD, depth, depthAll]⟩)
  unfold shaped toldD
  rw [Bool.and_eq_true, decide_eq_true_eq]
  refine ⟨by simp only [canLay0]; exact h.1, ?_⟩
  simp only [depth]
  omega
section
variable {prog : Program} {w : World} {A : Around} {E Q : Value → Shared → Prop} {s : Shared} {h₀ : Heap} {L : Addr} {news n1 n2 : List (Addr × Obj)} {u v : Value} {x y : List Pt × List Sg}
theorem eq_told (N : News h₀ L s.heap news) (hu : A.units + 64 < cLine) (a : Rd news u (toldD x)) (b : Rd news v (toldD y)) (e : x = y) (h : Q (.bool true) s) : wpAny (model prog w) A (compareOp .Eq u v) Q E s := by
  subst e
  obtain ⟨_, ra⟩ := a h₀ L _ N
  obtain ⟨_, rb⟩ := b h₀ L _ N
  exact eq_dataH ra rb (shaped_told x) (shaped_told x) hu (by rw [eqv_refl _ (canLay_of_shaped (shaped_told x))]; exact h)
theorem ne_told (N : News h₀ L s.heap news) (hu : A.units + 64 < cLine) (a : Rd news u (toldD x)) (b : Rd news v (toldD y)) (e : x = y) (h : Q (.bool false) s) : wpAny (model prog w) A (compareOp .NotEq u v) Q E s := by
  subst e
  obtain ⟨_, ra⟩ := a h₀ L _ N
  obtain ⟨_, rb⟩ := b h₀ L _ N
  exact ne_dataH ra rb (shaped_told x) (shaped_told x) hu (by rw [eqv_refl _ (canLay_of_shaped (shaped_told x))]; exact h)
end
theorem agree_parts {a b c d : Pt} {S : Spec} (h : Agree a b c d S) : toldF (intersectF a b c d) = S.met ∧ toldF (subtractF a b c d) = ([], S.left) ∧ toldF (uniteF a b c d) = ([], S.joined) ∧ toldF (symmF a b c d) = ([], S.single) := h
theorem relok_of {a b c d : Pt} (hab : a ≠ b) (hcd : c ≠ d) (hW : cross a b c d ≠ 0 → Whole a b c d) : RelOk a b c d := fun hr h1 h2 => ok_gen hab hcd hW hr h1 h2
theorem bp_of {x y : Int} (h : Builtin.Int.intBits x ≤ 3146100) (k : Builtin.Int.intBits y ≤ 3146100) : Bp (x, y) := ⟨Nat.le_trans h (by decide), Nat.le_trans k (by decide)⟩
theorem Cx.of {n : List (Addr × Obj)} {a d : Addr} {k : Nat} (h : (a, instObj 381 d) ∈ n) (g : (d, dictOf [] k) ∈ n) : Cx n a := ⟨d, k, h, g⟩
theorem So.of {n : List (Addr × Obj)} {a d p1 p2 : Addr} {h1 h2 : Int} {t1 t2 : Tok} {k : Nat} {A1 A2 B1 B2 : Int} (h : (a, instObj 252 d) ∈ n) (g : (d, dictOf [⟨h1, .str (PySem.Str.ofString "start") t1, .ref p1⟩, ⟨h2, .str (PySem.Str.ofString "end") t2, .ref p2⟩] k) ∈ n) (x : Po n p1 (A1, A2)) (y : Po n p2 (B1, B2)) : So n a (A1, A2) (B1, B2) :=
  ⟨d, h1, t1, p1, h2, t2, p2, k, h, g, x, y⟩
end
section
open PySem PySem.W PyProof.Rows PySem.Calls PySem.Spec PyProof.Rows.LCg
set_option Elab.async false
theorem compEnd_mono {h₀ : Heap} {L I C D : Addr} {m : Str → Option Value} {s₁ s₂ : Shared} {oI oC oD : Obj} {S : List (Addr × Obj) → Prop} {r1 r2 : Value → List (Addr × Obj) → Prop} {y : Value}
    (h : CompEnd h₀ L m s₁ I oI C oC D oD S r1 y s₂) (k : ∀ n, r1 y n → r2 y n) : CompEnd h₀ L m s₁ I oI C oC D oD S r2 y s₂ := by
  obtain ⟨h', tk, n, e, F, N, o, hS, r⟩ := h
  exact ⟨h', tk, n, e, F, N, o, hS, k n r⟩
/-- a comprehension by what holds between its turns -/
theorem compRest_all {prog : Program} {w : World} {A : Around} {s : Shared} {h₀ : Heap} {L : Addr} {m : Str → Option Value} {env : Env} {elt : PySem.Expr} {x : Str} {scope : Scope} {cl : List (Str × Addr)} {S : List (Addr × Obj) → Prop} {P : Nat → Value → Prop} {Fin : List Value → List (Addr × Obj) → Prop} (Inv : Nat → List Value → List (Addr × Obj) → Prop) (n : Nat)
    (step : ∀ i ys news, Inv i ys news → i < n → ∀ v I oI C oC D m₂ h tk (E' : Value → Shared → Prop), P i v → NsObj oC m₂ → m₂ x = some v → Fr h₀ L h m → News h₀ L h ((I, oI) :: (C, oC) :: (D, lst ys) :: news) → Off3 I C D news → ((@Ne Nat I C) ∧ (@Ne Nat I D) ∧ (@Ne Nat C D)) →
      wpAny (model prog w) A (eval elt (compEnvC scope cl C env)) (CompEnd h₀ L m { s with heap := h, toks := tk } I oI C oC D (lst ys) S (fun y news' => Inv (i + 1) (ys ++ [y]) news')) E' { s with heap := h, toks := tk })
    (fin : ∀ ys news, Inv n ys news → Fin ys news) : ∀ k i ys news, i + k = n → Inv i ys news → CompRest prog w A h₀ L m env elt x scope cl s S P Fin k i ys news
  | 0, i, ys, news, e, hi => CompRest.zero (fin _ _ (by rw [Nat.add_zero] at e; exact e ▸ hi))
  | k + 1, i, ys, news, e, hi => CompRest.succ fun v I oI C oC D m₂ h tk E' hv hC hx F N off ne =>
      wpAny_mono (step i ys news hi (by omega) v I oI C oC D m₂ h tk E' hv hC hx F N off ne) (fun y s₂ q => compEnd_mono q fun n' r => compRest_all Inv n step fin k (i + 1) (ys ++ [y]) n' (by omega) r) fun _ _ q => q
/-- segments behind a list's values -/
inductive SoAre (n : List (Addr × Obj)) : List Value → List Sg → Prop
  | nil : SoAre n [] []
  | cons {a : Addr} {vs : List Value} {s : Sg} {ss : List Sg} (h : So n a s.1 s.2) (t : SoAre n vs ss) : SoAre n (.ref a :: vs) (s :: ss)
/-- pairs of pairs behind a list's values -/
inductive SnAre (n : List (Addr × Obj)) : List Value → List Sg → Prop
  | nil : SnAre n [] []
  | cons {a : Addr} {vs : List Value} {s : Sg} {ss : List Sg} (h : Sn n a s) (t : SnAre n vs ss) : SnAre n (.ref a :: vs) (s :: ss)
theorem SoAre.len {n : List (Addr × Obj)} {vs : List Value} {ss : List Sg} (h : SoAre n vs ss) : vs.length = ss.length := by induction h with | nil => rfl | cons _ _ ih => simp [ih]
theorem SnAre.len {n : List (Addr × Obj)} {vs : List Value} {ss : List Sg} (h : SnAre n vs ss) : vs.length = ss.length := by induction h with | nil => rfl | cons _ _ ih => simp [ih]
theorem SnAre.mono {n n' : List (Addr × Obj)} {vs : List Value} {ss : List Sg} (h : SnAre n vs ss) (hs : ∀ x ∈ n, x ∈ n') : SnAre n' vs ss := by
  induction h with
  | nil => exact .nil
  | cons h _ ih => exact .cons (h.mono hs) ih
theorem SnAre.snoc {n : List (Addr × Obj)} {vs : List Value} {ss : List Sg} {a : Addr} {s : Sg} (h : SnAre n vs ss) (k : Sn n a s) : SnAre n (vs ++ [.ref a]) (ss ++ [s]) := by
  induction h with
  | nil => exact .cons k .nil
  | cons h _ ih => exact .cons h ih
theorem SoAre.get {n : List (Addr × Obj)} {vs : List Value} {ss : List Sg} (h : SoAre n vs ss) : ∀ {i : Nat} {v : Value}, vs.toArray[i]? = some v → ∃ a s, v = .ref a ∧ ss[i]? = some s ∧ So n a s.1 s.2 := by
  induction h with
  | nil => intro i v e; simp at e
  | @cons a vs s ss h _ ih =>
    intro i v e
    cases i with
    | zero => simp at e; exact ⟨a, s, e.symm, rfl, h⟩
    | succ i => exact ih (i := i) (by simpa using e)
theorem SnAre.get {n : List (Addr × Obj)} {vs : List Value} {ss : List Sg} (h : SnAre n vs ss) : ∀ {i : Nat} {v : Value}, vs.toArray[i]? = some v → ∃ a s, v = .ref a ∧ ss[i]? = some s ∧ Sn n a s := by
  induction h with
  | nil => intro i v e; simp at e
  | @cons a vs s ss h _ ih =>
    intro i v e
    cases i with
    | zero => simp at e; exact ⟨a, s, e.symm, rfl, h⟩
    | succ i => exact ih (i := i) (by simpa using e)
theorem take_snoc {ss : List Sg} {i : Nat} {s : Sg} (h : ss[i]? = some s) : ss.take (i + 1) = ss.take i ++ [s] := by
  rw [List.take_add_one, h]; rfl
/-- what holds between the turns of «pairs = [..]» -/
def Inv1 (n₀ : List (Addr × Obj)) (g : Sg → Sg) (ss : List Sg) (i : Nat) (ys : List Value) (n : List (Addr × Obj)) : Prop := (∀ p ∈ n₀, p ∈ n) ∧ SnAre n ys ((ss.take i).map g)
theorem Inv1.zero {n : List (Addr × Obj)} {g : Sg → Sg} {ss : List Sg} : Inv1 n g ss 0 [] n := ⟨fun _ h => h, by rw [List.take_zero]; exact .nil⟩
theorem Inv1.succ {n₀ n ex : List (Addr × Obj)} {g : Sg → Sg} {ss : List Sg} {i : Nat} {ys : List Value} {y : Addr} {s : Sg} (h : Inv1 n₀ g ss i ys n) (e : ss[i]? = some s) (k : Sn (ex ++ n) y (g s)) : Inv1 n₀ g ss (i + 1) (ys ++ [.ref y]) (ex ++ n) :=
  ⟨fun p hp => List.mem_append_right _ (h.1 p hp), by rw [take_snoc e, List.map_append]; exact (h.2.mono fun _ hx => List.mem_append_right _ hx).snoc k⟩
theorem Inv1.fin {n₀ n : List (Addr × Obj)} {g : Sg → Sg} {ss : List Sg} {i : Nat} {ys : List Value} (h : Inv1 n₀ g ss i ys n) (e : i = ss.length) : (∀ p ∈ n₀, p ∈ n) ∧ SnAre n ys (ss.map g) := by
  obtain ⟨h1, h2⟩ := h
  rw [e, List.take_length] at h2
  exact ⟨h1, h2⟩
end
section
open PySem PySem.W PyProof.Rows PySem.Calls PySem.Spec PySem.PyData PySem.SeqAt PyProof.Rows.LCg
set_option Elab.async false
set_option maxHeartbeats 1000000
set_option maxRecDepth 100000
theorem SoAre.mono {n n' : List (Addr × Obj)} {vs : List Value} {ss : List Sg} (h : SoAre n vs ss) (hs : ∀ x ∈ n, x ∈ n') : SoAre n' vs ss := by
  induction h with
  | nil => exact .nil
  | cons h _ ih => exact .cons (h.mono hs) ih
section
variable {prog : Program} {w : World} {A : Around} {s : Shared} {h₀ : Heap} {L : Addr} {m : Str → Option Value} {env : Env} {elt : PySem.Expr} {x : Str} {scope : Scope} {cl : List (Str × Addr)} {S : List (Addr × Obj) → Prop} {Fin : List Value → List (Addr × Obj) → Prop} {vs : List Value} {ss : List Sg} {n₀ : List (Addr × Obj)}
theorem comp1 (hS : SoAre n₀ vs ss)
    (step : ∀ i ys news a q, (∀ p ∈ n₀, p ∈ news) → Inv1 n₀ id ss i ys news → ss[i]? = some q → So news a q.1 q.2 → ∀ I oI C oC D m₂ h tk (E' : Value → Shared → Prop), NsObj oC m₂ → m₂ x = some (.ref a) → Fr h₀ L h m → News h₀ L h ((I, oI) :: (C, oC) :: (D, lst ys) :: news) → Off3 I C D news → ((@Ne Nat I C) ∧ (@Ne Nat I D) ∧ (@Ne Nat C D)) →
      wpAny (model prog w) A (eval elt (compEnvC scope cl C env)) (CompEnd h₀ L m { s with heap := h, toks := tk } I oI C oC D (lst ys) S (fun y news' => Inv1 n₀ id ss (i + 1) (ys ++ [y]) news')) E' { s with heap := h, toks := tk })
    (fin : ∀ ys news, (∀ p ∈ n₀, p ∈ news) → SnAre news ys ss → Fin ys news) : CompRest prog w A h₀ L m env elt x scope cl s S (fun i v => vs.toArray[i]? = some v) Fin vs.toArray.size 0 [] n₀ := by
  refine compRest_all (Inv1 n₀ id ss) vs.toArray.size (fun i ys news hi hlt v I oI C oC D m₂ h tk E' hv hC hx F N off ne => ?_) (fun ys news hi => ?_) _ 0 [] n₀ (Nat.zero_add _) Inv1.zero
  · obtain ⟨a, q, rfl, e, k⟩ := hS.get hv
    exact step i ys news a q hi.1 hi e (k.mono hi.1) I oI C oC D m₂ h tk E' hC hx F N off ne
  · obtain ⟨h1, h2⟩ := hi.fin (by rw [List.size_toArray]; exact hS.len)
    rw [List.map_id] at h2
    exact fin ys news h1 h2
theorem comp2 (hS : SnAre n₀ vs ss)
    (step : ∀ i ys news a q, (∀ p ∈ n₀, p ∈ news) → Inv1 n₀ nrm ss i ys news → ss[i]? = some q → Sn news a q → ∀ I oI C oC D m₂ h tk (E' : Value → Shared → Prop), NsObj oC m₂ → m₂ x = some (.ref a) → Fr h₀ L h m → News h₀ L h ((I, oI) :: (C, oC) :: (D, lst ys) :: news) → Off3 I C D news → ((@Ne Nat I C) ∧ (@Ne Nat I D) ∧ (@Ne Nat C D)) →
      wpAny (model prog w) A (eval elt (compEnvC scope cl C env)) (CompEnd h₀ L m { s with heap := h, toks := tk } I oI C oC D (lst ys) S (fun y news' => Inv1 n₀ nrm ss (i + 1) (ys ++ [y]) news')) E' { s with heap := h, toks := tk })
    (fin : ∀ ys news, (∀ p ∈ n₀, p ∈ news) → SnAre news ys (ss.map nrm) → Fin ys news) : CompRest prog w A h₀ L m env elt x scope cl s S (fun i v => vs.toArray[i]? = some v) Fin vs.toArray.size 0 [] n₀ := by
  refine compRest_all (Inv1 n₀ nrm ss) vs.toArray.size (fun i ys news hi hlt v I oI C oC D m₂ h tk E' hv hC hx F N off ne => ?_) (fun ys news hi => ?_) _ 0 [] n₀ (Nat.zero_add _) Inv1.zero
  · obtain ⟨a, q, rfl, e, k⟩ := hS.get hv
    exact step i ys news a q hi.1 hi e (k.mono hi.1) I oI C oC D m₂ h tk E' hC hx F N off ne
  · obtain ⟨h1, h2⟩ := hi.fin (by rw [List.size_toArray]; exact hS.len)
    exact fin ys news h1 h2
end
theorem Inv1.succ1 {n₀ n ex : List (Addr × Obj)} {ss : List Sg} {i : Nat} {ys : List Value} {y : Addr} {s : Sg} (h : Inv1 n₀ id ss i ys n) (e : ss[i]? = some s) (k : Sn (ex ++ n) y s) : Inv1 n₀ id ss (i + 1) (ys ++ [.ref y]) (ex ++ n) := h.succ e k
theorem Inv1.succ2 {n₀ n ex : List (Addr × Obj)} {ss : List Sg} {i : Nat} {ys : List Value} {y : Addr} {s : Sg} (h : Inv1 n₀ nrm ss i ys n) (e : ss[i]? = some s) (k : Sn (ex ++ n) y (minP s.1 s.2, maxP s.1 s.2)) : Inv1 n₀ nrm ss (i + 1) (ys ++ [.ref y]) (ex ++ n) := h.succ e k
theorem fin_facts {ys : List Value} {ss : List Sg} (h : ss.length = 2 ∨ ss.length = 4) (e : ys.length = ss.length) : ys.toArray.size ≤ sizeLine ∧ (ys.length : Int) ≠ 1 ∧ (ys.length : Int) < 2 ^ 63 ∧ ss ≠ [] := by
  rw [List.size_toArray, sizeLine_eq]
  refine ⟨by omega, by omega, by omega, ?_⟩
  rintro rfl
  simp at h
structure FinF (ys : List Value) (ss : List Sg) : Prop where
  h24 : ss.length = 2 ∨ ss.length = 4
  e : ys.length = ss.length
theorem FinF.sz {ys : List Value} {ss : List Sg} (h : FinF ys ss) : ys.toArray.size ≤ sizeLine := (fin_facts h.h24 h.e).1
theorem FinF.n1 {ys : List Value} {ss : List Sg} (h : FinF ys ss) : (ys.length : Int) ≠ 1 := (fin_facts h.h24 h.e).2.1
theorem FinF.n63 {ys : List Value} {ss : List Sg} (h : FinF ys ss) : (ys.length : Int) < 2 ^ 63 := (fin_facts h.h24 h.e).2.2.1
theorem FinF.nn {ys : List Value} {ss : List Sg} (h : FinF ys ss) : ss ≠ [] := (fin_facts h.h24 h.e).2.2.2
theorem FinF.m24 {ys : List Value} {ss : List Sg} (h : FinF ys ss) {g : Sg → Sg} : (ss.map g).length = 2 ∨ (ss.map g).length = 4 := by rw [List.length_map]; exact h.h24
theorem map24 {g : Sg → Sg} {ss : List Sg} (h : ss.length = 2 ∨ ss.length = 4) : (ss.map g).length = 2 ∨ (ss.map g).length = 4 := by rw [List.length_map]; exact h
theorem readsAll {n : List (Addr × Obj)} {vs : List Value} {ss : List Sg} (h : SnAre n vs ss) {h₀ : Heap} {L : Addr} {g : Heap} (N : News h₀ L g n) : ∃ as, ReadsAll g vs (ss.map sgD) as := by
  induction h with
  | nil => exact ⟨_, .nil⟩
  | cons h _ ih =>
    obtain ⟨_, r⟩ := h.rd h₀ L g N
    obtain ⟨_, rs⟩ := ih
    exact ⟨_, .cons r rs⟩
theorem rdAre {n : List (Addr × Obj)} {l : Addr} {o : Obj} {c : Nat} {vs : List Value} {ss : List Sg} (hm : (l, o) ∈ n) (hc : o.cls = .type "list") (hd : o.data = .seq vs.toArray c) (h : SnAre n vs ss) : Rd n (.ref l) (toldD ([], ss)) := fun h₀ L g N => by
  obtain ⟨_, r⟩ := readsAll h N
  exact ⟨_, Reads.list (N _ hm).1 hc hd r⟩
section
variable {prog : Program} {w : World} {A : Around} {E Q : Value → Shared → Prop} {s : Shared} {h₀ : Heap} {L : Addr} {m : Str → Option Value} {news : List (Addr × Obj)} {l k : Addr} {o : Obj} {c : Nat} {vs : List Value} {ss : List Sg}
theorem eq_nil_ne (N : News h₀ L s.heap news) (hu : A.units + 64 < cLine) (hS : SnAre news vs ss) (h0 : ss ≠ []) (hm : (l, ({ cls := .type "list", data := .seq vs.toArray c } : Obj)) ∈ news) (hk : (k, o) ∈ news) (hc : o.cls = .type "list") (hd : o.data = .seq #[] c') (h : Q (.bool false) s) : wpAny (model prog w) A (compareOp .Eq (.ref l) (.ref k)) Q E s := by
  obtain ⟨_, ra⟩ := rdAre hm rfl rfl hS h₀ L _ N
  obtain ⟨_, rb⟩ := rd0 hk hc hd h₀ L _ N
  refine eq_dataH ra rb (shaped_told ([], ss)) (shaped_told ([], [])) hu ?_
  cases ss with
  | nil => exact absurd rfl h0
  | cons a r => exact h
end
section
variable {prog : Program} {w : World} {A : Around} {E Q : Value → Shared → Prop} {s : Shared} {h₀ : Heap} {L : Addr} {m : Str → Option Value} {news : List (Addr × Obj)} {l : Addr} {c : Nat} {vs : List Value} {ss : List Sg}
theorem snAre_nil (hS : SnAre news vs ss) (e : ss.length = 0) : vs = [] ∧ ss = [] := by
  cases hS with
  | nil => exact ⟨rfl, rfl⟩
  | cons => exact absurd e (Nat.succ_ne_zero _)
theorem snAre_cons {n : Nat} (hS : SnAre news vs ss) (e : ss.length = n + 1) : ∃ a s vs' ss', vs = .ref a :: vs' ∧ ss = s :: ss' ∧ Sn news a s ∧ SnAre news vs' ss' ∧ ss'.length = n := by
  cases hS with
  | nil => exact absurd e.symm (Nat.succ_ne_zero _)
  | cons h t => exact ⟨_, _, _, _, rfl, rfl, h, t, Nat.succ.inj e⟩
theorem snAre2 (hS : SnAre news vs ss) (e : ss.length = 2) : ∃ a1 a2 s1 s2, vs = [.ref a1, .ref a2] ∧ ss = [s1, s2] ∧ Sn news a1 s1 ∧ Sn news a2 s2 := by
  obtain ⟨a1, s1, v1, t1, rfl, rfl, h1, k1, e1⟩ := snAre_cons hS e
  obtain ⟨a2, s2, v2, t2, rfl, rfl, h2, k2, e2⟩ := snAre_cons k1 e1
  obtain ⟨rfl, rfl⟩ := snAre_nil k2 e2
  exact ⟨a1, a2, s1, s2, rfl, rfl, h1, h2⟩
theorem snAre4 (hS : SnAre news vs ss) (e : ss.length = 4) : ∃ a1 a2 a3 a4 s1 s2 s3 s4, vs = [.ref a1, .ref a2, .ref a3, .ref a4] ∧ ss = [s1, s2, s3, s4] ∧ Sn news a1 s1 ∧ Sn news a2 s2 ∧ Sn news a3 s3 ∧ Sn news a4 s4 := by
  obtain ⟨a1, s1, v1, t1, rfl, rfl, h1, k1, e1⟩ := snAre_cons hS e
  obtain ⟨a2, s2, v2, t2, rfl, rfl, h2, k2, e2⟩ := snAre_cons k1 e1
  obtain ⟨a3, s3, v3, t3, rfl, rfl, h3, k3, e3⟩ := snAre_cons k2 e2
  obtain ⟨a4, s4, v4, t4, rfl, rfl, h4, k4, e4⟩ := snAre_cons k3 e3
  obtain ⟨rfl, rfl⟩ := snAre_nil k4 e4
  exact ⟨a1, a2, a3, a4, s1, s2, s3, s4, rfl, rfl, h1, h2, h3, h4⟩
theorem sortedA_led (F : Fr h₀ L s.heap m) (N : News h₀ L s.heap news) (hm : (l, ({ cls := .type "list", data := .seq vs.toArray c } : Obj)) ∈ news) (hS : SnAre news vs ss) (h24 : ss.length = 2 ∨ ss.length = 4) (hu : A.units + 8 < cLine)
    (h : ∀ D c ws qs h', Fr h₀ L h' m → News h₀ L h' ((D, listOf (List.toArray ws) c) :: news) → SnAre news ws qs → srtS ss = qs → Q (.ref D) { s with heap := h' }) :
    wpAny (model prog w) A (call (.builtin "sorted") [.ref l]) Q E s := by
  rcases h24 with e | e
  · obtain ⟨a1, a2, s1, s2, rfl, rfl, h1, h2⟩ := snAre2 hS e
    exact sorted2_led F N hm rfl rfl h1 h2 hu fun D c b0 b1 q0 q1 h' F' N' _ P0 P1 hs => h D c [.ref b0, .ref b1] [q0, q1] h' F' N' (.cons P0 (.cons P1 .nil)) hs
  · obtain ⟨a1, a2, a3, a4, s1, s2, s3, s4, rfl, rfl, h1, h2, h3, h4⟩ := snAre4 hS e
    exact sorted4s_led F N hm rfl rfl h1 h2 h3 h4 hu fun D c b0 b1 b2 b3 q0 q1 q2 q3 h' F' N' _ P0 P1 P2 P3 hs => h D c [.ref b0, .ref b1, .ref b2, .ref b3] [q0, q1, q2, q3] h' F' N' (.cons P0 (.cons P1 (.cons P2 (.cons P3 .nil)))) hs
theorem len_led (N : News h₀ L s.heap news) (hm : (l, ({ cls := .type "list", data := .seq vs.toArray c } : Obj)) ∈ news) (hz : (vs.length : Int) < 2 ^ 63) (h : Q (.int vs.length (s.toks + 1)) { s with toks := s.toks + 1 + 1 }) : wpAny (model prog w) A (call (.builtin "len") [.ref l]) Q E s :=
  PyProof.Rows.len_list (N.isList hm) (by rw [List.size_toArray]; exact hz) (by rw [List.size_toArray]; exact h)
theorem eqi_false {x y : Int} {t u : Tok} (hne : x ≠ y) (h : Q (.bool false) s) : wpAny (model prog w) A (compareOp .Eq (.int x t) (.int y u)) Q E s := eq_int (by rw [beq_false_of_ne hne]; exact h)
end
end
section
open PySem PySem.W PyProof.Rows PySem.Calls PySem.Spec
set_option Elab.async false
set_option maxRecDepth 100000
set_option maxHeartbeats 8000000
theorem set_W28 : True := by
  k_with_none
  k_with "my MEM" => first | ktr_member | with_reducible exact List.mem_cons_self | (with_reducible refine' List.mem_cons_of_mem _ ?_; k_extra "my MEM") | (with_reducible refine' List.mem_append_right _ ?_; k_extra "my MEM") | (with_reducible refine' List.mem_append_left _ ?_; k_extra "my MEM")
  k_with "my CELL" => (refine' code_def ?qcellk1 ?qcellk2 ?qcellk3 ?qcellk4 ?qcellk5 ?qcellkA ?qcellkF ?qcellkK ?qcellk6 ?qcellk7 ?qcellk8 ?qcellk9 ?qcellkB ?_ ?qcellc2 ?qcellc3 ?qcellc4 ?qcellc5; (case qcellkA => exact rfl); (case qcellkF => exact rfl); (case qcellkK => first | assumption | exact rfl); (case qcellk1 => k_asm); (case qcellk2 => k_asm); (case qcellk3 => k_asm); (case qcellk4 => k_asm); (case qcellk5 => k_asm); (case qcellk6 => k_is); (case qcellk7 => k_is); (case qcellk8 => ktr_room); (case qcellk9 => first | exact BindsTo.of_eq rfl | exact binds_K (by k_in) rfl (by k_is) rfl rfl rfl); (case qcellc5 => decide); (case qcellkB => exact locs rfl); (case qcellc2 => exact rfl); (case qcellc3 => exact rfl); (case qcellc4 => exact rfl); k_whole; intro g' L' h' FG' F' N' B' X' T'; (try dsimp only); (try k_lift B'); (try k_fold))
  k_with "my testChain" => first | with_reducible refine test_link ?_ | with_reducible refine test_last ?_ | with_unfolding_all refine test_link ?_ | with_unfolding_all refine test_last ?_
  k_with "my SUB" => (intro x hx; first | exact hx | (simp only [List.mem_append, List.mem_cons, hx, true_or, or_true]; done) | (simp only [List.mem_append, List.mem_cons] at hx ⊢; simp_all; done))
  k_with "my PO" => first | assumption | exact Po.mono (by assumption) (by k_extra "my SUB")
  k_with "my CTX" => ((case q9B => k_asm); (case q9F => k_asm); (case q9X => k_asm); (case q9N => k_asm); (case q9T => k_asm); (case q9K => first | assumption | exact rfl); (case q9d => ktr_room); (case q9u => ktr_units))
  k_with "my getAttr ref" => (k_here; (with_reducible show wpAny _ _ (getAttr (Value.ref _) (PySem.Str.ofString "x") _) _ _ _); k_dflt (refine' getx _ ?q9B ?q9F ?q9X ?q9N ?q9T ?q9K ?q9d ?q9u ?q605wp ?_; k_extra "my CTX"; (case q605wp => k_extra "my PO"); k_whole; intro t' h' tk' F' N'; (try k_sweep)))
  k_with "my getAttr ref" => (k_here; (with_reducible show wpAny _ _ (getAttr (Value.ref _) (PySem.Str.ofString "y") _) _ _ _); k_dflt (refine' gety _ ?q9B ?q9F ?q9X ?q9N ?q9T ?q9K ?q9d ?q9u ?q606wp ?_; k_extra "my CTX"; (case q606wp => k_extra "my PO"); k_whole; intro t' h' tk' F' N'; (try k_sweep)))
  k_with "my call ref" => (k_here; (with_reducible show wpAny _ _ (call (Value.ref 364) [_, _, _, _]) _ _ _); k_dflt (refine' k_angle _ ?q9B ?q9F ?q9X ?q9N ?q9T ?q9K ?q9d ?q9u ?q607wp1 ?q607wp2 ?q607wp3 ?q607wb1 ?q607wb2 ?q607wb3 ?_; k_extra "my CTX"; (case q607wp1 => k_extra "my PO"); (case q607wp2 => k_extra "my PO"); (case q607wp3 => k_extra "my PO"); (case q607wb1 => k_extra "my BP"); (case q607wb2 => k_extra "my BP"); (case q607wb3 => k_extra "my BP"); k_whole; intro h' tk' F' N'; (try k_sweep)))
  k_with "my BP" => first | assumption | exact Bp.min (by assumption) (by assumption) | exact Bp.max (by assumption) (by assumption)
  k_with "my call builtin:min" => (k_here; (with_reducible show wpAny _ _ (call (Value.builtin "min") [Value.ref _, Value.ref _]) _ _ _); k_dflt (refine' min2_po ?q609whh ?q609wF ?q609wX ?q609wN ?q609wu ?q609wp1 ?q609wp2 ?_; (case q609whh => exact rfl); (case q609wF => k_asm); (case q609wX => k_asm); (case q609wN => k_asm); (case q609wu => ktr_units); (case q609wp1 => k_extra "my PO"); (case q609wp2 => k_extra "my PO"); k_whole; intro c' h' tk' F' N' P'; (try k_sweep)))
  k_with "my call builtin:max" => (k_here; (with_reducible show wpAny _ _ (call (Value.builtin "max") [Value.ref _, Value.ref _]) _ _ _); k_dflt (refine' max2_po ?q610whh ?q610wF ?q610wX ?q610wN ?q610wu ?q610wp1 ?q610wp2 ?_; (case q610whh => exact rfl); (case q610wF => k_asm); (case q610wX => k_asm); (case q610wN => k_asm); (case q610wu => ktr_units); (case q610wp1 => k_extra "my PO"); (case q610wp2 => k_extra "my PO"); k_whole; intro c' h' tk' F' N' P'; (try k_sweep)))
  k_with "my compareOp Eq ref ref" => (k_here; k_dflt (refine' eq_po ?q611wF ?q611wX ?q611wN ?q611wu ?q611wp1 ?q611wp2 ?_; (case q611wF => k_asm); (case q611wX => k_asm); (case q611wN => k_asm); (case q611wp1 => k_extra "my PO"); (case q611wp2 => k_extra "my PO"); (case q611wu => ktr_units); k_whole))
  k_with "my compareOp NotEq ref ref" => (k_here; k_dflt (refine' ne_po ?q612wF ?q612wX ?q612wN ?q612wu ?q612wp1 ?q612wp2 ?_; (case q612wF => k_asm); (case q612wX => k_asm); (case q612wN => k_asm); (case q612wp1 => k_extra "my PO"); (case q612wp2 => k_extra "my PO"); (case q612wu => ktr_units); k_whole))
  k_with "my compareOp Lt ref ref" => (k_here; k_dflt (refine' lt_po ?q613wF ?q613wX ?q613wN ?q613wu ?q613wp1 ?q613wp2 ?_; (case q613wF => k_asm); (case q613wX => k_asm); (case q613wN => k_asm); (case q613wp1 => k_extra "my PO"); (case q613wp2 => k_extra "my PO"); (case q613wu => ktr_units); k_whole))
  k_with "my compareOp LtE ref ref" => (k_here; k_dflt (refine' le_po ?q614wF ?q614wX ?q614wN ?q614wu ?q614wp1 ?q614wp2 ?_; (case q614wF => k_asm); (case q614wX => k_asm); (case q614wN => k_asm); (case q614wp1 => k_extra "my PO"); (case q614wp2 => k_extra "my PO"); (case q614wu => ktr_units); k_whole))
  k_with "my compareOp Is ref ref" => (k_here; (first | (with_reducible refine' is_ori_col ?q615wF ?q615wX ?_) | (with_reducible refine' is_ori ?q615wF ?q615wX ?_)); (case q615wF => k_asm); (case q615wX => k_asm); k_whole)
  k_with "my SO" => first | assumption | exact So.mono (by assumption) (by k_extra "my SUB")
  k_with "my call builtin:sorted" => (k_here; (with_reducible show wpAny _ _ (call (Value.builtin "sorted") [Value.ref _]) _ _ _); k_dflt (refine' sorted4_led ?q617wF ?q617wX ?q617wN ?q617whm ?q617whc ?q617whd ?q617wh0 ?q617wh1 ?q617wh2 ?q617wh3 ?q617wu ?_; (case q617wF => k_asm); (case q617wX => k_asm); (case q617wN => k_asm); (case q617whm => k_mem); (case q617whc => exact rfl); (case q617whd => exact rfl); (case q617wh0 => k_extra "my PO"); (case q617wh1 => k_extra "my PO"); (case q617wh2 => k_extra "my PO"); (case q617wh3 => k_extra "my PO"); (case q617wu => ktr_units); k_whole; intro D' c' b0' b1' b2' b3' q0' q1' q2' q3' h' F' N' l1 P0' P1' P2' P3' hsrt; (try k_sweep)))
  k_with "my call ref" => (k_here; (with_reducible show wpAny _ _ (call (Value.ref 322) [_, _, _]) _ _ _); k_dflt (refine' k_seg _ ?q9B ?q9F ?q9X ?q9N ?q9T ?q9K ?q9d ?q9u ?q618wp1 ?q618wp2 ?_; k_extra "my CTX"; (case q618wp1 => k_extra "my PO"); (case q618wp2 => k_extra "my PO"); k_whole; intro nw' r' h' tk' F' N' S'; (try k_sweep)))
  k_with "my call ref" => (k_here; (with_reducible show wpAny _ _ (call (Value.ref 329) [_, _]) _ _ _); k_dflt (refine' k_mseg _ ?q9B ?q9F ?q9X ?q9N ?q9T ?q9K ?q9d ?q9u ?_; k_extra "my CTX"; k_whole; intro nw' r' h' tk' F' N' S'; (try k_sweep)))
  k_with "my call ref" => (k_here; (with_reducible show wpAny _ _ (call (Value.ref 336) [_, _]) _ _ _); k_dflt (refine' k_mpt _ ?q9B ?q9F ?q9X ?q9N ?q9T ?q9K ?q9d ?q9u ?_; k_extra "my CTX"; k_whole; intro nw' r' h' tk' F' N' S'; (try k_sweep)))
  k_with "my NX" => first | exact List.forall_mem_nil _ | refine List.forall_mem_cons.mpr ⟨⟨by k_ne, by k_ne, by k_ne⟩, by k_extra "my NX"⟩
  k_with "my CompEnd" => first
    | (refine' comp_end [_, _, _] ?q622wF ?q622wN ?q622woff ?q622wnx ?q622wsrc ?_; (case q622wF => assumption); (case q622wN => assumption); (case q622woff => assumption); (case q622wnx => k_extra "my NX"); (case q622wsrc => lcg_src))
    | (refine' comp_end [_, _] ?q622wF ?q622wN ?q622woff ?q622wnx ?q622wsrc ?_; (case q622wF => assumption); (case q622wN => assumption); (case q622woff => assumption); (case q622wnx => k_extra "my NX"); (case q622wsrc => lcg_src))
    | (refine' comp_end [_] ?q622wF ?q622wN ?q622woff ?q622wnx ?q622wsrc ?_; (case q622wF => assumption); (case q622wN => assumption); (case q622woff => assumption); (case q622wnx => k_extra "my NX"); (case q622wsrc => lcg_src))
  k_with "my CompRest" => (with_unfolding_all first
    | (refine LCg.CompRest.succ ?_; intro v' I' oI' C' oC' D' m' h' tk' E' hv' hC' hx' F' N' off' ne'; (have off9 := off'); (first | lcg_open hv' | (obtain ⟨t9', hv9'⟩ := hv'; subst hv9')); (try simp only [LCg.Off3, and_true] at off'))
    | refine LCg.CompRest.zero ?_)
  k_with "my PN" => first | assumption | exact Pn.mono (by assumption) (by k_extra "my SUB") | exact ⟨_, _, _, _, by k_mem, rfl, rfl⟩ | exact PnSel.get (by assumption) (by k_extra "my PN") (by k_extra "my PN")
  k_with "my SN" => first | assumption | exact Sn.mono (by assumption) (by k_extra "my SUB") | exact ⟨_, _, _, _, by k_mem, rfl, rfl, by k_extra "my PN", by k_extra "my PN"⟩
  k_with "my call builtin:min" => (k_here; (with_reducible show wpAny _ _ (call (Value.builtin "min") [Value.ref _]) _ _ _); k_dflt (refine' min_it_pn ?q626whh ?q626wF ?q626wN ?q626wu ?q626whm ?q626whc ?q626whd ?q626wp1 ?q626wp2 ?_; (case q626whh => exact rfl); (case q626wF => k_asm); (case q626wN => k_asm); (case q626whm => k_mem); (case q626whc => exact rfl); (case q626whd => exact rfl); (case q626wu => ktr_units); (case q626wp1 => k_extra "my PN"); (case q626wp2 => k_extra "my PN"); k_whole; intro c' h' tk' F' N' P'; (try k_sweep)))
  k_with "my call builtin:max" => (k_here; (with_reducible show wpAny _ _ (call (Value.builtin "max") [Value.ref _]) _ _ _); k_dflt (refine' max_it_pn ?q627whh ?q627wF ?q627wN ?q627wu ?q627whm ?q627whc ?q627whd ?q627wp1 ?q627wp2 ?_; (case q627whh => exact rfl); (case q627wF => k_asm); (case q627wN => k_asm); (case q627whm => k_mem); (case q627whc => exact rfl); (case q627whd => exact rfl); (case q627wu => ktr_units); (case q627wp1 => k_extra "my PN"); (case q627wp2 => k_extra "my PN"); k_whole; intro c' h' tk' F' N' P'; (try k_sweep)))
  k_with "my call builtin:sorted" => (k_here; (with_reducible show wpAny _ _ (call (Value.builtin "sorted") [Value.ref _]) _ _ _); k_dflt (refine' sorted1_led ?q628wF ?q628wN ?q628whm ?q628whc ?q628whd ?_; (case q628wF => k_asm); (case q628wN => k_asm); (case q628whm => k_mem); (case q628whc => exact rfl); (case q628whd => exact rfl); k_whole; intro D' c' h' F' N' l1; (try k_sweep)))
  k_with "my call builtin:sorted" => (k_here; (with_reducible show wpAny _ _ (call (Value.builtin "sorted") [Value.ref _]) _ _ _); k_dflt (refine' sorted2_led ?q629wF ?q629wN ?q629whm ?q629whc ?q629whd ?q629wh0 ?q629wh1 ?q629wu ?_; (case q629wF => k_asm); (case q629wN => k_asm); (case q629whm => k_mem); (case q629whc => exact rfl); (case q629whd => exact rfl); (case q629wh0 => k_extra "my SN"); (case q629wh1 => k_extra "my SN"); (case q629wu => ktr_units); k_whole; intro D' c' b0' b1' q0' q1' h' F' N' l1 P0' P1' hsrt; (try k_sweep)))
  k_with "my call builtin:sorted" => (k_here; (with_reducible show wpAny _ _ (call (Value.builtin "sorted") [Value.ref _]) _ _ _); k_dflt (refine' sorted4s_led ?q630wF ?q630wN ?q630whm ?q630whc ?q630whd ?q630wh0 ?q630wh1 ?q630wh2 ?q630wh3 ?q630wu ?_; (case q630wF => k_asm); (case q630wN => k_asm); (case q630whm => k_mem); (case q630whc => exact rfl); (case q630whd => exact rfl); (case q630wh0 => k_extra "my SN"); (case q630wh1 => k_extra "my SN"); (case q630wh2 => k_extra "my SN"); (case q630wh3 => k_extra "my SN"); (case q630wu => ktr_units); k_whole; intro D' c' b0' b1' b2' b3' q0' q1' q2' q3' h' F' N' l1 P0' P1' P2' P3' hsrt; (try k_sweep)))
  k_with "my RETRD" => (refine' ret_rd ?q631wF ?q631wN ?q631wS ?_; (case q631wF => k_asm); (case q631wN => k_asm); (case q631wS => k_extra "my SUB"))
  k_with "my RI" => first | exact Sn.rd (by k_extra "my SN") | exact Pn.rd (by k_extra "my PN")
  k_with "my RD" => first
    | (refine' rd0 ?q633wa ?q633wb ?q633wc; (case q633wa => k_mem); (case q633wb => exact rfl); (case q633wc => exact rfl))
    | (refine' rd1 ?q633wa ?q633wb ?q633wc ?q633wd; (case q633wa => k_mem); (case q633wb => exact rfl); (case q633wc => exact rfl); (case q633wd => k_extra "my RI"))
    | (refine' rd2 ?q633wa ?q633wb ?q633wc ?q633wd ?q633we; (case q633wa => k_mem); (case q633wb => exact rfl); (case q633wc => exact rfl); (case q633wd => k_extra "my RI"); (case q633we => k_extra "my RI"))
    | (refine' rd4 ?q633wa ?q633wb ?q633wc ?q633wd ?q633we ?q633wf ?q633wg; (case q633wa => k_mem); (case q633wb => exact rfl); (case q633wc => exact rfl); (case q633wd => k_extra "my RI"); (case q633we => k_extra "my RI"); (case q633wf => k_extra "my RI"); (case q633wg => k_extra "my RI"))
  k_with "my exec Assign" => (k_fold)
  k_with "my exec If" => (k_fold)
  k_with "my eval BinOp" => (k_fold)
  k_with "my eval Tuple" => (k_fold)
  k_with "my eval Call" => (k_fold)
  k_with "my eval Call Attribute" => (k_fold)
  k_with "my storeName" => (k_here; k_dflt (refine' storeL ?q640wF ?q640wN ?_ ?q640wa ?q640wb; (case q640wF => k_asm); (case q640wN => k_asm); (case q640wa => rfl); (case q640wb => rfl); k_whole; intro m' h' tk' F' N'; (try k_sweep)))
  k_with "my eval Name" => (k_here; k_dflt (refine' nameL ?q641wF ?q641wv ?_ ?q641wok ?q641whl; (case q641wF => k_asm); (case q641whl => rfl); (case q641wok => rfl); (case q641wv => rfl); k_whole))
  k_with "my eval Attribute Name" => (k_here; k_dflt (refine' attrL ?q642wF ?q642wv ?_ ?q642wok ?q642whl; (case q642wF => k_asm); (case q642whl => rfl); (case q642wok => rfl); (case q642wv => rfl); k_whole))
  k_with "my spliced" => (k_here; k_dflt (first
    | ((with_reducible refine' argLL ?q643wF ?q643wv ?q643wu ?_ ?q643wok ?q643woj ?q643whl); (case q643wF => k_asm); (case q643whl => rfl); (case q643wok => rfl); (case q643woj => rfl); (case q643wv => rfl); (case q643wu => rfl); k_whole)
    | ((with_reducible refine' argL1 ?q643wF ?q643wv ?_ ?q643wok ?q643whl); (case q643wF => k_asm); (case q643whl => rfl); (case q643wok => rfl); (case q643wv => rfl); k_whole)
    | ((with_reducible refine' argL ?q643wF ?q643wv ?_ ?q643wok ?q643whl); (case q643wF => k_asm); (case q643whl => rfl); (case q643wok => rfl); (case q643wv => rfl); k_whole)))
  k_with "my eval Call Attribute" => (k_here; k_dflt (refine' methL ?q644wF ?q644wv ?_ ?q644wok ?q644whl ?q644whe; (case q644wF => k_asm); (case q644whl => rfl); (case q644wok => rfl); (case q644wv => rfl); (case q644whe => rfl); k_whole))
  k_with "my isTrue Compare" => (k_here; k_dflt (first
    | ((with_reducible refine' cmpLL ?q645wF ?q645wv ?q645wu ?_ ?q645wok ?q645woj ?q645whl ?q645whm); (case q645wF => k_asm); (case q645whl => rfl); (case q645wok => rfl); (case q645woj => rfl); (case q645whm => with_unfolding_all rfl); (case q645wv => rfl); (case q645wu => rfl); k_whole)
    | ((with_reducible refine' cmpL ?q645wF ?q645wv ?_ ?q645wok ?q645whl ?q645whm); (case q645wF => k_asm); (case q645whl => rfl); (case q645wok => rfl); (case q645whm => with_unfolding_all rfl); (case q645wv => rfl); k_whole)))
  trivial
theorem k_told0 (w : World) {dp un : Nat} {gd : Option (List Code)} {cn : Str} {cs : Scope} {a : Addr} {ccd : Value} {cl : List (Str × Addr)} {outer : List Env} {A₀ : Around} {base h₀ : Heap} {L : Addr} {m : Str → Option Value}
    {pr : Program} {loose : List Str} {mean : ExcName → Option Value} {mg mb : Str → Option Value} {s : Shared} {Q E : Value → Shared → Prop} {news : List (Addr × Obj)} {cx : Addr}
    (B : Below A₀ base outer h₀) (F : Fr h₀ L s.heap m) (X : (Mine.k0.heap_1_39 w.params).In h₀) (N : News h₀ L s.heap news) (T : Top pr loose mean mg mb h₀) (hcs : cs.kind = .function) (hd : dp + 20 < recursionLimit) (hu : un + 160 < cLine)
    (hc : Cx news cx)
    (hret : ∀ (nw : List (Addr × Obj)) (v : Value) (h' : Heap) (tk' : Nat), Fr h₀ L h' m → News h₀ L h' (nw ++ news) → Rd (nw ++ news) v (toldD (toldF (.empty))) → Q v { s with heap := h', toks := tk' }) :
    wpAny (model PySem.Challenge.rw_ix0019_01.prog w) (ktrTop dp un gd cn cs L a ccd cl outer) (call (.ref 467) [.ref 307, .ref cx]) Q E s := by
  revert X
  k_fill
  intro X
  refine Cx.elim hc ?_; clear hc; intro dc kc mc1 mc2
  refine wpAny_call ?_
  k_dflt cell_enter
  k_steps
  all_goals refine (fun z : ∃ nw, Fr h₀ L _ m ∧ News h₀ L _ (nw ++ news) ∧ Rd (nw ++ news) _ _ => z.elim fun nw z => hret nw _ _ _ z.1 z.2.1 z.2.2) ?_
  all_goals walk_at "RETRD"
  all_goals (show Rd _ _ (.list []); walk_at "RD")
end
section
open PySem PySem.W PyProof.Rows PySem.Calls PySem.Spec
set_option Elab.async false
set_option maxRecDepth 100000
set_option maxHeartbeats 8000000
theorem set_W29 : True := by
  k_with_none
  k_with "my MEM" => first | ktr_member | with_reducible exact List.mem_cons_self | (with_reducible refine' List.mem_cons_of_mem _ ?_; k_extra "my MEM") | (with_reducible refine' List.mem_append_right _ ?_; k_extra "my MEM") | (with_reducible refine' List.mem_append_left _ ?_; k_extra "my MEM")
  k_with "my CELL" => (refine' code_def ?qcellk1 ?qcellk2 ?qcellk3 ?qcellk4 ?qcellk5 ?qcellkA ?qcellkF ?qcellkK ?qcellk6 ?qcellk7 ?qcellk8 ?qcellk9 ?qcellkB ?_ ?qcellc2 ?qcellc3 ?qcellc4 ?qcellc5; (case qcellkA => exact rfl); (case qcellkF => exact rfl); (case qcellkK => first | assumption | exact rfl); (case qcellk1 => k_asm); (case qcellk2 => k_asm); (case qcellk3 => k_asm); (case qcellk4 => k_asm); (case qcellk5 => k_asm); (case qcellk6 => k_is); (case qcellk7 => k_is); (case qcellk8 => ktr_room); (case qcellk9 => first | exact BindsTo.of_eq rfl | exact binds_K (by k_in) rfl (by k_is) rfl rfl rfl); (case qcellc5 => decide); (case qcellkB => exact locs rfl); (case qcellc2 => exact rfl); (case qcellc3 => exact rfl); (case qcellc4 => exact rfl); k_whole; intro g' L' h' FG' F' N' B' X' T'; (try dsimp only); (try k_lift B'); (try k_fold))
  k_with "my testChain" => first | with_reducible refine test_link ?_ | with_reducible refine test_last ?_ | with_unfolding_all refine test_link ?_ | with_unfolding_all refine test_last ?_
  k_with "my SUB" => (intro x hx; first | exact hx | (simp only [List.mem_append, List.mem_cons, hx, true_or, or_true]; done) | (simp only [List.mem_append, List.mem_cons] at hx ⊢; simp_all; done))
  k_with "my PO" => first | assumption | exact Po.mono (by assumption) (by k_extra "my SUB")
  k_with "my CTX" => ((case q9B => k_asm); (case q9F => k_asm); (case q9X => k_asm); (case q9N => k_asm); (case q9T => k_asm); (case q9K => first | assumption | exact rfl); (case q9d => ktr_room); (case q9u => ktr_units))
  k_with "my getAttr ref" => (k_here; (with_reducible show wpAny _ _ (getAttr (Value.ref _) (PySem.Str.ofString "x") _) _ _ _); k_dflt (refine' getx _ ?q9B ?q9F ?q9X ?q9N ?q9T ?q9K ?q9d ?q9u ?q650wp ?_; k_extra "my CTX"; (case q650wp => k_extra "my PO"); k_whole; intro t' h' tk' F' N'; (try k_sweep)))
  k_with "my getAttr ref" => (k_here; (with_reducible show wpAny _ _ (getAttr (Value.ref _) (PySem.Str.ofString "y") _) _ _ _); k_dflt (refine' gety _ ?q9B ?q9F ?q9X ?q9N ?q9T ?q9K ?q9d ?q9u ?q651wp ?_; k_extra "my CTX"; (case q651wp => k_extra "my PO"); k_whole; intro t' h' tk' F' N'; (try k_sweep)))
  k_with "my call ref" => (k_here; (with_reducible show wpAny _ _ (call (Value.ref 364) [_, _, _, _]) _ _ _); k_dflt (refine' k_angle _ ?q9B ?q9F ?q9X ?q9N ?q9T ?q9K ?q9d ?q9u ?q652wp1 ?q652wp2 ?q652wp3 ?q652wb1 ?q652wb2 ?q652wb3 ?_; k_extra "my CTX"; (case q652wp1 => k_extra "my PO"); (case q652wp2 => k_extra "my PO"); (case q652wp3 => k_extra "my PO"); (case q652wb1 => k_extra "my BP"); (case q652wb2 => k_extra "my BP"); (case q652wb3 => k_extra "my BP"); k_whole; intro h' tk' F' N'; (try k_sweep)))
  k_with "my BP" => first | assumption | exact Bp.min (by assumption) (by assumption) | exact Bp.max (by assumption) (by assumption)
  k_with "my call builtin:min" => (k_here; (with_reducible show wpAny _ _ (call (Value.builtin "min") [Value.ref _, Value.ref _]) _ _ _); k_dflt (refine' min2_po ?q654whh ?q654wF ?q654wX ?q654wN ?q654wu ?q654wp1 ?q654wp2 ?_; (case q654whh => exact rfl); (case q654wF => k_asm); (case q654wX => k_asm); (case q654wN => k_asm); (case q654wu => ktr_units); (case q654wp1 => k_extra "my PO"); (case q654wp2 => k_extra "my PO"); k_whole; intro c' h' tk' F' N' P'; (try k_sweep)))
  k_with "my call builtin:max" => (k_here; (with_reducible show wpAny _ _ (call (Value.builtin "max") [Value.ref _, Value.ref _]) _ _ _); k_dflt (refine' max2_po ?q655whh ?q655wF ?q655wX ?q655wN ?q655wu ?q655wp1 ?q655wp2 ?_; (case q655whh => exact rfl); (case q655wF => k_asm); (case q655wX => k_asm); (case q655wN => k_asm); (case q655wu => ktr_units); (case q655wp1 => k_extra "my PO"); (case q655wp2 => k_extra "my PO"); k_whole; intro c' h' tk' F' N' P'; (try k_sweep)))
  k_with "my compareOp Eq ref ref" => (k_here; k_dflt (refine' eq_po ?q656wF ?q656wX ?q656wN ?q656wu ?q656wp1 ?q656wp2 ?_; (case q656wF => k_asm); (case q656wX => k_asm); (case q656wN => k_asm); (case q656wp1 => k_extra "my PO"); (case q656wp2 => k_extra "my PO"); (case q656wu => ktr_units); k_whole))
  k_with "my compareOp NotEq ref ref" => (k_here; k_dflt (refine' ne_po ?q657wF ?q657wX ?q657wN ?q657wu ?q657wp1 ?q657wp2 ?_; (case q657wF => k_asm); (case q657wX => k_asm); (case q657wN => k_asm); (case q657wp1 => k_extra "my PO"); (case q657wp2 => k_extra "my PO"); (case q657wu => ktr_units); k_whole))
  k_with "my compareOp Lt ref ref" => (k_here; k_dflt (refine' lt_po ?q658wF ?q658wX ?q658wN ?q658wu ?q658wp1 ?q658wp2 ?_; (case q658wF => k_asm); (case q658wX => k_asm); (case q658wN => k_asm); (case q658wp1 => k_extra "my PO"); (case q658wp2 => k_extra "my PO"); (case q658wu => ktr_units); k_whole))
  k_with "my compareOp LtE ref ref" => (k_here; k_dflt (refine' le_po ?q659wF ?q659wX ?q659wN ?q659wu ?q659wp1 ?q659wp2 ?_; (case q659wF => k_asm); (case q659wX => k_asm); (case q659wN => k_asm); (case q659wp1 => k_extra "my PO"); (case q659wp2 => k_extra "my PO"); (case q659wu => ktr_units); k_whole))
  k_with "my compareOp Is ref ref" => (k_here; (first | (with_reducible refine' is_ori_col ?q660wF ?q660wX ?_) | (with_reducible refine' is_ori ?q660wF ?q660wX ?_)); (case q660wF => k_asm); (case q660wX => k_asm); k_whole)
  k_with "my SO" => first | assumption | exact So.mono (by assumption) (by k_extra "my SUB")
  k_with "my call builtin:sorted" => (k_here; (with_reducible show wpAny _ _ (call (Value.builtin "sorted") [Value.ref _]) _ _ _); k_dflt (refine' sorted4_led ?q662wF ?q662wX ?q662wN ?q662whm ?q662whc ?q662whd ?q662wh0 ?q662wh1 ?q662wh2 ?q662wh3 ?q662wu ?_; (case q662wF => k_asm); (case q662wX => k_asm); (case q662wN => k_asm); (case q662whm => k_mem); (case q662whc => exact rfl); (case q662whd => exact rfl); (case q662wh0 => k_extra "my PO"); (case q662wh1 => k_extra "my PO"); (case q662wh2 => k_extra "my PO"); (case q662wh3 => k_extra "my PO"); (case q662wu => ktr_units); k_whole; intro D' c' b0' b1' b2' b3' q0' q1' q2' q3' h' F' N' l1 P0' P1' P2' P3' hsrt; (try k_sweep)))
  k_with "my call ref" => (k_here; (with_reducible show wpAny _ _ (call (Value.ref 322) [_, _, _]) _ _ _); k_dflt (refine' k_seg _ ?q9B ?q9F ?q9X ?q9N ?q9T ?q9K ?q9d ?q9u ?q663wp1 ?q663wp2 ?_; k_extra "my CTX"; (case q663wp1 => k_extra "my PO"); (case q663wp2 => k_extra "my PO"); k_whole; intro nw' r' h' tk' F' N' S'; (try k_sweep)))
  k_with "my call ref" => (k_here; (with_reducible show wpAny _ _ (call (Value.ref 329) [_, _]) _ _ _); k_dflt (refine' k_mseg _ ?q9B ?q9F ?q9X ?q9N ?q9T ?q9K ?q9d ?q9u ?_; k_extra "my CTX"; k_whole; intro nw' r' h' tk' F' N' S'; (try k_sweep)))
  k_with "my call ref" => (k_here; (with_reducible show wpAny _ _ (call (Value.ref 336) [_, _]) _ _ _); k_dflt (refine' k_mpt _ ?q9B ?q9F ?q9X ?q9N ?q9T ?q9K ?q9d ?q9u ?_; k_extra "my CTX"; k_whole; intro nw' r' h' tk' F' N' S'; (try k_sweep)))
  k_with "my NX" => first | exact List.forall_mem_nil _ | refine List.forall_mem_cons.mpr ⟨⟨by k_ne, by k_ne, by k_ne⟩, by k_extra "my NX"⟩
  k_with "my CompEnd" => first
    | (refine' comp_end [_, _, _] ?q667wF ?q667wN ?q667woff ?q667wnx ?q667wsrc ?_; (case q667wF => assumption); (case q667wN => assumption); (case q667woff => assumption); (case q667wnx => k_extra "my NX"); (case q667wsrc => lcg_src))
    | (refine' comp_end [_, _] ?q667wF ?q667wN ?q667woff ?q667wnx ?q667wsrc ?_; (case q667wF => assumption); (case q667wN => assumption); (case q667woff => assumption); (case q667wnx => k_extra "my NX"); (case q667wsrc => lcg_src))
    | (refine' comp_end [_] ?q667wF ?q667wN ?q667woff ?q667wnx ?q667wsrc ?_; (case q667wF => assumption); (case q667wN => assumption); (case q667woff => assumption); (case q667wnx => k_extra "my NX"); (case q667wsrc => lcg_src))
  k_with "my CompRest" => (with_unfolding_all first
    | (refine LCg.CompRest.succ ?_; intro v' I' oI' C' oC' D' m' h' tk' E' hv' hC' hx' F' N' off' ne'; (have off9 := off'); (first | lcg_open hv' | (obtain ⟨t9', hv9'⟩ := hv'; subst hv9')); (try simp only [LCg.Off3, and_true] at off'))
    | refine LCg.CompRest.zero ?_)
  k_with "my PN" => first | assumption | exact Pn.mono (by assumption) (by k_extra "my SUB") | exact ⟨_, _, _, _, by k_mem, rfl, rfl⟩ | exact PnSel.get (by assumption) (by k_extra "my PN") (by k_extra "my PN")
  k_with "my SN" => first | assumption | exact Sn.mono (by assumption) (by k_extra "my SUB") | exact ⟨_, _, _, _, by k_mem, rfl, rfl, by k_extra "my PN", by k_extra "my PN"⟩
  k_with "my call builtin:min" => (k_here; (with_reducible show wpAny _ _ (call (Value.builtin "min") [Value.ref _]) _ _ _); k_dflt (refine' min_it_pn ?q671whh ?q671wF ?q671wN ?q671wu ?q671whm ?q671whc ?q671whd ?q671wp1 ?q671wp2 ?_; (case q671whh => exact rfl); (case q671wF => k_asm); (case q671wN => k_asm); (case q671whm => k_mem); (case q671whc => exact rfl); (case q671whd => exact rfl); (case q671wu => ktr_units); (case q671wp1 => k_extra "my PN"); (case q671wp2 => k_extra "my PN"); k_whole; intro c' h' tk' F' N' P'; (try k_sweep)))
  k_with "my call builtin:max" => (k_here; (with_reducible show wpAny _ _ (call (Value.builtin "max") [Value.ref _]) _ _ _); k_dflt (refine' max_it_pn ?q672whh ?q672wF ?q672wN ?q672wu ?q672whm ?q672whc ?q672whd ?q672wp1 ?q672wp2 ?_; (case q672whh => exact rfl); (case q672wF => k_asm); (case q672wN => k_asm); (case q672whm => k_mem); (case q672whc => exact rfl); (case q672whd => exact rfl); (case q672wu => ktr_units); (case q672wp1 => k_extra "my PN"); (case q672wp2 => k_extra "my PN"); k_whole; intro c' h' tk' F' N' P'; (try k_sweep)))
  k_with "my call builtin:sorted" => (k_here; (with_reducible show wpAny _ _ (call (Value.builtin "sorted") [Value.ref _]) _ _ _); k_dflt (refine' sorted1_led ?q673wF ?q673wN ?q673whm ?q673whc ?q673whd ?_; (case q673wF => k_asm); (case q673wN => k_asm); (case q673whm => k_mem); (case q673whc => exact rfl); (case q673whd => exact rfl); k_whole; intro D' c' h' F' N' l1; (try k_sweep)))
  k_with "my call builtin:sorted" => (k_here; (with_reducible show wpAny _ _ (call (Value.builtin "sorted") [Value.ref _]) _ _ _); k_dflt (refine' sorted2_led ?q674wF ?q674wN ?q674whm ?q674whc ?q674whd ?q674wh0 ?q674wh1 ?q674wu ?_; (case q674wF => k_asm); (case q674wN => k_asm); (case q674whm => k_mem); (case q674whc => exact rfl); (case q674whd => exact rfl); (case q674wh0 => k_extra "my SN"); (case q674wh1 => k_extra "my SN"); (case q674wu => ktr_units); k_whole; intro D' c' b0' b1' q0' q1' h' F' N' l1 P0' P1' hsrt; (try k_sweep)))
  k_with "my call builtin:sorted" => (k_here; (with_reducible show wpAny _ _ (call (Value.builtin "sorted") [Value.ref _]) _ _ _); k_dflt (refine' sorted4s_led ?q675wF ?q675wN ?q675whm ?q675whc ?q675whd ?q675wh0 ?q675wh1 ?q675wh2 ?q675wh3 ?q675wu ?_; (case q675wF => k_asm); (case q675wN => k_asm); (case q675whm => k_mem); (case q675whc => exact rfl); (case q675whd => exact rfl); (case q675wh0 => k_extra "my SN"); (case q675wh1 => k_extra "my SN"); (case q675wh2 => k_extra "my SN"); (case q675wh3 => k_extra "my SN"); (case q675wu => ktr_units); k_whole; intro D' c' b0' b1' b2' b3' q0' q1' q2' q3' h' F' N' l1 P0' P1' P2' P3' hsrt; (try k_sweep)))
  k_with "my RETRD" => (refine' ret_rd ?q676wF ?q676wN ?q676wS ?_; (case q676wF => k_asm); (case q676wN => k_asm); (case q676wS => k_extra "my SUB"))
  k_with "my RI" => first | (refine Pn.rd ?_; k_extra "my PN") | (refine Sn.rd ?_; k_extra "my SN")
  k_with "my RD" => first
    | (refine' rd0 ?q678wa ?q678wb ?q678wc; (case q678wa => k_mem); (case q678wb => exact rfl); (case q678wc => exact rfl))
    | (refine' rd1 ?q678wa ?q678wb ?q678wc ?q678wd; (case q678wa => k_mem); (case q678wb => exact rfl); (case q678wc => exact rfl); (case q678wd => k_extra "my RI"))
    | (refine' rd2 ?q678wa ?q678wb ?q678wc ?q678wd ?q678we; (case q678wa => k_mem); (case q678wb => exact rfl); (case q678wc => exact rfl); (case q678wd => k_extra "my RI"); (case q678we => k_extra "my RI"))
    | (refine' rd4 ?q678wa ?q678wb ?q678wc ?q678wd ?q678we ?q678wf ?q678wg; (case q678wa => k_mem); (case q678wb => exact rfl); (case q678wc => exact rfl); (case q678wd => k_extra "my RI"); (case q678we => k_extra "my RI"); (case q678wf => k_extra "my RI"); (case q678wg => k_extra "my RI"))
  k_with "my exec Assign" => (k_fold)
  k_with "my exec If" => (k_fold)
  k_with "my eval BinOp" => (k_fold)
  k_with "my eval Tuple" => (k_fold)
  k_with "my eval Call" => (k_fold)
  k_with "my eval Call Attribute" => (k_fold)
  k_with "my storeName" => (k_here; k_dflt (refine' storeL ?q685wF ?q685wN ?_ ?q685wa ?q685wb; (case q685wF => k_asm); (case q685wN => k_asm); (case q685wa => rfl); (case q685wb => rfl); k_whole; intro m' h' tk' F' N'; (try k_sweep)))
  k_with "my eval Name" => (k_here; k_dflt (refine' nameL ?q686wF ?q686wv ?_ ?q686wok ?q686whl; (case q686wF => k_asm); (case q686whl => rfl); (case q686wok => rfl); (case q686wv => rfl); k_whole))
  k_with "my eval Attribute Name" => (k_here; k_dflt (refine' attrL ?q687wF ?q687wv ?_ ?q687wok ?q687whl; (case q687wF => k_asm); (case q687whl => rfl); (case q687wok => rfl); (case q687wv => rfl); k_whole))
  k_with "my spliced" => (k_here; k_dflt (first
    | ((with_reducible refine' argLL ?q688wF ?q688wv ?q688wu ?_ ?q688wok ?q688woj ?q688whl); (case q688wF => k_asm); (case q688whl => rfl); (case q688wok => rfl); (case q688woj => rfl); (case q688wv => rfl); (case q688wu => rfl); k_whole)
    | ((with_reducible refine' argL1 ?q688wF ?q688wv ?_ ?q688wok ?q688whl); (case q688wF => k_asm); (case q688whl => rfl); (case q688wok => rfl); (case q688wv => rfl); k_whole)
    | ((with_reducible refine' argL ?q688wF ?q688wv ?_ ?q688wok ?q688whl); (case q688wF => k_asm); (case q688whl => rfl); (case q688wok => rfl); (case q688wv => rfl); k_whole)))
  k_with "my eval Call Attribute" => (k_here; k_dflt (refine' methL ?q689wF ?q689wv ?_ ?q689wok ?q689whl ?q689whe; (case q689wF => k_asm); (case q689whl => rfl); (case q689wok => rfl); (case q689wv => rfl); (case q689whe => rfl); k_whole))
  k_with "my isTrue Compare" => (k_here; k_dflt (first
    | ((with_reducible refine' cmpLL ?q690wF ?q690wv ?q690wu ?_ ?q690wok ?q690woj ?q690whl ?q690whm); (case q690wF => k_asm); (case q690whl => rfl); (case q690wok => rfl); (case q690woj => rfl); (case q690whm => with_unfolding_all rfl); (case q690wv => rfl); (case q690wu => rfl); k_whole)
    | ((with_reducible refine' cmpL ?q690wF ?q690wv ?_ ?q690wok ?q690whl ?q690whm); (case q690wF => k_asm); (case q690whl => rfl); (case q690wok => rfl); (case q690whm => with_unfolding_all rfl); (case q690wv => rfl); k_whole)))
  trivial
theorem k_toldp (w : World) {dp un : Nat} {gd : Option (List Code)} {cn : Str} {cs : Scope} {a : Addr} {ccd : Value} {cl : List (Str × Addr)} {outer : List Env} {A₀ : Around} {base h₀ : Heap} {L : Addr} {m : Str → Option Value}
    {pr : Program} {loose : List Str} {mean : ExcName → Option Value} {mg mb : Str → Option Value} {s : Shared} {Q E : Value → Shared → Prop} {news : List (Addr × Obj)} {cx r l pa : Addr} {c : Nat} {P1 : Pt}
    (B : Below A₀ base outer h₀) (F : Fr h₀ L s.heap m) (X : (Mine.k0.heap_1_39 w.params).In h₀) (N : News h₀ L s.heap news) (T : Top pr loose mean mg mb h₀) (hcs : cs.kind = .function) (hd : dp + 20 < recursionLimit) (hu : un + 160 < cLine)
    (hc : Cx news cx) (hM : Mp news r l) (hl : (l, listOf #[.ref pa] c) ∈ news) (h1 : Po news pa P1)
    (hret : ∀ (nw : List (Addr × Obj)) (v : Value) (h' : Heap) (tk' : Nat), Fr h₀ L h' m → News h₀ L h' (nw ++ news) → Rd (nw ++ news) v (toldD (toldF (.mp P1))) → Q v { s with heap := h', toks := tk' }) :
    wpAny (model PySem.Challenge.rw_ix0019_01.prog w) (ktrTop dp un gd cn cs L a ccd cl outer) (call (.ref 467) [.ref r, .ref cx]) Q E s := by
  revert X
  k_fill
  intro X
  refine Cx.elim hc ?_; clear hc; intro dc kc mc1 mc2
  obtain ⟨d, e1, t1, k1, m1, m2⟩ := hM
  refine wpAny_call ?_
  k_dflt cell_enter
  k_steps
  all_goals refine (fun z : ∃ nw, Fr h₀ L _ m ∧ News h₀ L _ (nw ++ news) ∧ Rd (nw ++ news) _ _ => z.elim fun nw z => hret nw _ _ _ z.1 z.2.1 z.2.2) ?_
  all_goals walk_at "RETRD"
  all_goals (show Rd _ _ (.list [ptD P1]); walk_at "RD")
end
section
open PySem PySem.W PyProof.Rows PySem.Calls PySem.Spec
set_option Elab.async false
set_option maxRecDepth 100000
set_option maxHeartbeats 8000000
theorem set_W33 : True := by
  k_with_none
  k_with "my MEM" => first | ktr_member | with_reducible exact List.mem_cons_self | (with_reducible refine' List.mem_cons_of_mem _ ?_; k_extra "my MEM") | (with_reducible refine' List.mem_append_right _ ?_; k_extra "my MEM") | (with_reducible refine' List.mem_append_left _ ?_; k_extra "my MEM")
  k_with "my CELL" => (refine' code_def ?qcellk1 ?qcellk2 ?qcellk3 ?qcellk4 ?qcellk5 ?qcellkA ?qcellkF ?qcellkK ?qcellk6 ?qcellk7 ?qcellk8 ?qcellk9 ?qcellkB ?_ ?qcellc2 ?qcellc3 ?qcellc4 ?qcellc5; (case qcellkA => exact rfl); (case qcellkF => exact rfl); (case qcellkK => first | assumption | exact rfl); (case qcellk1 => k_asm); (case qcellk2 => k_asm); (case qcellk3 => k_asm); (case qcellk4 => k_asm); (case qcellk5 => k_asm); (case qcellk6 => k_is); (case qcellk7 => k_is); (case qcellk8 => ktr_room); (case qcellk9 => first | exact BindsTo.of_eq rfl | exact binds_K (by k_in) rfl (by k_is) rfl rfl rfl); (case qcellc5 => decide); (case qcellkB => exact locs rfl); (case qcellc2 => exact rfl); (case qcellc3 => exact rfl); (case qcellc4 => exact rfl); k_whole; intro g' L' h' FG' F' N' B' X' T'; (try dsimp only); (try k_lift B'); (try k_fold))
  k_with "my testChain" => first | with_reducible refine test_link ?_ | with_reducible refine test_last ?_ | with_unfolding_all refine test_link ?_ | with_unfolding_all refine test_last ?_
  k_with "my SUB" => (intro x hx; first | exact hx | (simp only [List.mem_append, List.mem_cons, hx, true_or, or_true]; done) | (simp only [List.mem_append, List.mem_cons] at hx ⊢; simp_all; done))
  k_with "my PO" => first | assumption | exact Po.mono (by assumption) (by k_extra "my SUB")
  k_with "my CTX" => ((case q9B => k_asm); (case q9F => k_asm); (case q9X => k_asm); (case q9N => k_asm); (case q9T => k_asm); (case q9K => first | assumption | exact rfl); (case q9d => ktr_room); (case q9u => ktr_units))
  k_with "my getAttr ref" => (k_here; (with_reducible show wpAny _ _ (getAttr (Value.ref _) (PySem.Str.ofString "x") _) _ _ _); k_dflt (refine' getx _ ?q9B ?q9F ?q9X ?q9N ?q9T ?q9K ?q9d ?q9u ?q695wp ?_; k_extra "my CTX"; (case q695wp => k_extra "my PO"); k_whole; intro t' h' tk' F' N'; (try k_sweep)))
  k_with "my getAttr ref" => (k_here; (with_reducible show wpAny _ _ (getAttr (Value.ref _) (PySem.Str.ofString "y") _) _ _ _); k_dflt (refine' gety _ ?q9B ?q9F ?q9X ?q9N ?q9T ?q9K ?q9d ?q9u ?q696wp ?_; k_extra "my CTX"; (case q696wp => k_extra "my PO"); k_whole; intro t' h' tk' F' N'; (try k_sweep)))
  k_with "my BP" => first | assumption | exact Bp.min (by assumption) (by assumption) | exact Bp.max (by assumption) (by assumption)
  k_with "my compareOp Eq ref ref" => (k_here; k_dflt (refine' eq_po ?q698wF ?q698wX ?q698wN ?q698wu ?q698wp1 ?q698wp2 ?_; (case q698wF => k_asm); (case q698wX => k_asm); (case q698wN => k_asm); (case q698wp1 => k_extra "my PO"); (case q698wp2 => k_extra "my PO"); (case q698wu => ktr_units); k_whole))
  k_with "my compareOp NotEq ref ref" => (k_here; k_dflt (refine' ne_po ?q699wF ?q699wX ?q699wN ?q699wu ?q699wp1 ?q699wp2 ?_; (case q699wF => k_asm); (case q699wX => k_asm); (case q699wN => k_asm); (case q699wp1 => k_extra "my PO"); (case q699wp2 => k_extra "my PO"); (case q699wu => ktr_units); k_whole))
  k_with "my compareOp Lt ref ref" => (k_here; k_dflt (refine' lt_po ?q700wF ?q700wX ?q700wN ?q700wu ?q700wp1 ?q700wp2 ?_; (case q700wF => k_asm); (case q700wX => k_asm); (case q700wN => k_asm); (case q700wp1 => k_extra "my PO"); (case q700wp2 => k_extra "my PO"); (case q700wu => ktr_units); k_whole))
  k_with "my compareOp LtE ref ref" => (k_here; k_dflt (refine' le_po ?q701wF ?q701wX ?q701wN ?q701wu ?q701wp1 ?q701wp2 ?_; (case q701wF => k_asm); (case q701wX => k_asm); (case q701wN => k_asm); (case q701wp1 => k_extra "my PO"); (case q701wp2 => k_extra "my PO"); (case q701wu => ktr_units); k_whole))
  k_with "my compareOp Is ref ref" => (k_here; (first | (with_reducible refine' is_ori_col ?q702wF ?q702wX ?_) | (with_reducible refine' is_ori ?q702wF ?q702wX ?_)); (case q702wF => k_asm); (case q702wX => k_asm); k_whole)
  k_with "my SO" => first | assumption | exact So.mono (by assumption) (by k_extra "my SUB")
  k_with "my NX" => first | exact List.forall_mem_nil _ | refine List.forall_mem_cons.mpr ⟨⟨by k_ne, by k_ne, by k_ne⟩, by k_extra "my NX"⟩
  k_with "my PN" => first | assumption | exact Pn.mono (by assumption) (by k_extra "my SUB") | exact ⟨_, _, _, _, by k_mem, rfl, rfl⟩ | exact PnSel.get (by assumption) (by k_extra "my PN") (by k_extra "my PN")
  k_with "my SN" => first | assumption | exact Sn.mono (by assumption) (by k_extra "my SUB") | exact ⟨_, _, _, _, by k_mem, rfl, rfl, by k_extra "my PN", by k_extra "my PN"⟩
  k_with "my RI" => first | (refine Pn.rd ?_; k_extra "my PN") | (refine Sn.rd ?_; k_extra "my SN")
  k_with "my RD" => first
    | (refine' rd0 ?q708wa ?q708wb ?q708wc; (case q708wa => k_mem); (case q708wb => exact rfl); (case q708wc => exact rfl))
    | (refine' rd1 ?q708wa ?q708wb ?q708wc ?q708wd; (case q708wa => k_mem); (case q708wb => exact rfl); (case q708wc => exact rfl); (case q708wd => k_extra "my RI"))
    | (refine' rd2 ?q708wa ?q708wb ?q708wc ?q708wd ?q708we; (case q708wa => k_mem); (case q708wb => exact rfl); (case q708wc => exact rfl); (case q708wd => k_extra "my RI"); (case q708we => k_extra "my RI"))
    | (refine' rd4 ?q708wa ?q708wb ?q708wc ?q708wd ?q708we ?q708wf ?q708wg; (case q708wa => k_mem); (case q708wb => exact rfl); (case q708wc => exact rfl); (case q708wd => k_extra "my RI"); (case q708we => k_extra "my RI"); (case q708wf => k_extra "my RI"); (case q708wg => k_extra "my RI"))
  k_with "my SUBX" => first | with_reducible exact hx9 | (with_reducible refine List.mem_cons_of_mem _ ?_; k_extra "my SUBX") | (with_reducible refine List.mem_append_right _ ?_; k_extra "my SUBX") | (with_reducible refine hsub2 _ ?_; k_extra "my SUBX") | (with_reducible refine hsub1 _ ?_; k_extra "my SUBX")
  k_with "my SUB" => (intro x9 hx9; k_extra "my SUBX")
  k_with "my MEM" => first | (with_reducible refine hsub2 _ ?_; k_extra "my MEM") | (with_reducible refine hsub1 _ ?_; k_extra "my MEM")
  k_with "my CompSrc" => (k_here; k_dflt (refine LCg.CompSrc.ledger (by rfl) (by k_asm) (by k_asm) (by k_mem) (FinF.sz (by with_reducible assumption)) ?_; intro g'; (refine' comp1 ?q712whS ?q712wstep ?q712wfin; (case q712whS => first | with_reducible assumption | exact SoAre.mono (by with_reducible assumption) (by k_extra "my SUB")); (case' q712wstep => intro i' ys' news' a' q' hsub1 hInv' hq' hSo' I' oI' C' oC' D' m' h' tk' E' hC' hx' F' N' off' ne'; (obtain ⟨d', ea', ta', pa', eb', tb', pb', kk', ma', mb', xa', xb'⟩ := hSo')); (case' q712wfin => intro ys' news' hsub1 hA'; (have hz' := FinF.mk (FinF.h24 hz) hA'.len)))))
  k_with "my CompSrc" => (k_here; k_dflt (refine LCg.CompSrc.ledger (by rfl) (by k_asm) (by k_asm) (by k_mem) (FinF.sz (by with_reducible assumption)) ?_; intro g'; (refine' comp2 ?q713whS ?q713wstep ?q713wfin; (case q713whS => first | with_reducible assumption | exact SnAre.mono (by with_reducible assumption) (by k_extra "my SUB")); (case' q713wstep => intro i' ys' news' a' q' hsub2 hInv' hq' hSn' I' oI' C' oC' D' m' h' tk' E' hC' hx' F' N' off' ne'; (obtain ⟨o', a1', a2', kk', hm', hc', hd', xa', xb'⟩ := hSn')); (case' q713wfin => intro ys' news' hsub2 hA'))))
  k_with "my CompEnd" => first
    | (refine' comp_end [_, _, _] ?q714wF ?q714wN ?q714woff ?q714wnx ?q714wsrc ?q714wr; (case q714wF => assumption); (case q714wN => assumption); (case q714woff => with_reducible assumption); (case q714wnx => k_extra "my NX"); (case q714wsrc => lcg_src); (case q714wr => exact Inv1.succ1 (by with_reducible assumption) (by with_reducible assumption) (by k_extra "my SN")))
    | (refine' comp_end [_] ?q714wF ?q714wN ?q714woff ?q714wnx ?q714wsrc ?q714wr; (case q714wF => assumption); (case q714wN => assumption); (case q714woff => with_reducible assumption); (case q714wnx => k_extra "my NX"); (case q714wsrc => lcg_src); (case q714wr => exact Inv1.succ2 (by with_reducible assumption) (by with_reducible assumption) (by k_extra "my SN")))
  k_with "my compareOp Eq ref ref" => (k_here; k_dflt (refine' eq_nil_ne ?q715wN ?q715wu ?q715wS ?q715wz ?q715wm ?q715wk ?q715wc ?q715wd ?_; (case q715wN => k_asm); (case q715wu => ktr_units); (case q715wS => first | with_reducible assumption | exact SnAre.mono (by with_reducible assumption) (by k_extra "my SUB")); (case q715wz => exact FinF.nn (by with_reducible assumption)); (case q715wm => k_mem); (case q715wk => k_mem); (case q715wc => exact rfl); (case q715wd => exact rfl); k_whole))
  k_with "my call builtin:len" => (k_here; (with_reducible show wpAny _ _ (call (Value.builtin "len") [Value.ref _]) _ _ _); k_dflt (refine' len_led ?q716wN ?q716wm ?q716wz ?_; (case q716wN => k_asm); (case q716wm => k_mem); (case q716wz => exact FinF.n63 (by with_reducible assumption)); k_whole))
  k_with "my compareOp Eq int int" => (k_here; k_dflt (refine' eqi_false ?q717wne ?_; (case q717wne => exact FinF.n1 (by with_reducible assumption)); k_whole))
  k_with "my call builtin:sorted" => (k_here; (with_reducible show wpAny _ _ (call (Value.builtin "sorted") [Value.ref _]) _ _ _); k_dflt (refine' sortedA_led ?q718wF ?q718wN ?q718whm ?q718wS ?q718wh24 ?q718wu ?_; (case q718wF => k_asm); (case q718wN => k_asm); (case q718whm => k_mem); (case q718wS => first | with_reducible assumption | exact SnAre.mono (by with_reducible assumption) (by k_extra "my SUB")); (case q718wh24 => exact FinF.m24 hz); (case q718wu => ktr_units); k_whole; intro D' c' ws' qs' h' F' N' P' hsrt'; (try k_sweep)))
  k_with "my call builtin:min" => (k_here; (with_reducible show wpAny _ _ (call (Value.builtin "min") [Value.ref _]) _ _ _); k_dflt (refine' min_it_pn ?q719whh ?q719wF ?q719wN ?q719wu ?q719whm ?q719whc ?q719whd ?q719wp1 ?q719wp2 ?_; (case q719whh => exact rfl); (case q719wF => k_asm); (case q719wN => k_asm); (case q719whm => k_mem); (case q719whc => first | with_reducible assumption | exact rfl); (case q719whd => first | with_reducible assumption | exact rfl); (case q719wu => ktr_units); (case q719wp1 => k_extra "my PN"); (case q719wp2 => k_extra "my PN"); k_whole; intro c' h' tk' F' N' P'; (try k_sweep)))
  k_with "my call builtin:max" => (k_here; (with_reducible show wpAny _ _ (call (Value.builtin "max") [Value.ref _]) _ _ _); k_dflt (refine' max_it_pn ?q720whh ?q720wF ?q720wN ?q720wu ?q720whm ?q720whc ?q720whd ?q720wp1 ?q720wp2 ?_; (case q720whh => exact rfl); (case q720wF => k_asm); (case q720wN => k_asm); (case q720whm => k_mem); (case q720whc => first | with_reducible assumption | exact rfl); (case q720whd => first | with_reducible assumption | exact rfl); (case q720wu => ktr_units); (case q720wp1 => k_extra "my PN"); (case q720wp2 => k_extra "my PN"); k_whole; intro c' h' tk' F' N' P'; (try k_sweep)))
  k_with "my RETRD" => (refine' ret_rd ?q721wF ?q721wN ?q721wS ?_; (case q721wF => k_asm); (case q721wN => k_asm); (case q721wS => k_extra "my SUB"))
  k_with "my exec Assign cons ListComp" => (k_here; lcg_look; k_dflt (refine LCg.Assign_ListComp_U (F₀ := by k_asm) (by rfl) (by with_unfolding_all rfl) (by rfl) (by decide) (by rfl) (by decide) (by rfl) (by rfl) (by rfl) ?_))
  k_with "my eval ListComp" => (k_here; lcg_look; k_dflt (refine LCg.ListComp_U (F₀ := by k_asm) (by rfl) (by decide) (by rfl) (by decide) (by rfl) ?_))
  k_with "my exec Assign" => (k_fold)
  k_with "my exec If" => (k_fold)
  k_with "my eval BinOp" => (k_fold)
  k_with "my eval Tuple" => (k_fold)
  k_with "my eval Call" => (k_fold)
  k_with "my eval Call Attribute" => (k_fold)
  k_with "my storeName" => (k_here; k_dflt (refine' storeL ?q730wF ?q730wN ?_ ?q730wa ?q730wb; (case q730wF => k_asm); (case q730wN => k_asm); (case q730wa => rfl); (case q730wb => rfl); k_whole; intro m' h' tk' F' N'; (try k_sweep)))
  k_with "my eval Name" => (k_here; k_dflt (refine' nameL ?q731wF ?q731wv ?_ ?q731wok ?q731whl; (case q731wF => k_asm); (case q731whl => rfl); (case q731wok => rfl); (case q731wv => rfl); k_whole))
  k_with "my eval Attribute Name" => (k_here; k_dflt (refine' attrL ?q732wF ?q732wv ?_ ?q732wok ?q732whl; (case q732wF => k_asm); (case q732whl => rfl); (case q732wok => rfl); (case q732wv => rfl); k_whole))
  k_with "my spliced" => (k_here; k_dflt (first
    | ((with_reducible refine' argLL ?q733wF ?q733wv ?q733wu ?_ ?q733wok ?q733woj ?q733whl); (case q733wF => k_asm); (case q733whl => rfl); (case q733wok => rfl); (case q733woj => rfl); (case q733wv => rfl); (case q733wu => rfl); k_whole)
    | ((with_reducible refine' argL1 ?q733wF ?q733wv ?_ ?q733wok ?q733whl); (case q733wF => k_asm); (case q733whl => rfl); (case q733wok => rfl); (case q733wv => rfl); k_whole)
    | ((with_reducible refine' argL ?q733wF ?q733wv ?_ ?q733wok ?q733whl); (case q733wF => k_asm); (case q733whl => rfl); (case q733wok => rfl); (case q733wv => rfl); k_whole)))
  k_with "my eval Call Attribute" => (k_here; k_dflt (refine' methL ?q734wF ?q734wv ?_ ?q734wok ?q734whl ?q734whe; (case q734wF => k_asm); (case q734whl => rfl); (case q734wok => rfl); (case q734wv => rfl); (case q734whe => rfl); k_whole))
  k_with "my isTrue Compare" => (k_here; k_dflt (first
    | ((with_reducible refine' cmpLL ?q735wF ?q735wv ?q735wu ?_ ?q735wok ?q735woj ?q735whl ?q735whm); (case q735wF => k_asm); (case q735whl => rfl); (case q735wok => rfl); (case q735woj => rfl); (case q735whm => with_unfolding_all rfl); (case q735wv => rfl); (case q735wu => rfl); k_whole)
    | ((with_reducible refine' cmpL ?q735wF ?q735wv ?_ ?q735wok ?q735whl ?q735whm); (case q735wF => k_asm); (case q735whl => rfl); (case q735wok => rfl); (case q735whm => with_unfolding_all rfl); (case q735wv => rfl); k_whole)))
  trivial
theorem k_toldm (w : World) {dp un : Nat} {gd : Option (List Code)} {cn : Str} {cs : Scope} {a : Addr} {ccd : Value} {cl : List (Str × Addr)} {outer : List Env} {A₀ : Around} {base h₀ : Heap} {L : Addr} {m : Str → Option Value}
    {pr : Program} {loose : List Str} {mean : ExcName → Option Value} {mg mb : Str → Option Value} {s : Shared} {Q E : Value → Shared → Prop} {news : List (Addr × Obj)} {cx r l : Addr} {c : Nat} {vs : List Value} {ss : List Sg}
    (B : Below A₀ base outer h₀) (F : Fr h₀ L s.heap m) (X : (Mine.k0.heap_1_39 w.params).In h₀) (N : News h₀ L s.heap news) (T : Top pr loose mean mg mb h₀) (hcs : cs.kind = .function) (hd : dp + 20 < recursionLimit) (hu : un + 160 < cLine)
    (hc : Cx news cx) (hM : Ms news r l) (hl : (l, listOf vs.toArray c) ∈ news) (hS : SoAre news vs ss) (h24 : ss.length = 2 ∨ ss.length = 4)
    (hret : ∀ (nw : List (Addr × Obj)) (v : Value) (h' : Heap) (tk' : Nat), Fr h₀ L h' m → News h₀ L h' (nw ++ news) → Rd (nw ++ news) v (toldD (toldF (.mseg ss))) → Q v { s with heap := h', toks := tk' }) :
    wpAny (model PySem.Challenge.rw_ix0019_01.prog w) (ktrTop dp un gd cn cs L a ccd cl outer) (call (.ref 467) [.ref r, .ref cx]) Q E s := by
  revert X
  k_fill
  intro X
  refine Cx.elim hc ?_; clear hc; intro dc kc mc1 mc2
  obtain ⟨d, e1, t1, k1, m1, m2⟩ := hM
  have hz := FinF.mk h24 hS.len
  clear h24
  refine wpAny_call ?_
  k_dflt cell_enter
  k_steps
  all_goals refine (fun z : ∃ nw, Fr h₀ L _ m ∧ News h₀ L _ (nw ++ news) ∧ Rd (nw ++ news) _ _ => z.elim fun nw z => hret nw _ _ _ z.1 z.2.1 z.2.2) ?_
  all_goals walk_at "RETRD"
  all_goals (show Rd _ _ (toldD ([], srtS (List.map nrm ss))); rw [‹srtS _ = _›]; exact rdAre (by k_mem) rfl rfl (SnAre.mono (by with_reducible assumption) (by walk_at "SUB")))
end
section
open PySem PySem.W PyProof.Rows PySem.Calls PySem.Spec
set_option Elab.async false
theorem k_told (w : World) {dp un : Nat} {gd : Option (List Code)} {cn : Str} {cs : Scope} {a : Addr} {ccd : Value} {cl : List (Str × Addr)} {outer : List Env} {A₀ : Around} {base h₀ : Heap} {L : Addr} {m : Str → Option Value}
    {pr : Program} {loose : List Str} {mean : ExcName → Option Value} {mg mb : Str → Option Value} {s : Shared} {Q E : Value → Shared → Prop} {news : List (Addr × Obj)} {cx : Addr} {v : Value} {ρ : Res}
    (B : Below A₀ base outer h₀) (F : Fr h₀ L s.heap m) (X : (Mine.k0.heap_1_39 w.params).In h₀) (N : News h₀ L s.heap news) (T : Top pr loose mean mg mb h₀) (hcs : cs.kind = .function) (hd : dp + 20 < recursionLimit) (hu : un + 160 < cLine)
    (hc : Cx news cx) (hR : RsP news v ρ)
    (hret : ∀ (nw : List (Addr × Obj)) (v : Value) (h' : Heap) (tk' : Nat), Fr h₀ L h' m → News h₀ L h' (nw ++ news) → Rd (nw ++ news) v (toldD (toldF ρ)) → Q v { s with heap := h', toks := tk' }) :
    wpAny (model PySem.Challenge.rw_ix0019_01.prog w) (ktrTop dp un gd cn cs L a ccd cl outer) (call (.ref 467) [v, .ref cx]) Q E s := by
  unfold RsP at hR
  split at hR
  · subst hR
    exact k_told0 w B F X N T hcs hd hu hc hret
  · obtain ⟨a, l, pa, c, rfl, h1, h2, h3⟩ := hR
    exact k_toldp w B F X N T hcs hd hu hc h1 h2 h3 hret
  · obtain ⟨a, rfl, h1⟩ := hR
    exact k_told1 w B F X N T hcs hd hu hc h1 hret
  · obtain ⟨a, l, sa, ta, c, rfl, h1, h2, h3, h4⟩ := hR
    exact k_toldm w B F X N T hcs hd hu hc h1 h2 (SoAre.cons h3 (SoAre.cons h4 SoAre.nil)) (Or.inl rfl) hret
  · obtain ⟨a, l, sa, ta, ua, za, c, rfl, h1, h2, h3, h4, h5, h6⟩ := hR
    exact k_toldm w B F X N T hcs hd hu hc h1 h2 (SoAre.cons h3 (SoAre.cons h4 (SoAre.cons h5 (SoAre.cons h6 SoAre.nil)))) (Or.inr rfl) hret
  · exact hR.elim
end
section
open PySem PySem.W PyProof.Rows PySem.Calls PySem.Spec
set_option Elab.async false
section
variable {prog : Program} {w : World} {A : Around} {E Q : Value → Shared → Prop} {s : Shared} {h₀ : Heap} {L a b : Addr} {m : Str → Option Value} {news : List (Addr × Obj)} {p q : Pt}
theorem eq_pn (N : News h₀ L s.heap news) (hu : A.units + 8 < cLine) (x : Pn news a p) (y : Pn news b q) (h : Q (.bool (decide (p = q))) s) : wpAny (model prog w) A (compareOp .Eq (.ref a) (.ref b)) Q E s :=
  pt_eq (k := 0) (tupCls_tuple _ _) (x.pt N) (y.pt N) A E Q s rfl (by omega) h
theorem ne_pn (N : News h₀ L s.heap news) (hu : A.units + 8 < cLine) (x : Pn news a p) (y : Pn news b q) (h : Q (.bool (!decide (p = q))) s) : wpAny (model prog w) A (compareOp .NotEq (.ref a) (.ref b)) Q E s :=
  pt_ne (k := 0) (tupCls_tuple _ _) (x.pt N) (y.pt N) A E Q s rfl (by omega) h
theorem lt_pn (N : News h₀ L s.heap news) (hu : A.units + 8 < cLine) (x : Pn news a p) (y : Pn news b q) (h : Q (.bool (ltP p q)) s) : wpAny (model prog w) A (compareOp .Lt (.ref a) (.ref b)) Q E s :=
  pt_lt (k := 0) (tupCls_tuple _ _) (x.pt N) (y.pt N) A E Q s rfl (by omega) h
end
/-- what is left of a body, to be walked once from a middle -/
structure Tail (M : Model) (A : Around) (c : List Stmt) (env : Env) (Q : Flow → Shared → Prop) (E : Value → Shared → Prop) (Mid : Shared → Prop) : Prop where
  at_ : ∀ s', Mid s' → wpAny M A (execs c env) Q E s'
section
variable {M : Model} {A : Around} {E : Value → Shared → Prop} {Q : Flow → Shared → Prop} {s : Shared} {env : Env} {Mid : Shared → Prop}
theorem Tail.go {c : List Stmt} (t : Tail M A c env Q E Mid) (h : Mid s) : wpAny M A (execs c env) Q E s := t.at_ _ h
theorem tail3 {st1 st2 st3 : Stmt} {rest : List Stmt} (Mid : Shared → Prop) (h2 : Tail M A rest env Q E Mid)
    (h1 : Tail M A rest env Q E Mid → wpAny M A (execs (st1 :: st2 :: st3 :: rest) env) Q E s) : wpAny M A (execs (st1 :: st2 :: st3 :: rest) env) Q E s := h1 h2
theorem tail1 {st1 : Stmt} {rest : List Stmt} (Mid : Shared → Prop) (h2 : Tail M A rest env Q E Mid)
    (h1 : Tail M A rest env Q E Mid → wpAny M A (execs (st1 :: rest) env) Q E s) : wpAny M A (execs (st1 :: rest) env) Q E s := h1 h2
end
theorem fr_top4 {h₀ h : Heap} {L : Addr} {m : Str → Option Value} {x1 x2 x3 x4 : Str} {v1 v2 v3 v4 : Value} (F : Fr h₀ L h m) (h1 : m x1 = some v1) (h2 : m x2 = some v2) (h3 : m x3 = some v3) (h4 : m x4 = some v4) :
    Fr h₀ L h (fun y => if y = x1 then some v1 else if y = x2 then some v2 else if y = x3 then some v3 else if y = x4 then some v4 else m y) := by
  have e : (fun y => if y = x1 then some v1 else if y = x2 then some v2 else if y = x3 then some v3 else if y = x4 then some v4 else m y) = m := by
    funext y
    by_cases e1 : y = x1; · rw [if_pos e1, e1, h1]
    by_cases e2 : y = x2; · rw [if_neg e1, if_pos e2, e2, h2]
    by_cases e3 : y = x3; · rw [if_neg e1, if_neg e2, if_pos e3, e3, h3]
    by_cases e4 : y = x4; · rw [if_neg e1, if_neg e2, if_neg e3, if_pos e4, e4, h4]
    rw [if_neg e1, if_neg e2, if_neg e3, if_neg e4]
  rw [e]; exact F
def Bk (k : Nat) (p : Pt) : Prop := Builtin.Int.intBits p.1 ≤ k ∧ Builtin.Int.intBits p.2 ≤ k
/-- the state ahead of «x, y, u, v = ..»: four pairs, two unlike each time -/
structure Mid1 (h₀ : Heap) (L : Addr) (s s' : Shared) : Prop where
  at_ : ∃ (m : Str → Option Value) (news : List (Addr × Obj)) (h : Heap) (tk : Nat) (aa ab ac ad : Addr) (a1 a2 b1 b2 c1 c2 d1 d2 : Int) (t1 t2 t3 t4 t5 t6 t7 t8 : Tok), s' = { s with heap := h, toks := tk } ∧
    Fr h₀ L h (fun y => if y = Str.ofString "a" then some (.ref aa) else if y = Str.ofString "b" then some (.ref ab) else if y = Str.ofString "c" then some (.ref ac) else if y = Str.ofString "d" then some (.ref ad) else m y) ∧
    News h₀ L h news ∧ (aa, ({ cls := .type "tuple", data := .seq #[.int a1 t1, .int a2 t2] } : Obj)) ∈ news ∧ (ab, ({ cls := .type "tuple", data := .seq #[.int b1 t3, .int b2 t4] } : Obj)) ∈ news ∧ (ac, ({ cls := .type "tuple", data := .seq #[.int c1 t5, .int c2 t6] } : Obj)) ∈ news ∧ (ad, ({ cls := .type "tuple", data := .seq #[.int d1 t7, .int d2 t8] } : Obj)) ∈ news ∧ (a1, a2) ≠ (b1, b2) ∧ (c1, c2) ≠ (d1, d2) ∧
    Builtin.Int.intBits a1 ≤ 1048640 ∧ Builtin.Int.intBits a2 ≤ 1048640 ∧ Builtin.Int.intBits b1 ≤ 1048640 ∧ Builtin.Int.intBits b2 ≤ 1048640 ∧ Builtin.Int.intBits c1 ≤ 1048640 ∧ Builtin.Int.intBits c2 ≤ 1048640 ∧ Builtin.Int.intBits d1 ≤ 1048640 ∧ Builtin.Int.intBits d2 ≤ 1048640
theorem Mid1.elim {h₀ : Heap} {L : Addr} {s : Shared} {P : Shared → Prop} (k : ∀ (m : Str → Option Value) (news : List (Addr × Obj)) (h : Heap) (tk : Nat) (aa ab ac ad : Addr) (a1 a2 b1 b2 c1 c2 d1 d2 : Int) (t1 t2 t3 t4 t5 t6 t7 t8 : Tok), let m' : Str → Option Value := fun y => if y = Str.ofString "a" then some (.ref aa) else if y = Str.ofString "b" then some (.ref ab) else if y = Str.ofString "c" then some (.ref ac) else if y = Str.ofString "d" then some (.ref ad) else m y; Fr h₀ L h m' → News h₀ L h news → (aa, ({ cls := .type "tuple", data := .seq #[.int a1 t1, .int a2 t2] } : Obj)) ∈ news → (ab, ({ cls := .type "tuple", data := .seq #[.int b1 t3, .int b2 t4] } : Obj)) ∈ news → (ac, ({ cls := .type "tuple", data := .seq #[.int c1 t5, .int c2 t6] } : Obj)) ∈ news → (ad, ({ cls := .type "tuple", data := .seq #[.int d1 t7, .int d2 t8] } : Obj)) ∈ news → (a1, a2) ≠ (b1, b2) → (c1, c2) ≠ (d1, d2) → Builtin.Int.intBits a1 ≤ 1048640 → Builtin.Int.intBits a2 ≤ 1048640 → Builtin.Int.intBits b1 ≤ 1048640 → Builtin.Int.intBits b2 ≤ 1048640 → Builtin.Int.intBits c1 ≤ 1048640 → Builtin.Int.intBits c2 ≤ 1048640 → Builtin.Int.intBits d1 ≤ 1048640 → Builtin.Int.intBits d2 ≤ 1048640 → P { s with heap := h, toks := tk }) : ∀ s', Mid1 h₀ L s s' → P s' := fun s' hM => by
  obtain ⟨m1, news1, h1, tk1, aa1, ab1, ac1, ad1, a11, a21, b11, b21, c11, c21, d11, d21, t11, t21, t31, t41, t51, t61, t71, t81, hs', f0, f1, f2, f3, f4, f5, f6, f7, f8, f9, f10, f11, f12, f13, f14, f15⟩ := hM.at_
  subst hs'
  exact k m1 news1 h1 tk1 aa1 ab1 ac1 ad1 a11 a21 b11 b21 c11 c21 d11 d21 t11 t21 t31 t41 t51 t61 t71 t81 f0 f1 f2 f3 f4 f5 f6 f7 f8 f9 f10 f11 f12 f13 f14 f15
end
section
open PySem PySem.W PyProof.Rows PySem.Calls PySem.Spec
set_option Elab.async false
abbrev ib := Builtin.Int.intBits
abbrev num8 (x0 x1 x2 x3 x4 x5 x6 x7 : Int) (t0 t1 t2 t3 t4 t5 t6 t7 : Tok) : List Value := [.int x0 t0, .int x1 t1, .int x2 t2, .int x3 t3, .int x4 t4, .int x5 t5, .int x6 t6, .int x7 t7]
theorem ints8 {us : List Value} {ns : List Int} (h : IntsAre us ns) (hl : ns.length = 8) : ∃ x0 x1 x2 x3 x4 x5 x6 x7 t0 t1 t2 t3 t4 t5 t6 t7, us = num8 x0 x1 x2 x3 x4 x5 x6 x7 t0 t1 t2 t3 t4 t5 t6 t7 ∧ ns = [x0, x1, x2, x3, x4, x5, x6, x7] := by
  match ns, hl with
  | [x0, x1, x2, x3, x4, x5, x6, x7], _ =>
    obtain ⟨t0, r0, e0, h⟩ := h.cons_inv
    obtain ⟨t1, r1, e1, h⟩ := h.cons_inv
    obtain ⟨t2, r2, e2, h⟩ := h.cons_inv
    obtain ⟨t3, r3, e3, h⟩ := h.cons_inv
    obtain ⟨t4, r4, e4, h⟩ := h.cons_inv
    obtain ⟨t5, r5, e5, h⟩ := h.cons_inv
    obtain ⟨t6, r6, e6, h⟩ := h.cons_inv
    obtain ⟨t7, r7, e7, h⟩ := h.cons_inv
    have e8 := h.nil_inv
    subst e8 e7 e6 e5 e4 e3 e2 e1 e0
    exact ⟨x0, x1, x2, x3, x4, x5, x6, x7, t0, t1, t2, t3, t4, t5, t6, t7, rfl, rfl⟩
/-- the eight numbers, laid -/
structure Mid0 (h₀ : Heap) (L : Addr) (m : Str → Option Value) (news : List (Addr × Obj)) (s s' : Shared) : Prop where
  at_ : ∃ (h : Heap) (tk : Nat) (l : Addr) (x0 x1 x2 x3 x4 x5 x6 x7 : Int) (t0 t1 t2 t3 t4 t5 t6 t7 : Tok) (c : Nat), s' = { s with heap := h, toks := tk } ∧
    Fr h₀ L h (fun y => if y = Str.ofString "numbers" then some (.ref l) else m y) ∧ News h₀ L h ((l, listOf (num8 x0 x1 x2 x3 x4 x5 x6 x7 t0 t1 t2 t3 t4 t5 t6 t7).toArray c) :: news) ∧
    ib x0 ≤ 1048580 ∧ ib x1 ≤ 1048580 ∧ ib x2 ≤ 1048580 ∧ ib x3 ≤ 1048580 ∧ ib x4 ≤ 1048580 ∧ ib x5 ≤ 1048580 ∧ ib x6 ≤ 1048580 ∧ ib x7 ≤ 1048580
theorem Mid0.elim {h₀ : Heap} {L : Addr} {m : Str → Option Value} {news : List (Addr × Obj)} {s : Shared} {P : Shared → Prop} (k : ∀ (h : Heap) (tk : Nat) (l : Addr) (x0 x1 x2 x3 x4 x5 x6 x7 : Int) (t0 t1 t2 t3 t4 t5 t6 t7 : Tok) (c : Nat), let m' : Str → Option Value := fun y => if y = Str.ofString "numbers" then some (.ref l) else m y; Fr h₀ L h m' → News h₀ L h ((l, listOf (num8 x0 x1 x2 x3 x4 x5 x6 x7 t0 t1 t2 t3 t4 t5 t6 t7).toArray c) :: news) → ib x0 ≤ 1048580 → ib x1 ≤ 1048580 → ib x2 ≤ 1048580 → ib x3 ≤ 1048580 → ib x4 ≤ 1048580 → ib x5 ≤ 1048580 → ib x6 ≤ 1048580 → ib x7 ≤ 1048580 → P { s with heap := h, toks := tk }) : ∀ s', Mid0 h₀ L m news s s' → P s' := fun s' hM => by
  obtain ⟨h1, tk1, l1, x01, x11, x21, x31, x41, x51, x61, x71, t01, t11, t21, t31, t41, t51, t61, t71, c1, hs', f0, f1, f2, f3, f4, f5, f6, f7, f8, f9⟩ := hM.at_
  subst hs'
  exact k h1 tk1 l1 x01 x11 x21 x31 x41 x51 x61 x71 t01 t11 t21 t31 t41 t51 t61 t71 c1 f0 f1 f2 f3 f4 f5 f6 f7 f8 f9
theorem Mid0.mk8 {h₀ h : Heap} {L l : Addr} {m m' : Str → Option Value} {news all : List (Addr × Obj)} {s : Shared} {tk c : Nat} {us : List Value} {ns : List Int} (hi : IntsAre us ns) (hl : ns.length = 8) (hb : ∀ x ∈ ns, ib x ≤ 1048580)
    (F : Fr h₀ L h m') (hm : m' = fun y => if y = Str.ofString "numbers" then some (.ref l) else m y) (N : News h₀ L h all) (hN : (l, listOf us.toArray c) ∈ all) (hs : ∀ p ∈ news, p ∈ all) :
    Mid0 h₀ L m news s { s with heap := h, toks := tk } := by
  obtain ⟨x0, x1, x2, x3, x4, x5, x6, x7, t0, t1, t2, t3, t4, t5, t6, t7, rfl, rfl⟩ := ints8 hi hl
  subst hm
  refine ⟨h, tk, l, x0, x1, x2, x3, x4, x5, x6, x7, t0, t1, t2, t3, t4, t5, t6, t7, c, rfl, F, ?_, ?_⟩
  · intro p hp
    rcases List.mem_cons.mp hp with e | e
    · exact e ▸ N _ hN
    · exact N _ (hs _ e)
  · exact ⟨hb _ (by simp), hb _ (by simp), hb _ (by simp), hb _ (by simp), hb _ (by simp), hb _ (by simp), hb _ (by simp), hb _ (by simp)⟩
theorem script_ne {S : List Int} {k : Int} {i j : Nat} (h : k ∈ (S.drop i).take j) (hx : (0 : Int) < -(S.length : Int) ∨ (S.length : Int) ≤ 0) : False := by
  have := List.length_pos_of_mem (List.mem_of_mem_drop (List.mem_of_mem_take h))
  omega
theorem ib_small {x : Int} (h : x.natAbs < 2 ^ 20) : ib x ≤ 1048580 := intBits_le_iff.mpr (Nat.lt_of_lt_of_le h (Nat.pow_le_pow_right (by decide) (by decide)))
theorem num_len {n k : Nat} {d : List Int} {l : List Int} (hd : d.length = 8) (hk : k = min (min 9 n - 1) (n - 1)) (hl : l.length = k) : (l ++ d.drop ((l.length : Nat) : Int).toNat).length = 8 := by
  rw [List.length_append, List.length_drop, hd]
  omega
theorem num_bits {S : List Int} {f : Int → Int} {i j n : Nat} (hlay : (PyData.list (S.map PyData.int)).layable0 = true) (hf : ∀ k, f k = 4 * k ∨ f k = 4 * k.fmod 7 ∨ f k = k) :
    ∀ x ∈ (((S.drop i).take j).map f) ++ [0, 0, 8, 4, 0, 8, 8, 0].drop n, ib x ≤ 1048580 := by
  intro x hx
  rcases List.mem_append.mp hx with h | h
  · obtain ⟨k, hk, rfl⟩ := List.mem_map.mp h
    have hm : k ∈ S := List.mem_of_mem_drop (List.mem_of_mem_take hk)
    have hb := intBits_le_of_item hm hlay
    rcases hf k with e | e | e <;> rw [e]
    · exact Nat.le_trans (intBits_mul_le (m := 3) (by decide) hb) (by decide)
    · refine Nat.le_trans (intBits_mul_le (m := 3) (n := 3) (by decide) (intBits_le_iff.mpr (Nat.lt_of_le_of_lt (natAbs_fmod_le k 7 (by decide)) (by decide)))) (by decide)
    · exact Nat.le_trans hb (by decide)
  · have h' := List.mem_of_mem_drop h
    simp only [List.mem_cons, List.not_mem_nil, or_false] at h'
    rcases h' with e | e | e | e | e | e | e | e <;> subst e <;> exact ib_small (by decide)
section
variable {M : Model} {A : Around} {E : Value → Shared → Prop} {Q : Flow → Shared → Prop} {s : Shared} {env : Env}
structure CutEnd (Mid : Shared → Prop) (f : Flow) (s' : Shared) : Prop where
  nx : f = .next
  here : Mid s'
theorem cut_any {st : Stmt} {rest : List Stmt} (Mid : Shared → Prop)
    (h1 : wpAny M A (exec st env) (fun f s' => CutEnd Mid f s') E s)
    (h2 : ∀ s', Mid s' → wpAny M A (execs rest env) Q E s') : wpAny M A (execs (st :: rest) env) Q E s :=
  wpAny_execs_cons (wpAny_mono h1 (fun f s' h => by obtain ⟨rfl, h⟩ := h; exact h2 _ h) fun _ _ e => e)
theorem cut_num {st : Stmt} {rest : List Stmt} {h₀ : Heap} {L : Addr} {m : Str → Option Value} {news : List (Addr × Obj)} (_F : Fr h₀ L s.heap m) (_N : News h₀ L s.heap news)
    (h1 : wpAny M A (exec st env) (fun f s' => CutEnd (Mid0 h₀ L m news s) f s') E s)
    (h2 : ∀ s', Mid0 h₀ L m news s s' → wpAny M A (execs rest env) Q E s') : wpAny M A (execs (st :: rest) env) Q E s := cut_any _ h1 h2
end
section
variable {prog : Program} {w : World} {A : Around} {E : Value → Shared → Prop} {s : Shared} {h₀ : Heap} {L a b : Addr} {m : Str → Option Value} {news : List (Addr × Obj)} {vs : List Value} {ns : List Int} {Q : Value → Shared → Prop}
theorem slice_from {l : Addr} {x : Int} {t : Tok} {o : Obj} {c : Nat} {value slice : PySem.Expr} (F : Fr h₀ L s.heap m) (N : News h₀ L s.heap news) (hm : (l, o) ∈ news) (hc : o.cls = .type "list") (hd : o.data = .seq vs.toArray c) (hx : 0 ≤ x) (hi : IntsAre vs ns)
    (h : ∀ D ws h', Fr h₀ L h' m → News h₀ L h' ((D, listOf (List.toArray ws) 0) :: news) → (∀ p ∈ news, p.1 < D) → IntsAre ws (ns.drop x.toNat) → Q (.ref D) { s with heap := h' })
    (hs : subscripted slice false (.ref l) (.ref s.heap.objs.size) = operate [.ref s.heap.objs.size, .ref l] (getItem (.ref l) (.ref s.heap.objs.size))) (hz : vs.toArray.size ≤ sizeLine) :
    wpAny (model prog w) A (subscriptTail value slice (.ref l) (.ref s.heap.objs.size)) Q E { s with heap := s.heap.push { cls := .type "slice", data := .fields #[.int x t, .none, .none] } } :=
  kba_turn (value' := PySem.Expr.Name (PySem.Str.ofString "_") ⟨0, 0, 0, 0⟩) (fun _ => rfl) (kmk_slice_ints F N ⟨o, (N _ hm).1, hc, c, hd⟩ (.int _ _) .none hi (kmk_from hi hx) rfl (fun D ws h' F' N' l1 hk _ _ => h D ws h' F' N' l1 hk) hs (fun _ => rfl) hz)
end
theorem ib_fmod7 (x : Int) : ib (x.fmod 7) ≤ 3 := intBits_le_iff.mpr (Nat.lt_of_le_of_lt (natAbs_fmod_le x 7 (by decide)) (by decide))
theorem Mid1.mk4 {h₀ h : Heap} {L : Addr} {m : Str → Option Value} {news : List (Addr × Obj)} {s : Shared} {tk : Nat} {aa ab ac ad : Addr} {a1 a2 b1 b2 c1 c2 d1 d2 : Int} {t1 t2 t3 t4 t5 t6 t7 t8 : Tok} (F : Fr h₀ L h m) (N : News h₀ L h news)
    (ha : m (Str.ofString "a") = some (.ref aa)) (hb : m (Str.ofString "b") = some (.ref ab)) (hc : m (Str.ofString "c") = some (.ref ac)) (hd : m (Str.ofString "d") = some (.ref ad))
    (pa : (aa, ({ cls := .type "tuple", data := .seq #[.int a1 t1, .int a2 t2] } : Obj)) ∈ news) (pb : (ab, ({ cls := .type "tuple", data := .seq #[.int b1 t3, .int b2 t4] } : Obj)) ∈ news) (pc : (ac, ({ cls := .type "tuple", data := .seq #[.int c1 t5, .int c2 t6] } : Obj)) ∈ news) (pd : (ad, ({ cls := .type "tuple", data := .seq #[.int d1 t7, .int d2 t8] } : Obj)) ∈ news) (nab : (a1, a2) ≠ (b1, b2)) (ncd : (c1, c2) ≠ (d1, d2))
    (i1 : ib a1 ≤ 1048640) (i2 : ib a2 ≤ 1048640) (i3 : ib b1 ≤ 1048640) (i4 : ib b2 ≤ 1048640) (i5 : ib c1 ≤ 1048640) (i6 : ib c2 ≤ 1048640) (i7 : ib d1 ≤ 1048640) (i8 : ib d2 ≤ 1048640) :
    Mid1 h₀ L s { s with heap := h, toks := tk } :=
  ⟨m, news, h, tk, aa, ab, ac, ad, _, _, _, _, _, _, _, _, _, _, _, _, _, _, _, _, rfl, fr_top4 F ha hb hc hd, N, pa, pb, pc, pd, nab, ncd, i1, i2, i3, i4, i5, i6, i7, i8⟩
section
variable {M : Model} {A : Around} {E : Value → Shared → Prop} {Q : Flow → Shared → Prop} {s : Shared} {env : Env}
theorem tail3m {st1 st2 st3 : Stmt} {rest : List Stmt} {h₀ : Heap} {L : Addr} {m : Str → Option Value} (_F : Fr h₀ L s.heap m) (h2 : Tail M A rest env Q E (Mid1 h₀ L s))
    (h1 : Tail M A rest env Q E (Mid1 h₀ L s) → wpAny M A (execs (st1 :: st2 :: st3 :: rest) env) Q E s) : wpAny M A (execs (st1 :: st2 :: st3 :: rest) env) Q E s := h1 h2
end
theorem Pn.of2 {news : List (Addr × Obj)} {a : Addr} {x y : Int} {t u : Tok} {n : Nat} (h : (a, ({ cls := .type "tuple", data := .seq #[.int x t, .int y u] n } : Obj)) ∈ news) : Pn news a (x, y) := ⟨_, t, u, n, h, rfl, rfl⟩
theorem ne_48 (a b : Int) : (a, b) ≠ (a + 4, b + 8) := by intro e; simp only [Prod.mk.injEq] at e; omega
theorem ne_4 (a b : Int) : (a, b) ≠ (a + 4, b) := by intro e; simp only [Prod.mk.injEq] at e; omega
/-- what «scale» is -/
def ScOk (C S : Int) : Prop := (C = 0 ∧ S = 1) ∨ (C ≠ 0 ∧ S = (C.natAbs : Int))
theorem ScOk.zero {C : Int} (h : (if C < 0 then -C else C) = 0) : ScOk C 1 := by
  left; refine ⟨?_, rfl⟩; split at h <;> omega
theorem ScOk.pos {C : Int} (h : ¬ (if C < 0 then -C else C) = 0) : ScOk C (if C < 0 then -C else C) := by
  right; split at h
  · rename_i q; rw [if_pos q]; exact ⟨by omega, by omega⟩
  · rename_i q; rw [if_neg q]; exact ⟨by omega, by omega⟩
structure Mid2 (h₀ : Heap) (L : Addr) (m : Str → Option Value) (news : List (Addr × Obj)) (C : Int) (s s' : Shared) : Prop where
  at_ : ∃ (h : Heap) (tk : Nat) (S : Int) (t : Tok), s' = { s with heap := h, toks := tk } ∧ Fr h₀ L h (fun y => if y = Str.ofString "scale" then some (.int S t) else m y) ∧ News h₀ L h news ∧ ScOk C S ∧ Builtin.Int.intBits S ≤ 2097400
theorem Mid2.elim {h₀ : Heap} {L : Addr} {m : Str → Option Value} {news : List (Addr × Obj)} {C : Int} {s : Shared} {P : Shared → Prop} (k : ∀ (h : Heap) (tk : Nat) (S : Int) (t : Tok), let m' : Str → Option Value := fun y => if y = Str.ofString "scale" then some (.int S t) else m y; Fr h₀ L h m' → News h₀ L h news → ScOk C S → Builtin.Int.intBits S ≤ 2097400 → P { s with heap := h, toks := tk }) : ∀ s', Mid2 h₀ L m news C s s' → P s' := fun s' hM => by
  obtain ⟨h1, tk1, S1, t1, hs', f0, f1, f2, f3⟩ := hM.at_
  subst hs'
  exact k h1 tk1 S1 t1 f0 f1 f2 f3
theorem Mid2.mk2 {h₀ h : Heap} {L : Addr} {m m' : Str → Option Value} {news all : List (Addr × Obj)} {C S : Int} {s : Shared} {tk : Nat} {t : Tok} (F : Fr h₀ L h m') (hm : m' = fun y => if y = Str.ofString "scale" then some (.int S t) else m y) (N : News h₀ L h all) (hs : ∀ p ∈ news, p ∈ all) (hS : ScOk C S) (hb : ib C ≤ 2097400) :
    Mid2 h₀ L m news C s { s with heap := h, toks := tk } := by
  subst hm
  refine ⟨h, tk, S, t, rfl, F, fun p hp => N _ (hs _ hp), hS, ?_⟩
  rcases hS with ⟨_, rfl⟩ | ⟨_, rfl⟩
  · decide
  · exact intBits_natAbs_le hb
section
variable {M : Model} {A : Around} {E : Value → Shared → Prop} {Q : Flow → Shared → Prop} {s : Shared} {env : Env}
theorem cut_scale {st : Stmt} {rest : List Stmt} {h₀ : Heap} {L : Addr} {m : Str → Option Value} {news : List (Addr × Obj)} {x y u v : Int} {tx ty tu tv : Tok} (_F : Fr h₀ L s.heap m) (_N : News h₀ L s.heap news)
    (_hx : m (Str.ofString "x") = some (.int x tx)) (_hy : m (Str.ofString "y") = some (.int y ty)) (_hu : m (Str.ofString "u") = some (.int u tu)) (_hv : m (Str.ofString "v") = some (.int v tv))
    (h1 : wpAny M A (exec st env) (fun f s' => CutEnd (Mid2 h₀ L m news (x * v - y * u) s) f s') E s)
    (h2 : ∀ s', Mid2 h₀ L m news (x * v - y * u) s s' → wpAny M A (execs rest env) Q E s') : wpAny M A (execs (st :: rest) env) Q E s := cut_any _ h1 h2
end
end
section
open PySem PySem.W PyProof.Rows PySem.Calls PySem.Spec
set_option Elab.async false
set_option maxRecDepth 100000
theorem look_chain {m : Str → Option Value} {x : Str} {v : Value} (h : m x = some v) : (fun y => if y = x then some v else m y) = m := by
  funext y
  by_cases e : y = x
  · rw [if_pos e, e, h]
  · rw [if_neg e]
theorem look_under {m n : Str → Option Value} {x : Str} {v : Value} (h : n x = some v) (e : m = n) : (fun y => if y = x then some v else m y) = n := by
  subst e; exact look_chain h
theorem Sn.of2 {news : List (Addr × Obj)} {a a1 a2 : Addr} {p q : Pt} {n : Nat} (h : (a, ({ cls := .type "tuple", data := .seq #[.ref a1, .ref a2] n } : Obj)) ∈ news) (x : Pn news a1 p) (y : Pn news a2 q) : Sn news a (p, q) := ⟨_, a1, a2, n, h, rfl, rfl, x, y⟩
structure Mid3 (h₀ : Heap) (L : Addr) (s s' : Shared) : Prop where
  at_ : ∃ (m : Str → Option Value) (news : List (Addr × Obj)) (h : Heap) (tk : Nat) (aa ab ac ad one two p1 p2 p3 p4 : Addr) (A1 A2 B1 B2 C1 C2 D1 D2 : Int) (t1 t2 t3 t4 t5 t6 t7 t8 : Tok) (tx ty tc tf tn : Tok), s' = { s with heap := h, toks := tk } ∧
    Fr h₀ L h (fun y => if y = Str.ofString "a" then some (.ref aa) else if y = Str.ofString "b" then some (.ref ab) else if y = Str.ofString "c" then some (.ref ac) else if y = Str.ofString "d" then some (.ref ad) else if y = Str.ofString "one" then some (.ref one) else if y = Str.ofString "two" then some (.ref two) else if y = Str.ofString "x" then some (.int (B1 - A1) tx) else if y = Str.ofString "y" then some (.int (B2 - A2) ty) else if y = Str.ofString "cross" then some (.int (Mine.cross (A1, A2) (B1, B2) (C1, C2) (D1, D2)) tc) else if y = Str.ofString "far" then some (.int (Mine.far (A1, A2) (B1, B2) (C1, C2) (D1, D2)) tf) else if y = Str.ofString "near" then some (.int (Mine.near (A1, A2) (B1, B2) (C1, C2) (D1, D2)) tn) else m y) ∧ News h₀ L h news ∧ (aa, ({ cls := .type "tuple", data := .seq #[.int A1 t1, .int A2 t2] } : Obj)) ∈ news ∧ (ab, ({ cls := .type "tuple", data := .seq #[.int B1 t3, .int B2 t4] } : Obj)) ∈ news ∧ (ac, ({ cls := .type "tuple", data := .seq #[.int C1 t5, .int C2 t6] } : Obj)) ∈ news ∧ (ad, ({ cls := .type "tuple", data := .seq #[.int D1 t7, .int D2 t8] } : Obj)) ∈ news ∧ (one, ({ cls := .type "tuple", data := .seq #[.ref p1, .ref p2] } : Obj)) ∈ news ∧ (two, ({ cls := .type "tuple", data := .seq #[.ref p3, .ref p4] } : Obj)) ∈ news ∧
    Pn news p1 (minP (A1, A2) (B1, B2)) ∧ Pn news p2 (maxP (A1, A2) (B1, B2)) ∧ Pn news p3 (minP (C1, C2) (D1, D2)) ∧ Pn news p4 (maxP (C1, C2) (D1, D2)) ∧ (A1, A2) ≠ (B1, B2) ∧ (C1, C2) ≠ (D1, D2) ∧ (Mine.cross (A1, A2) (B1, B2) (C1, C2) (D1, D2) ≠ 0 → Whole (A1, A2) (B1, B2) (C1, C2) (D1, D2)) ∧ Builtin.Int.intBits A1 ≤ 3146100 ∧ Builtin.Int.intBits A2 ≤ 3146100 ∧ Builtin.Int.intBits B1 ≤ 3146100 ∧ Builtin.Int.intBits B2 ≤ 3146100 ∧ Builtin.Int.intBits C1 ≤ 3146100 ∧ Builtin.Int.intBits C2 ≤ 3146100 ∧ Builtin.Int.intBits D1 ≤ 3146100 ∧ Builtin.Int.intBits D2 ≤ 3146100 ∧
    Builtin.Int.intBits (Mine.cross (A1, A2) (B1, B2) (C1, C2) (D1, D2)) ≤ 6300000 ∧ Builtin.Int.intBits (Mine.far (A1, A2) (B1, B2) (C1, C2) (D1, D2)) ≤ 6300000 ∧ Builtin.Int.intBits (Mine.near (A1, A2) (B1, B2) (C1, C2) (D1, D2)) ≤ 6300000
theorem Mid3.elim {h₀ : Heap} {L : Addr} {s : Shared} {P : Shared → Prop} (k : ∀ (m : Str → Option Value) (news : List (Addr × Obj)) (h : Heap) (tk : Nat) (aa ab ac ad one two p1 p2 p3 p4 : Addr) (A1 A2 B1 B2 C1 C2 D1 D2 : Int) (t1 t2 t3 t4 t5 t6 t7 t8 : Tok) (tx ty tc tf tn : Tok), let m' : Str → Option Value := fun y => if y = Str.ofString "a" then some (.ref aa) else if y = Str.ofString "b" then some (.ref ab) else if y = Str.ofString "c" then some (.ref ac) else if y = Str.ofString "d" then some (.ref ad) else if y = Str.ofString "one" then some (.ref one) else if y = Str.ofString "two" then some (.ref two) else if y = Str.ofString "x" then some (.int (B1 - A1) tx) else if y = Str.ofString "y" then some (.int (B2 - A2) ty) else if y = Str.ofString "cross" then some (.int (Mine.cross (A1, A2) (B1, B2) (C1, C2) (D1, D2)) tc) else if y = Str.ofString "far" then some (.int (Mine.far (A1, A2) (B1, B2) (C1, C2) (D1, D2)) tf) else if y = Str.ofString "near" then some (.int (Mine.near (A1, A2) (B1, B2) (C1, C2) (D1, D2)) tn) else m y; Fr h₀ L h m' → News h₀ L h news → (aa, ({ cls := .type "tuple", data := .seq #[.int A1 t1, .int A2 t2] } : Obj)) ∈ news → (ab, ({ cls := .type "tuple", data := .seq #[.int B1 t3, .int B2 t4] } : Obj)) ∈ news → (ac, ({ cls := .type "tuple", data := .seq #[.int C1 t5, .int C2 t6] } : Obj)) ∈ news → (ad, ({ cls := .type "tuple", data := .seq #[.int D1 t7, .int D2 t8] } : Obj)) ∈ news → (one, ({ cls := .type "tuple", data := .seq #[.ref p1, .ref p2] } : Obj)) ∈ news → (two, ({ cls := .type "tuple", data := .seq #[.ref p3, .ref p4] } : Obj)) ∈ news → Pn news p1 (minP (A1, A2) (B1, B2)) → Pn news p2 (maxP (A1, A2) (B1, B2)) → Pn news p3 (minP (C1, C2) (D1, D2)) → Pn news p4 (maxP (C1, C2) (D1, D2)) → (A1, A2) ≠ (B1, B2) → (C1, C2) ≠ (D1, D2) → (Mine.cross (A1, A2) (B1, B2) (C1, C2) (D1, D2) ≠ 0 → Whole (A1, A2) (B1, B2) (C1, C2) (D1, D2)) → Builtin.Int.intBits A1 ≤ 3146100 → Builtin.Int.intBits A2 ≤ 3146100 → Builtin.Int.intBits B1 ≤ 3146100 → Builtin.Int.intBits B2 ≤ 3146100 → Builtin.Int.intBits C1 ≤ 3146100 → Builtin.Int.intBits C2 ≤ 3146100 → Builtin.Int.intBits D1 ≤ 3146100 → Builtin.Int.intBits D2 ≤ 3146100 → Builtin.Int.intBits (Mine.cross (A1, A2) (B1, B2) (C1, C2) (D1, D2)) ≤ 6300000 → Builtin.Int.intBits (Mine.far (A1, A2) (B1, B2) (C1, C2) (D1, D2)) ≤ 6300000 → Builtin.Int.intBits (Mine.near (A1, A2) (B1, B2) (C1, C2) (D1, D2)) ≤ 6300000 → P { s with heap := h, toks := tk }) : ∀ s', Mid3 h₀ L s s' → P s' := fun s' hM => by
  obtain ⟨m1, news1, h1, tk1, aa1, ab1, ac1, ad1, one1, two1, p11, p21, p31, p41, A11, A21, B11, B21, C11, C21, D11, D21, t11, t21, t31, t41, t51, t61, t71, t81, tx1, ty1, tc1, tf1, tn1, hs', f0, f1, f2, f3, f4, f5, f6, f7, f8, f9, f10, f11, f12, f13, f14, f15, f16, f17, f18, f19, f20, f21, f22, f23, f24, f25⟩ := hM.at_
  subst hs'
  exact k m1 news1 h1 tk1 aa1 ab1 ac1 ad1 one1 two1 p11 p21 p31 p41 A11 A21 B11 B21 C11 C21 D11 D21 t11 t21 t31 t41 t51 t61 t71 t81 tx1 ty1 tc1 tf1 tn1 f0 f1 f2 f3 f4 f5 f6 f7 f8 f9 f10 f11 f12 f13 f14 f15 f16 f17 f18 f19 f20 f21 f22 f23 f24 f25
structure Mid4 (h₀ : Heap) (L : Addr) (s s' : Shared) : Prop where
  at_ : ∃ (m : Str → Option Value) (news : List (Addr × Obj)) (h : Heap) (tk : Nat) (aa ab ac ad : Addr) (vm vl vj vs : Value) (A1 A2 B1 B2 C1 C2 D1 D2 : Int) (t1 t2 t3 t4 t5 t6 t7 t8 : Tok), s' = { s with heap := h, toks := tk } ∧
    Fr h₀ L h (fun y => if y = Str.ofString "a" then some (.ref aa) else if y = Str.ofString "b" then some (.ref ab) else if y = Str.ofString "c" then some (.ref ac) else if y = Str.ofString "d" then some (.ref ad) else if y = Str.ofString "met" then some (vm) else if y = Str.ofString "left" then some (vl) else if y = Str.ofString "joined" then some (vj) else if y = Str.ofString "single" then some (vs) else m y) ∧ News h₀ L h news ∧ (aa, ({ cls := .type "tuple", data := .seq #[.int A1 t1, .int A2 t2] } : Obj)) ∈ news ∧ (ab, ({ cls := .type "tuple", data := .seq #[.int B1 t3, .int B2 t4] } : Obj)) ∈ news ∧ (ac, ({ cls := .type "tuple", data := .seq #[.int C1 t5, .int C2 t6] } : Obj)) ∈ news ∧ (ad, ({ cls := .type "tuple", data := .seq #[.int D1 t7, .int D2 t8] } : Obj)) ∈ news ∧ Rd news vm (toldD (lawSpec (A1, A2) (B1, B2) (C1, C2) (D1, D2)).met) ∧ Rd news vl (toldD ([], (lawSpec (A1, A2) (B1, B2) (C1, C2) (D1, D2)).left)) ∧ Rd news vj (toldD ([], (lawSpec (A1, A2) (B1, B2) (C1, C2) (D1, D2)).joined)) ∧ Rd news vs (toldD ([], (lawSpec (A1, A2) (B1, B2) (C1, C2) (D1, D2)).single)) ∧ (A1, A2) ≠ (B1, B2) ∧ (C1, C2) ≠ (D1, D2) ∧ (Mine.cross (A1, A2) (B1, B2) (C1, C2) (D1, D2) ≠ 0 → Whole (A1, A2) (B1, B2) (C1, C2) (D1, D2)) ∧ Builtin.Int.intBits A1 ≤ 3146100 ∧ Builtin.Int.intBits A2 ≤ 3146100 ∧ Builtin.Int.intBits B1 ≤ 3146100 ∧ Builtin.Int.intBits B2 ≤ 3146100 ∧ Builtin.Int.intBits C1 ≤ 3146100 ∧ Builtin.Int.intBits C2 ≤ 3146100 ∧ Builtin.Int.intBits D1 ≤ 3146100 ∧ Builtin.Int.intBits D2 ≤ 3146100
theorem Mid4.elim {h₀ : Heap} {L : Addr} {s : Shared} {P : Shared → Prop} (k : ∀ (m : Str → Option Value) (news : List (Addr × Obj)) (h : Heap) (tk : Nat) (aa ab ac ad : Addr) (vm vl vj vs : Value) (A1 A2 B1 B2 C1 C2 D1 D2 : Int) (t1 t2 t3 t4 t5 t6 t7 t8 : Tok), let m' : Str → Option Value := fun y => if y = Str.ofString "a" then some (.ref aa) else if y = Str.ofString "b" then some (.ref ab) else if y = Str.ofString "c" then some (.ref ac) else if y = Str.ofString "d" then some (.ref ad) else if y = Str.ofString "met" then some (vm) else if y = Str.ofString "left" then some (vl) else if y = Str.ofString "joined" then some (vj) else if y = Str.ofString "single" then some (vs) else m y; Fr h₀ L h m' → News h₀ L h news → (aa, ({ cls := .type "tuple", data := .seq #[.int A1 t1, .int A2 t2] } : Obj)) ∈ news → (ab, ({ cls := .type "tuple", data := .seq #[.int B1 t3, .int B2 t4] } : Obj)) ∈ news → (ac, ({ cls := .type "tuple", data := .seq #[.int C1 t5, .int C2 t6] } : Obj)) ∈ news → (ad, ({ cls := .type "tuple", data := .seq #[.int D1 t7, .int D2 t8] } : Obj)) ∈ news → Rd news vm (toldD (lawSpec (A1, A2) (B1, B2) (C1, C2) (D1, D2)).met) → Rd news vl (toldD ([], (lawSpec (A1, A2) (B1, B2) (C1, C2) (D1, D2)).left)) → Rd news vj (toldD ([], (lawSpec (A1, A2) (B1, B2) (C1, C2) (D1, D2)).joined)) → Rd news vs (toldD ([], (lawSpec (A1, A2) (B1, B2) (C1, C2) (D1, D2)).single)) → (A1, A2) ≠ (B1, B2) → (C1, C2) ≠ (D1, D2) → (Mine.cross (A1, A2) (B1, B2) (C1, C2) (D1, D2) ≠ 0 → Whole (A1, A2) (B1, B2) (C1, C2) (D1, D2)) → Builtin.Int.intBits A1 ≤ 3146100 → Builtin.Int.intBits A2 ≤ 3146100 → Builtin.Int.intBits B1 ≤ 3146100 → Builtin.Int.intBits B2 ≤ 3146100 → Builtin.Int.intBits C1 ≤ 3146100 → Builtin.Int.intBits C2 ≤ 3146100 → Builtin.Int.intBits D1 ≤ 3146100 → Builtin.Int.intBits D2 ≤ 3146100 → P { s with heap := h, toks := tk }) : ∀ s', Mid4 h₀ L s s' → P s' := fun s' hM => by
  obtain ⟨m1, news1, h1, tk1, aa1, ab1, ac1, ad1, vm1, vl1, vj1, vs1, A11, A21, B11, B21, C11, C21, D11, D21, t11, t21, t31, t41, t51, t61, t71, t81, hs', f0, f1, f2, f3, f4, f5, f6, f7, f8, f9, f10, f11, f12, f13, f14, f15, f16, f17, f18, f19, f20⟩ := hM.at_
  subst hs'
  exact k m1 news1 h1 tk1 aa1 ab1 ac1 ad1 vm1 vl1 vj1 vs1 A11 A21 B11 B21 C11 C21 D11 D21 t11 t21 t31 t41 t51 t61 t71 t81 f0 f1 f2 f3 f4 f5 f6 f7 f8 f9 f10 f11 f12 f13 f14 f15 f16 f17 f18 f19 f20
theorem Mid4.mk4 {h₀ h : Heap} {L : Addr} {m : Str → Option Value} {news : List (Addr × Obj)} {s : Shared} {tk : Nat} {aa ab ac ad : Addr} {vm vl vj vs : Value} {A1 A2 B1 B2 C1 C2 D1 D2 : Int} {t1 t2 t3 t4 t5 t6 t7 t8 : Tok} {sp : Spec} (F : Fr h₀ L h m) (N : News h₀ L h news)
    (la : m (Str.ofString "a") = some (.ref aa)) (lb : m (Str.ofString "b") = some (.ref ab)) (lc : m (Str.ofString "c") = some (.ref ac)) (ld : m (Str.ofString "d") = some (.ref ad)) (lmet : m (Str.ofString "met") = some (vm)) (lleft : m (Str.ofString "left") = some (vl)) (ljoined : m (Str.ofString "joined") = some (vj)) (lsingle : m (Str.ofString "single") = some (vs))
    (pa : (aa, ({ cls := .type "tuple", data := .seq #[.int A1 t1, .int A2 t2] } : Obj)) ∈ news) (pb : (ab, ({ cls := .type "tuple", data := .seq #[.int B1 t3, .int B2 t4] } : Obj)) ∈ news) (pc : (ac, ({ cls := .type "tuple", data := .seq #[.int C1 t5, .int C2 t6] } : Obj)) ∈ news) (pd : (ad, ({ cls := .type "tuple", data := .seq #[.int D1 t7, .int D2 t8] } : Obj)) ∈ news) (e : lawSpec (A1, A2) (B1, B2) (C1, C2) (D1, D2) = sp) (Rm : Rd news vm (toldD sp.met)) (Rl : Rd news vl (toldD ([], sp.left))) (Rj : Rd news vj (toldD ([], sp.joined))) (Rs : Rd news vs (toldD ([], sp.single)))
    (nab : (A1, A2) ≠ (B1, B2)) (ncd : (C1, C2) ≠ (D1, D2)) (hW : Mine.cross (A1, A2) (B1, B2) (C1, C2) (D1, D2) ≠ 0 → Whole (A1, A2) (B1, B2) (C1, C2) (D1, D2)) (i1 : Builtin.Int.intBits A1 ≤ 3146100) (i2 : Builtin.Int.intBits A2 ≤ 3146100) (i3 : Builtin.Int.intBits B1 ≤ 3146100) (i4 : Builtin.Int.intBits B2 ≤ 3146100) (i5 : Builtin.Int.intBits C1 ≤ 3146100) (i6 : Builtin.Int.intBits C2 ≤ 3146100) (i7 : Builtin.Int.intBits D1 ≤ 3146100) (i8 : Builtin.Int.intBits D2 ≤ 3146100) :
    Mid4 h₀ L s { s with heap := h, toks := tk } := by
  subst e
  refine ⟨m, news, h, tk, aa, ab, ac, ad, vm, vl, vj, vs, _, _, _, _, _, _, _, _, _, _, _, _, _, _, _, _, rfl, ?_, N, pa, pb, pc, pd, Rm, Rl, Rj, Rs, nab, ncd, hW, i1, i2, i3, i4, i5, i6, i7, i8⟩
  exact Eq.mpr (congrArg (fun m' => Fr h₀ L h m') ((look_under la (look_under lb (look_under lc (look_under ld (look_under lmet (look_under lleft (look_under ljoined (look_under lsingle rfl)))))))) : (fun y => if y = Str.ofString "a" then some (.ref aa) else if y = Str.ofString "b" then some (.ref ab) else if y = Str.ofString "c" then some (.ref ac) else if y = Str.ofString "d" then some (.ref ad) else if y = Str.ofString "met" then some (vm) else if y = Str.ofString "left" then some (vl) else if y = Str.ofString "joined" then some (vj) else if y = Str.ofString "single" then some (vs) else m y) = m)) F
theorem Mid3.mk3 {h₀ h : Heap} {L : Addr} {m : Str → Option Value} {news : List (Addr × Obj)} {s : Shared} {tk : Nat} {aa ab ac ad one two p1 p2 p3 p4 : Addr} {a1 a2 b1 b2 c1 c2 d1 d2 S : Int} {t1 t2 t3 t4 t5 t6 t7 t8 tx ty tc tf tn : Tok} (F : Fr h₀ L h m) (N : News h₀ L h news)
    (la : m (Str.ofString "a") = some (.ref aa)) (lb : m (Str.ofString "b") = some (.ref ab)) (lc : m (Str.ofString "c") = some (.ref ac)) (ld : m (Str.ofString "d") = some (.ref ad)) (lone : m (Str.ofString "one") = some (.ref one)) (ltwo : m (Str.ofString "two") = some (.ref two)) (lx : m (Str.ofString "x") = some (.int ((b1 - a1) * S) tx)) (ly : m (Str.ofString "y") = some (.int ((b2 - a2) * S) ty)) (lcross : m (Str.ofString "cross") = some (.int ((b1 - a1) * S * ((d2 - c2) * S) - (b2 - a2) * S * ((d1 - c1) * S)) tc)) (lfar : m (Str.ofString "far") = some (.int ((c1 * S - a1 * S) * ((d2 - c2) * S) - (c2 * S - a2 * S) * ((d1 - c1) * S)) tf)) (lnear : m (Str.ofString "near") = some (.int ((c1 * S - a1 * S) * ((b2 - a2) * S) - (c2 * S - a2 * S) * ((b1 - a1) * S)) tn))
    (pa : (aa, ({ cls := .type "tuple", data := .seq #[.int (a1 * S) t1, .int (a2 * S) t2] } : Obj)) ∈ news) (pb : (ab, ({ cls := .type "tuple", data := .seq #[.int (b1 * S) t3, .int (b2 * S) t4] } : Obj)) ∈ news) (pc : (ac, ({ cls := .type "tuple", data := .seq #[.int (c1 * S) t5, .int (c2 * S) t6] } : Obj)) ∈ news) (pd : (ad, ({ cls := .type "tuple", data := .seq #[.int (d1 * S) t7, .int (d2 * S) t8] } : Obj)) ∈ news) (po : (one, ({ cls := .type "tuple", data := .seq #[.ref p1, .ref p2] } : Obj)) ∈ news) (pt : (two, ({ cls := .type "tuple", data := .seq #[.ref p3, .ref p4] } : Obj)) ∈ news)
    (q1 : Pn news p1 (minP (a1 * S, a2 * S) (b1 * S, b2 * S))) (q2 : Pn news p2 (maxP (a1 * S, a2 * S) (b1 * S, b2 * S))) (q3 : Pn news p3 (minP (c1 * S, c2 * S) (d1 * S, d2 * S))) (q4 : Pn news p4 (maxP (c1 * S, c2 * S) (d1 * S, d2 * S)))
    (nab : (a1, a2) ≠ (b1, b2)) (ncd : (c1, c2) ≠ (d1, d2)) (hS : ScOk ((b1 - a1) * (d2 - c2) - (b2 - a2) * (d1 - c1)) S) (bS : ib S ≤ 2097400) (i1 : ib a1 ≤ 1048640) (i2 : ib a2 ≤ 1048640) (i3 : ib b1 ≤ 1048640) (i4 : ib b2 ≤ 1048640) (i5 : ib c1 ≤ 1048640) (i6 : ib c2 ≤ 1048640) (i7 : ib d1 ≤ 1048640) (i8 : ib d2 ≤ 1048640) :
    Mid3 h₀ L s { s with heap := h, toks := tk } := by
  have eX : (b1 - a1) * S = b1 * S - a1 * S := Int.sub_mul ..
  have eY : (b2 - a2) * S = b2 * S - a2 * S := Int.sub_mul ..
  have eU : (d1 - c1) * S = d1 * S - c1 * S := Int.sub_mul ..
  have eV : (d2 - c2) * S = d2 * S - c2 * S := Int.sub_mul ..
  have hC : (b1 - a1) * (d2 - c2) - (b2 - a2) * (d1 - c1) = Mine.cross (a1, a2) (b1, b2) (c1, c2) (d1, d2) := rfl
  rw [hC] at hS
  have hS0 : S ≠ 0 := by rcases hS with ⟨_, e⟩ | ⟨e1, e2⟩ <;> omega
  have bm : ∀ {z : Int}, ib z ≤ 1048640 → ib (z * S) ≤ 3146100 := fun h => Nat.le_trans (intBits_mul_le h bS) (by decide)
  have bd : ∀ {z w : Int}, ib z ≤ 3146100 → ib w ≤ 3146100 → ib (z - w) ≤ 3146101 := fun h k => Nat.le_trans (intBits_sub_le h k) (by decide)
  have bx : ∀ {z w u v : Int}, ib z ≤ 3146101 → ib w ≤ 3146101 → ib u ≤ 3146101 → ib v ≤ 3146101 → ib (z * w - u * v) ≤ 6300000 := fun h1 h2 h3 h4 => Nat.le_trans (intBits_sub_le (intBits_mul_le h1 h2) (intBits_mul_le h3 h4)) (by decide)
  rw [eX] at lx; rw [eY] at ly
  rw [eX, eY, eU, eV] at lcross
  rw [eU, eV] at lfar
  rw [eX, eY] at lnear
  have n1 : ((a1 * S, a2 * S) : Pt) ≠ (b1 * S, b2 * S) := scl_ne (a := (a1, a2)) (b := (b1, b2)) hS0 nab
  have n2 : ((c1 * S, c2 * S) : Pt) ≠ (d1 * S, d2 * S) := scl_ne (a := (c1, c2)) (b := (d1, d2)) hS0 ncd
  have hW : Mine.cross (a1 * S, a2 * S) (b1 * S, b2 * S) (c1 * S, c2 * S) (d1 * S, d2 * S) ≠ 0 → Whole (a1 * S, a2 * S) (b1 * S, b2 * S) (c1 * S, c2 * S) (d1 * S, d2 * S) := by
    intro h0
    rcases hS with ⟨e1, e2⟩ | ⟨e1, e2⟩
    · exfalso
      have q := cross_scl (a := (a1, a2)) (b := (b1, b2)) (c := (c1, c2)) (d := (d1, d2)) (S := S)
      rw [e1, Int.zero_mul] at q
      exact h0 q
    · refine whole_scl (a := (a1, a2)) (b := (b1, b2)) (c := (c1, c2)) (d := (d1, d2)) (S := S) ?_
      omega
  refine ⟨m, news, h, tk, aa, ab, ac, ad, one, two, p1, p2, p3, p4, _, _, _, _, _, _, _, _, _, _, _, _, _, _, _, _, tx, ty, tc, tf, tn, rfl, ?_, N, pa, pb, pc, pd, po, pt, q1, q2, q3, q4, n1, n2, hW, bm i1, bm i2, bm i3, bm i4, bm i5, bm i6, bm i7, bm i8, ?_, ?_, ?_⟩
  · exact Eq.mpr (congrArg (fun m' => Fr h₀ L h m') (look_under la (look_under lb (look_under lc (look_under ld (look_under lone (look_under ltwo (look_under lx (look_under ly (look_under lcross (look_under lfar (look_under lnear rfl)))))))))))) F
  · exact bx (bd (bm i3) (bm i1)) (bd (bm i8) (bm i6)) (bd (bm i4) (bm i2)) (bd (bm i7) (bm i5))
  · exact bx (bd (bm i5) (bm i1)) (bd (bm i8) (bm i6)) (bd (bm i6) (bm i2)) (bd (bm i7) (bm i5))
  · exact bx (bd (bm i5) (bm i1)) (bd (bm i4) (bm i2)) (bd (bm i6) (bm i2)) (bd (bm i3) (bm i1))
section
variable {M : Model} {A : Around} {E : Value → Shared → Prop} {Q : Flow → Shared → Prop} {s : Shared} {env : Env}
theorem at_mid {c : List Stmt} (Mid : Shared → Prop) (h : Mid s) (k : ∀ s', Mid s' → wpAny M A (execs c env) Q E s') : wpAny M A (execs c env) Q E s := k _ h
theorem at_mid3 {c : List Stmt} {h₀ : Heap} {L : Addr} {m : Str → Option Value} (_F : Fr h₀ L s.heap m) (h : Mid3 h₀ L s s) (k : ∀ s', Mid3 h₀ L s s' → wpAny M A (execs c env) Q E s') : wpAny M A (execs c env) Q E s := k _ h
theorem tail1m {st1 : Stmt} {rest : List Stmt} {h₀ : Heap} {L : Addr} {m : Str → Option Value} (_F : Fr h₀ L s.heap m) (h2 : Tail M A rest env Q E (Mid4 h₀ L s))
    (h1 : Tail M A rest env Q E (Mid4 h₀ L s) → wpAny M A (execs (st1 :: rest) env) Q E s) : wpAny M A (execs (st1 :: rest) env) Q E s := h1 h2
end
end
section
open PySem PySem.W PyProof.Rows PySem.Calls PySem.Spec
set_option Elab.async false
inductive PtsAre (h : Heap) : List Value → List Pt → Prop
  | nil : PtsAre h [] []
  | cons {v : Value} {p : Pt} {vs : List Value} {ps : List Pt} (a : IsPt (.type "tuple") h v p) (b : PtsAre h vs ps) : PtsAre h (v :: vs) (p :: ps)
section
variable {prog : Program} {w : World} {A : Around} {E : Value → Shared → Prop} {s : Shared}
theorem tuple_contains_pts {t : Addr} {items : Array Value} {ps : List Pt} {v : Value} {x : Pt} {P : Fin → Shared → Prop} (ht : IsTup s.heap t items) (hu : A.units + 1 < cLine) (hi : PtsAre s.heap items.toList ps) (hx : IsPt (.type "tuple") s.heap v x)
    (h : P (.done (.ret (.bool (ps.any (fun p => decide (p = x)))))) s) : wpAny (model prog w) A (Builtin.«tuple.__contains__» ⟨[.ref t, v], []⟩) P E s := by
  show wpAny _ _ (Builtin.Tuple.tupleItemsOf (.ref t) >>= _) _ _ s
  refine wpAny_bind (tupleItemsOf_ ht ?_)
  refine wpAny_bind (forIn_array_ _ (fun rest b s' => b.1 = none ∧ s' = s ∧ ∃ ms, PtsAre s.heap rest ms ∧ P (.done (.ret (.bool (ms.any (fun p => decide (p = x)))))) s) _ ?_ ?_ items _ ⟨rfl, rfl, ps, hi, h⟩)
  · rintro y rest b s' ⟨hb, rfl, ms, hm, hP⟩
    cases hm with
    | @cons _ n _ _ hn hm' =>
      refine wpAny_bind (pt_eqb (k := 0) (tupCls_tuple _ _) hn hx A _ _ _ rfl (by omega) ?_)
      rw [List.any_cons] at hP
      cases hnx : decide (n = x) with
      | true =>
        rw [hnx] at hP
        exact wpAny_bind (wpAny_pure (wpAny_pure (wpAny_pure (by simpa using hP))))
      | false =>
        rw [hnx] at hP
        exact wpAny_pure ⟨rfl, rfl, _, hm', by simpa using hP⟩
  · rintro ⟨b1, b2⟩ s' ⟨hb, rfl, ms, hm, hP⟩
    cases hm
    simp only at hb
    subst hb
    exact wpAny_pure (by simpa using hP)
theorem contains_tuple_pts {t : Addr} {items : Array Value} {ps : List Pt} {v : Value} {x : Pt} {Q : Bool → Shared → Prop} (ht : IsTup s.heap t items) (hu : A.units + 8 < cLine) (hi : PtsAre s.heap items.toList ps) (hx : IsPt (.type "tuple") s.heap v x)
    (h : Q (ps.any (fun p => decide (p = x))) s) : wpAny (model prog w) A (contains (.ref t) v) Q E s := by
  unfold contains
  refine wpAny_holding ?_
  refine wpAny_bind (wpAny_specialOf ht.typeIs slot_tuple_contains.lookup ?_)
  rw [if_neg (by decide)]
  exact wpAny_bind (wpAny_callSpecialUnlessNone?_slot (name := Str.ofString "__contains__") ht.typeIs slot_tuple_contains
    (wpAny_call_entry slot_tuple_contains ht.typeIs entry_tuple_contains (tuple_contains_pts ht (by first | omega | (rw [units_in1]; omega)) hi hx ⟨_, rfl, wpAny_truthy_bool h⟩) (args_tuple_contains _ _)))
end
section
variable {prog : Program} {w : World} {A : Around} {E Q : Value → Shared → Prop} {s : Shared} {h₀ : Heap} {L t a a1 a2 : Addr} {news : List (Addr × Obj)} {p q r : Pt} {n : Nat}
theorem notin_pn (N : News h₀ L s.heap news) (hu : A.units + 8 < cLine) (hm : (t, ({ cls := .type "tuple", data := .seq #[.ref a1, .ref a2] n } : Obj)) ∈ news) (x : Pn news a r) (y : Pn news a1 p) (z : Pn news a2 q) (h : Q (.bool (!(decide (p = r) || decide (q = r)))) s) :
    wpAny (model prog w) A (compareOp .NotIn (.ref a) (.ref t)) Q E s := by
  show wpAny _ _ (do return .bool (!(← contains (.ref t) (.ref a)))) Q E s
  refine wpAny_bind (contains_tuple_pts (ps := [p, q]) (N.isTup hm) hu (.cons (y.pt N) (.cons (z.pt N) .nil)) (x.pt N) (wpAny_pure ?_))
  simpa using h
end
end
section
set_option maxRecDepth 100000
section
variable {a b c d : Pt} {one two : Sg} {C F N : Int}
theorem lawSpec_par (h : cross a b c d = 0) (k : near a b c d ≠ 0) : lawSpec a b c d = dflt (minP a b, maxP a b) (minP c d, maxP c d) := by
  unfold lawSpec; dsimp only; rw [if_pos h, if_neg k]
theorem lawSpec_col (h : cross a b c d = 0) (k : near a b c d = 0) : lawSpec a b c d = specCol (minP a b, maxP a b) (minP c d, maxP c d) := by
  unfold lawSpec; dsimp only; rw [if_pos h, if_pos k]
theorem lawSpec_neg (h : cross a b c d ≠ 0) (k : cross a b c d < 0) : lawSpec a b c d = specPos a b (minP a b, maxP a b) (minP c d, maxP c d) (-cross a b c d) (-far a b c d) (-near a b c d) := by
  unfold lawSpec; dsimp only; rw [if_neg h, if_pos k]
theorem lawSpec_pos (h : cross a b c d ≠ 0) (k : ¬ cross a b c d < 0) : lawSpec a b c d = specPos a b (minP a b, maxP a b) (minP c d, maxP c d) (cross a b c d) (far a b c d) (near a b c d) := by
  unfold lawSpec; dsimp only; rw [if_neg h, if_neg k]
theorem sp_o1 (h : ¬ 0 ≤ F) : specPos a b one two C F N = dflt one two := by unfold specPos; rw [if_neg (fun q => h q.1)]
theorem sp_o2 (h : ¬ F ≤ C) : specPos a b one two C F N = dflt one two := by unfold specPos; rw [if_neg (fun q => h q.2.1)]
theorem sp_o3 (h : ¬ 0 ≤ N) : specPos a b one two C F N = dflt one two := by unfold specPos; rw [if_neg (fun q => h q.2.2.1)]
theorem sp_o4 (h : ¬ N ≤ C) : specPos a b one two C F N = dflt one two := by unfold specPos; rw [if_neg (fun q => h q.2.2.2)]
def spotL (a b : Pt) (C F : Int) : Pt := (a.1 + ((b.1 - a.1) * F).fdiv C, a.2 + ((b.2 - a.2) * F).fdiv C)
theorem dec_or {p q r : Pt} (h : (decide (p = r) || decide (q = r)) = true) : ¬ (r ≠ p ∧ r ≠ q) := by
  rw [Bool.or_eq_true, decide_eq_true_eq, decide_eq_true_eq] at h
  rintro ⟨k, l⟩
  rcases h with h | h
  · exact k h.symm
  · exact l h.symm
theorem dec_nor {p q r : Pt} (h : (decide (p = r) || decide (q = r)) = false) : r ≠ p ∧ r ≠ q := by
  rw [Bool.or_eq_false_iff, decide_eq_false_iff_not, decide_eq_false_iff_not] at h
  exact ⟨fun e => h.1 e.symm, fun e => h.2 e.symm⟩
theorem sp_e1 {p q : Pt} (h1 : 0 ≤ F) (h2 : F ≤ C) (h3 : 0 ≤ N) (h4 : N ≤ C) (h : (decide (p = (a.1 + ((b.1 - a.1) * F).fdiv C, a.2 + ((b.2 - a.2) * F).fdiv C)) || decide (q = (a.1 + ((b.1 - a.1) * F).fdiv C, a.2 + ((b.2 - a.2) * F).fdiv C))) = true) :
    specPos a b (p, q) two C F N = ⟨([(a.1 + ((b.1 - a.1) * F).fdiv C, a.2 + ((b.2 - a.2) * F).fdiv C)], []), [(p, q)], srtS [(p, q), two], srtS [(p, q), two]⟩ := by
  unfold specPos; rw [if_pos ⟨h1, h2, h3, h4⟩]; dsimp only; rw [if_neg (fun z => dec_or h z.1)]
theorem sp_e2 {r t : Pt} (h1 : 0 ≤ F) (h2 : F ≤ C) (h3 : 0 ≤ N) (h4 : N ≤ C) (h : (decide (r = (a.1 + ((b.1 - a.1) * F).fdiv C, a.2 + ((b.2 - a.2) * F).fdiv C)) || decide (t = (a.1 + ((b.1 - a.1) * F).fdiv C, a.2 + ((b.2 - a.2) * F).fdiv C))) = true) :
    specPos a b one (r, t) C F N = ⟨([(a.1 + ((b.1 - a.1) * F).fdiv C, a.2 + ((b.2 - a.2) * F).fdiv C)], []), [one], srtS [one, (r, t)], srtS [one, (r, t)]⟩ := by
  unfold specPos; rw [if_pos ⟨h1, h2, h3, h4⟩]; dsimp only; rw [if_neg (fun z => dec_or h z.2)]
theorem sp_in {p q r t : Pt} (h1 : 0 ≤ F) (h2 : F ≤ C) (h3 : 0 ≤ N) (h4 : N ≤ C)
    (h : (decide (p = (a.1 + ((b.1 - a.1) * F).fdiv C, a.2 + ((b.2 - a.2) * F).fdiv C)) || decide (q = (a.1 + ((b.1 - a.1) * F).fdiv C, a.2 + ((b.2 - a.2) * F).fdiv C))) = false)
    (k : (decide (r = (a.1 + ((b.1 - a.1) * F).fdiv C, a.2 + ((b.2 - a.2) * F).fdiv C)) || decide (t = (a.1 + ((b.1 - a.1) * F).fdiv C, a.2 + ((b.2 - a.2) * F).fdiv C))) = false) :
    specPos a b (p, q) (r, t) C F N = ⟨([(a.1 + ((b.1 - a.1) * F).fdiv C, a.2 + ((b.2 - a.2) * F).fdiv C)], []), [(p, q)],
      srtS [(p, (a.1 + ((b.1 - a.1) * F).fdiv C, a.2 + ((b.2 - a.2) * F).fdiv C)), ((a.1 + ((b.1 - a.1) * F).fdiv C, a.2 + ((b.2 - a.2) * F).fdiv C), q), (r, (a.1 + ((b.1 - a.1) * F).fdiv C, a.2 + ((b.2 - a.2) * F).fdiv C)), ((a.1 + ((b.1 - a.1) * F).fdiv C, a.2 + ((b.2 - a.2) * F).fdiv C), t)],
      srtS [(p, (a.1 + ((b.1 - a.1) * F).fdiv C, a.2 + ((b.2 - a.2) * F).fdiv C)), ((a.1 + ((b.1 - a.1) * F).fdiv C, a.2 + ((b.2 - a.2) * F).fdiv C), q), (r, (a.1 + ((b.1 - a.1) * F).fdiv C, a.2 + ((b.2 - a.2) * F).fdiv C)), ((a.1 + ((b.1 - a.1) * F).fdiv C, a.2 + ((b.2 - a.2) * F).fdiv C), t)]⟩ := by
  unfold specPos; rw [if_pos ⟨h1, h2, h3, h4⟩]; dsimp only; rw [if_pos ⟨dec_nor h, dec_nor k⟩]
theorem sc_eq (h : maxP one.1 two.1 = minP one.2 two.2) : specCol one two = ⟨([maxP one.1 two.1], []), [one], [(minP one.1 two.1, maxP one.2 two.2)], [(minP one.1 two.1, maxP one.2 two.2)]⟩ := by
  unfold specCol; dsimp only; rw [if_pos h]
theorem sc_lt (h : ¬ maxP one.1 two.1 = minP one.2 two.2) (k : ltP (maxP one.1 two.1) (minP one.2 two.2) = true) : specCol one two =
    ⟨([], [(maxP one.1 two.1, minP one.2 two.2)]), (restS one two).filter ltE, [(minP one.1 two.1, maxP one.2 two.2)], srtS ((restS one two ++ [(two.1, maxP one.1 two.1), (minP one.2 two.2, two.2)]).filter ltE)⟩ := by
  unfold specCol; dsimp only; rw [if_neg h, if_pos k]
theorem sc_gt (h : ¬ maxP one.1 two.1 = minP one.2 two.2) (k : ltP (maxP one.1 two.1) (minP one.2 two.2) = false) : specCol one two = dflt one two := by
  unfold specCol dflt; dsimp only; rw [if_neg h, if_neg (by rw [k]; decide)]
end
end
section
open PySem PySem.W PyProof.Rows PySem.Calls PySem.Spec
set_option Elab.async false
section
variable {n : List (Addr × Obj)} {l a a0 a1 a2 a3 : Addr} {c : Nat} {p : Pt} {s t q0 q1 q2 q3 : Sg} {x : List Sg}
theorem rdf0 (h : (l, listOf #[] c) ∈ n) : Rd n (.ref l) (toldD ([], [])) := rd0 h rfl rfl
theorem rdfp (h : (l, listOf #[.ref a] c) ∈ n) (y : Pn n a p) : Rd n (.ref l) (toldD ([p], [])) := rd1 h rfl rfl y.rd
theorem rdf1 (h : (l, listOf #[.ref a] c) ∈ n) (y : Sn n a s) : Rd n (.ref l) (toldD ([], [s])) := rd1 h rfl rfl y.rd
theorem rdf2 (h : (l, listOf #[.ref a0, .ref a1] c) ∈ n) (y0 : Sn n a0 q0) (y1 : Sn n a1 q1) (e : srtS x = [q0, q1]) : Rd n (.ref l) (toldD ([], srtS x)) := by
  rw [e]; exact rd2 h rfl rfl y0.rd y1.rd
theorem rdf4 (h : (l, listOf #[.ref a0, .ref a1, .ref a2, .ref a3] c) ∈ n) (y0 : Sn n a0 q0) (y1 : Sn n a1 q1) (y2 : Sn n a2 q2) (y3 : Sn n a3 q3) (e : srtS x = [q0, q1, q2, q3]) : Rd n (.ref l) (toldD ([], srtS x)) := by
  rw [e]; exact rd4 h rfl rfl y0.rd y1.rd y2.rd y3.rd
end
theorem cr_neg0 {a b c d : Pt} (h : -Mine.cross a b c d = 0) (k : Mine.cross a b c d ≠ 0) : False := k (by omega)
theorem cr_pos0 {a b c d : Pt} (h : Mine.cross a b c d = 0) (k : Mine.cross a b c d ≠ 0) : False := k h
theorem ib_get8 {x0 x1 x2 x3 x4 x5 x6 x7 : Int} {i k : Nat} (h0 : ib x0 ≤ k) (h1 : ib x1 ≤ k) (h2 : ib x2 ≤ k) (h3 : ib x3 ≤ k) (h4 : ib x4 ≤ k) (h5 : ib x5 ≤ k) (h6 : ib x6 ≤ k) (h7 : ib x7 ≤ k) : ib ([x0, x1, x2, x3, x4, x5, x6, x7].getD i 0) ≤ k :=
  match i with
  | 0 => h0
  | 1 => h1
  | 2 => h2
  | 3 => h3
  | 4 => h4
  | 5 => h5
  | 6 => h6
  | 7 => h7
  | n + 8 => Nat.le_trans (by decide : ib 0 ≤ 0) (Nat.zero_le k)
end
section
open PySem PySem.W PyProof.Rows PySem.Calls PySem.Spec
set_option Elab.async false
section
variable {p q r s : Pt} {l : List Sg}
theorem fil_t (h : ltP p q = true) : ((p, q) :: l).filter ltE = (p, q) :: l.filter ltE := by rw [List.filter_cons]; simp [ltE, h]
theorem fil_f (h : ltP p q = false) : ((p, q) :: l).filter ltE = l.filter ltE := by rw [List.filter_cons]; simp [ltE, h]
theorem fil_tc {x : List Sg} (h : ltP p q = true) (k : l.filter ltE = x) : ((p, q) :: l).filter ltE = (p, q) :: x := by rw [fil_t h, k]
theorem fil_fc {x : List Sg} (h : ltP p q = false) (k : l.filter ltE = x) : ((p, q) :: l).filter ltE = x := by rw [fil_f h, k]
theorem fil_n : ([] : List Sg).filter ltE = [] := rfl
/-- both starts cannot lie ahead of the later one -/
theorem low_excl (h : ltP p (maxP p r) = true) (k : ltP r (maxP p r) = true) : False := by
  unfold maxP at h k
  split at h
  · rename_i g; rw [if_pos g] at k; rw [ltP_irr] at k; exact absurd k (by decide)
  · rw [ltP_irr] at h; exact absurd h (by decide)
theorem high_excl (h : ltP (minP q s) q = true) (k : ltP (minP q s) s = true) : False := by
  unfold minP at h k
  split at h
  · rename_i g; rw [if_pos g] at k; rw [ltP_irr] at k; exact absurd k (by decide)
  · rw [ltP_irr] at h; exact absurd h (by decide)
end
/-- behind a store of a told list -/
structure MidR (h₀ : Heap) (L : Addr) (x : Str) (m : Str → Option Value) (news : List (Addr × Obj)) (d : List Pt × List Sg) (s s' : Shared) : Prop where
  at_ : ∃ (nw : List (Addr × Obj)) (l : Addr) (h : Heap) (tk : Nat), s' = { s with heap := h, toks := tk } ∧ Fr h₀ L h (fun y => if y = x then some (.ref l) else m y) ∧ News h₀ L h (nw ++ news) ∧ Rd (nw ++ news) (.ref l) (toldD d)
theorem MidR.elim {h₀ : Heap} {L : Addr} {x : Str} {m : Str → Option Value} {news : List (Addr × Obj)} {d : List Pt × List Sg} {s : Shared} {P : Shared → Prop} (k : ∀ (nw : List (Addr × Obj)) (l : Addr) (h : Heap) (tk : Nat), let m' : Str → Option Value := fun y => if y = x then some (.ref l) else m y; Fr h₀ L h m' → News h₀ L h (nw ++ news) → Rd (nw ++ news) (.ref l) (toldD d) → P { s with heap := h, toks := tk }) : ∀ s', MidR h₀ L x m news d s s' → P s' := fun s' hM => by
  obtain ⟨nw1, l1, h1, tk1, hs', f0, f1, f2⟩ := hM.at_
  subst hs'
  exact k nw1 l1 h1 tk1 f0 f1 f2
theorem MidR.mkR {h₀ h : Heap} {L l : Addr} {x : Str} {m m' : Str → Option Value} {news all : List (Addr × Obj)} {d d' : List Pt × List Sg} {s : Shared} {tk : Nat} (F : Fr h₀ L h m') (hm : m' = fun y => if y = x then some (.ref l) else m y) (N : News h₀ L h all) (hs : ∀ p ∈ news, p ∈ all) (e : d = d') (R : Rd all (.ref l) (toldD d')) :
    MidR h₀ L x m news d s { s with heap := h, toks := tk } := by
  subst hm e
  exact ⟨all, l, h, tk, rfl, F, ret_all N hs, R.mono fun _ hx => List.mem_append_left _ hx⟩
theorem MidR.mkL {h₀ h : Heap} {L l : Addr} {x : Str} {m m' : Str → Option Value} {news all : List (Addr × Obj)} {d d' : List Sg} {s : Shared} {tk : Nat} (F : Fr h₀ L h m') (hm : m' = fun y => if y = x then some (.ref l) else m y) (N : News h₀ L h all) (hs : ∀ p ∈ news, p ∈ all) (e : d = d') (R : Rd all (.ref l) (toldD ([], d'))) :
    MidR h₀ L x m news ([], d) s { s with heap := h, toks := tk } := MidR.mkR F hm N hs (by rw [e]) R
theorem MidR.mkS {h₀ h : Heap} {L l : Addr} {x : Str} {m m' : Str → Option Value} {news all : List (Addr × Obj)} {d d' t : List Sg} {s : Shared} {tk : Nat} (F : Fr h₀ L h m') (hm : m' = fun y => if y = x then some (.ref l) else m y) (N : News h₀ L h all) (hs : ∀ p ∈ news, p ∈ all) (e : d = d') (k : srtS d' = t) (R : Rd all (.ref l) (toldD ([], t))) :
    MidR h₀ L x m news ([], srtS d) s { s with heap := h, toks := tk } := MidR.mkR F hm N hs (by rw [e, k]) R
section
variable {M : Model} {A : Around} {E : Value → Shared → Prop} {Q : Flow → Shared → Prop} {s : Shared} {env : Env}
theorem cut_told {st : Stmt} {rest : List Stmt} {h₀ : Heap} {L : Addr} {m : Str → Option Value} {news : List (Addr × Obj)} (x : Str) (d : List Pt × List Sg) (_F : Fr h₀ L s.heap m) (_N : News h₀ L s.heap news)
    (h1 : wpAny M A (exec st env) (fun f s' => CutEnd (MidR h₀ L x m news d s) f s') E s)
    (h2 : ∀ s', MidR h₀ L x m news d s s' → wpAny M A (execs rest env) Q E s') : wpAny M A (execs (st :: rest) env) Q E s := cut_any _ h1 h2
theorem cut_left {st : Stmt} {rest : List Stmt} {h₀ : Heap} {L : Addr} {m : Str → Option Value} {news : List (Addr × Obj)} {a b c d : Pt} (_hW : Mine.cross a b c d ≠ 0 → Whole a b c d) (_F : Fr h₀ L s.heap m) (_N : News h₀ L s.heap news)
    (h1 : wpAny M A (exec st env) (fun f s' => CutEnd (MidR h₀ L (Str.ofString "left") m news ([], (restS (minP a b, maxP a b) (minP c d, maxP c d)).filter ltE) s) f s') E s)
    (h2 : ∀ s', MidR h₀ L (Str.ofString "left") m news ([], (restS (minP a b, maxP a b) (minP c d, maxP c d)).filter ltE) s s' → wpAny M A (execs rest env) Q E s') : wpAny M A (execs (st :: rest) env) Q E s := cut_any _ h1 h2
theorem cut_single {st : Stmt} {rest : List Stmt} {h₀ : Heap} {L : Addr} {m : Str → Option Value} {news : List (Addr × Obj)} {a b c d : Pt} (_hW : Mine.cross a b c d ≠ 0 → Whole a b c d) (_F : Fr h₀ L s.heap m) (_N : News h₀ L s.heap news)
    (h1 : wpAny M A (exec st env) (fun f s' => CutEnd (MidR h₀ L (Str.ofString "single") m news ([], srtS ((restS (minP a b, maxP a b) (minP c d, maxP c d) ++ [(minP c d, maxP (minP a b) (minP c d)), (minP (maxP a b) (maxP c d), maxP c d)]).filter ltE)) s) f s') E s)
    (h2 : ∀ s', MidR h₀ L (Str.ofString "single") m news ([], srtS ((restS (minP a b, maxP a b) (minP c d, maxP c d) ++ [(minP c d, maxP (minP a b) (minP c d)), (minP (maxP a b) (maxP c d), maxP c d)]).filter ltE)) s s' → wpAny M A (execs rest env) Q E s') : wpAny M A (execs (st :: rest) env) Q E s := cut_any _ h1 h2
end
end
section
open PySem PySem.W PyProof.Rows PySem.Calls PySem.Spec
set_option Elab.async false
section
variable {prog : Program} {w : World} {A : Around} {E Q : Value → Shared → Prop} {s : Shared} {h₀ : Heap} {L t : Addr} {news : List (Addr × Obj)} {value slice : PySem.Expr} {k : Int} {u : Tok} {x : Value} {n : Nat} {vs : List Value}
theorem tup_at (j : Nat) (N : News h₀ L s.heap news) (hm : (t, ({ cls := .type "tuple", data := .seq vs.toArray n } : Obj)) ∈ news) (hlo : -(2 ^ 63) ≤ k) (hhi : k < 2 ^ 63) (hj : seqIndex? k vs.length = some j) (hx : vs[j]? = some x) (h : Q x s)
    (hs : subscripted slice false (.ref t) (.int k u) = operate [.ref t, .int k u] (getItem (.ref t) (.int k u)) := by with_unfolding_all rfl) :
    wpAny (model prog w) A (subscriptTail value slice (.ref t) (.int k u)) Q E s :=
  item_tupleT (N.isTup hm) hlo hhi hj hx h hs
theorem lis_at (N : News h₀ L s.heap news) (hm : (t, ({ cls := .type "list", data := .seq vs.toArray n } : Obj)) ∈ news) (h0 : 0 ≤ k) (hhi : k < 2 ^ 63) (hx : vs[k.toNat]? = some x) (h : Q x s)
    (hs : subscripted slice false (.ref t) (.int k u) = operate [.ref t, .int k u] (getItem (.ref t) (.int k u)) := by with_unfolding_all rfl) :
    wpAny (model prog w) A (subscriptTail value slice (.ref t) (.int k u)) Q E s :=
  item_litK (N.isList hm) h0 hhi hx h hs
end
theorem MidR.mkF {h₀ h : Heap} {L l : Addr} {x : Str} {m m' : Str → Option Value} {news all : List (Addr × Obj)} {d d' : List Sg} {s : Shared} {tk : Nat} (F : Fr h₀ L h m') (hm : m' = fun y => if y = x then some (.ref l) else m y) (N : News h₀ L h all) (hs : ∀ p ∈ news, p ∈ all) (e : d.filter ltE = d') (R : Rd all (.ref l) (toldD ([], d'))) :
    MidR h₀ L x m news ([], d.filter ltE) s { s with heap := h, toks := tk } := MidR.mkR F hm N hs (by rw [e]) R
theorem MidR.mkG {h₀ h : Heap} {L l : Addr} {x : Str} {m m' : Str → Option Value} {news all : List (Addr × Obj)} {d d' t : List Sg} {s : Shared} {tk : Nat} (F : Fr h₀ L h m') (hm : m' = fun y => if y = x then some (.ref l) else m y) (N : News h₀ L h all) (hs : ∀ p ∈ news, p ∈ all) (e : d.filter ltE = d') (k : srtL ltS d' = t) (R : Rd all (.ref l) (toldD ([], t))) :
    MidR h₀ L x m news ([], srtL ltS (d.filter ltE)) s { s with heap := h, toks := tk } := MidR.mkR F hm N hs (by rw [e, k]) R
theorem srt0 : srtS [] = [] := by rfl
theorem srt1 (p : Sg) : srtS [p] = [p] := by rfl
end
section
open PySem PySem.W PyProof.Rows PySem.Calls PySem.Spec
set_option Elab.async false
section
variable {M : Model} {A : Around} {E : Value → Shared → Prop} {Q : Flow → Shared → Prop} {s : Shared} {env : Env} {h₀ : Heap} {L : Addr} {m : Str → Option Value} {st0 st1 st2 st3 st4 st5 st6 st7 st8 st9 st10 st11 st12 st13 : Stmt} {rest : List Stmt}
theorem tail14m (_F : Fr h₀ L s.heap m) (h2 : Tail M A rest env Q E (Mid4 h₀ L s))
    (h1 : Tail M A rest env Q E (Mid4 h₀ L s) → wpAny M A (execs (st0 :: st1 :: st2 :: st3 :: st4 :: st5 :: st6 :: st7 :: st8 :: st9 :: st10 :: st11 :: st12 :: st13 :: rest) env) Q E s) : wpAny M A (execs (st0 :: st1 :: st2 :: st3 :: st4 :: st5 :: st6 :: st7 :: st8 :: st9 :: st10 :: st11 :: st12 :: st13 :: rest) env) Q E s := h1 h2
theorem tail12m (_F : Fr h₀ L s.heap m) (h2 : Tail M A rest env Q E (Mid3 h₀ L s))
    (h1 : Tail M A rest env Q E (Mid3 h₀ L s) → wpAny M A (execs (st0 :: st1 :: st2 :: st3 :: st4 :: st5 :: st6 :: st7 :: st8 :: st9 :: st10 :: st11 :: rest) env) Q E s) : wpAny M A (execs (st0 :: st1 :: st2 :: st3 :: st4 :: st5 :: st6 :: st7 :: st8 :: st9 :: st10 :: st11 :: rest) env) Q E s := h1 h2
theorem tail6m (_F : Fr h₀ L s.heap m) (h2 : Tail M A rest env Q E (Mid1 h₀ L s))
    (h1 : Tail M A rest env Q E (Mid1 h₀ L s) → wpAny M A (execs (st0 :: st1 :: st2 :: st3 :: st4 :: st5 :: rest) env) Q E s) : wpAny M A (execs (st0 :: st1 :: st2 :: st3 :: st4 :: st5 :: rest) env) Q E s := h1 h2
end
end
section
open PySem PySem.W PyProof.Rows PySem.Calls PySem.Spec
set_option Elab.async false
theorem fr_top3 {h₀ h : Heap} {L : Addr} {m : Str → Option Value} {x1 x2 x3 : Str} {v1 v2 v3 : Value} (F : Fr h₀ L h m) (h1 : m x1 = some v1) (h2 : m x2 = some v2) (h3 : m x3 = some v3) :
    Fr h₀ L h (fun y => if y = x1 then some v1 else if y = x2 then some v2 else if y = x3 then some v3 else m y) := by
  have e : (fun y => if y = x1 then some v1 else if y = x2 then some v2 else if y = x3 then some v3 else m y) = m := by
    funext y
    by_cases e1 : y = x1; · rw [if_pos e1, e1, h1]
    by_cases e2 : y = x2; · rw [if_neg e1, if_pos e2, e2, h2]
    by_cases e3 : y = x3; · rw [if_neg e1, if_neg e2, if_pos e3, e3, h3]
    rw [if_neg e1, if_neg e2, if_neg e3]
  rw [e]; exact F
/-- behind «if cross < 0: ..» -/
structure MidS (h₀ : Heap) (L : Addr) (m : Str → Option Value) (news : List (Addr × Obj)) (C F N : Int) (s s' : Shared) : Prop where
  at_ : ∃ (h : Heap) (tk : Nat) (C' F' N' : Int) (tc tf tn : Tok), s' = { s with heap := h, toks := tk } ∧
    Fr h₀ L h (fun y => if y = Str.ofString "cross" then some (.int C' tc) else if y = Str.ofString "far" then some (.int F' tf) else if y = Str.ofString "near" then some (.int N' tn) else m y) ∧ News h₀ L h news ∧
    ((C' = C ∧ F' = F ∧ N' = N ∧ ¬ C < 0) ∨ (C' = -C ∧ F' = -F ∧ N' = -N ∧ C < 0))
theorem MidS.elim {h₀ : Heap} {L : Addr} {m : Str → Option Value} {news : List (Addr × Obj)} {C F N : Int} {s : Shared} {P : Shared → Prop} (k : ∀ (h : Heap) (tk : Nat) (C' F' N' : Int) (tc tf tn : Tok), let m' : Str → Option Value := fun y => if y = Str.ofString "cross" then some (.int C' tc) else if y = Str.ofString "far" then some (.int F' tf) else if y = Str.ofString "near" then some (.int N' tn) else m y; Fr h₀ L h m' → News h₀ L h news → ((C' = C ∧ F' = F ∧ N' = N ∧ ¬ C < 0) ∨ (C' = -C ∧ F' = -F ∧ N' = -N ∧ C < 0)) → P { s with heap := h, toks := tk }) : ∀ s', MidS h₀ L m news C F N s s' → P s' := fun s' hM => by
  obtain ⟨h1, tk1, C'1, F'1, N'1, tc1, tf1, tn1, hs', f0, f1, f2⟩ := hM.at_
  subst hs'
  exact k h1 tk1 C'1 F'1 N'1 tc1 tf1 tn1 f0 f1 f2
theorem MidS.mkP {h₀ h : Heap} {L : Addr} {m : Str → Option Value} {news : List (Addr × Obj)} {C F N : Int} {s : Shared} {tk : Nat} {tc tf tn : Tok} (Fr' : Fr h₀ L h m) (N' : News h₀ L h news) (h1 : m (Str.ofString "near") = some (.int N tn)) (h2 : m (Str.ofString "far") = some (.int F tf)) (h3 : m (Str.ofString "cross") = some (.int C tc)) (hC : ¬ C < 0) :
    MidS h₀ L m news C F N s { s with heap := h, toks := tk } := ⟨h, tk, C, F, N, tc, tf, tn, rfl, fr_top3 Fr' h3 h2 h1, N', .inl ⟨rfl, rfl, rfl, hC⟩⟩
theorem MidS.mkN {h₀ h : Heap} {L : Addr} {m m' : Str → Option Value} {news all : List (Addr × Obj)} {C F N : Int} {s : Shared} {tk : Nat} {tc tf tn : Tok} (Fr' : Fr h₀ L h m') (hm : m' = fun y => if y = Str.ofString "cross" then some (.int (-C) tc) else if y = Str.ofString "far" then some (.int (-F) tf) else if y = Str.ofString "near" then some (.int (-N) tn) else m y) (N' : News h₀ L h all) (hs : ∀ p ∈ news, p ∈ all) (hC : C < 0) :
    MidS h₀ L m news C F N s { s with heap := h, toks := tk } := by
  subst hm
  exact ⟨h, tk, -C, -F, -N, tc, tf, tn, rfl, Fr', fun p hp => N' _ (hs _ hp), .inr ⟨rfl, rfl, rfl, hC⟩⟩
section
variable {M : Model} {A : Around} {E : Value → Shared → Prop} {Q : Flow → Shared → Prop} {s : Shared} {env : Env}
theorem cut_sign {st : Stmt} {rest : List Stmt} {h₀ : Heap} {L : Addr} {m : Str → Option Value} {news : List (Addr × Obj)} {C F N : Int} {tc tf tn : Tok} (_F : Fr h₀ L s.heap m) (_N : News h₀ L s.heap news) (_h3 : m (Str.ofString "cross") = some (.int C tc)) (_h2 : m (Str.ofString "far") = some (.int F tf)) (_h1 : m (Str.ofString "near") = some (.int N tn))
    (h1 : wpAny M A (exec st env) (fun f s' => CutEnd (MidS h₀ L m news C F N s) f s') E s)
    (h2 : ∀ s', MidS h₀ L m news C F N s s' → wpAny M A (execs rest env) Q E s') : wpAny M A (execs (st :: rest) env) Q E s := cut_any _ h1 h2
end
theorem sign_facts {a b c d : Pt} {C F N : Int} (h0 : Mine.cross a b c d ≠ 0) (iC : ib (Mine.cross a b c d) ≤ 6300000) (iF : ib (Mine.far a b c d) ≤ 6300000) (iN : ib (Mine.near a b c d) ≤ 6300000)
    (h : (C = Mine.cross a b c d ∧ F = Mine.far a b c d ∧ N = Mine.near a b c d ∧ ¬ Mine.cross a b c d < 0) ∨ (C = -Mine.cross a b c d ∧ F = -Mine.far a b c d ∧ N = -Mine.near a b c d ∧ Mine.cross a b c d < 0)) :
    lawSpec a b c d = specPos a b (minP a b, maxP a b) (minP c d, maxP c d) C F N ∧ C ≠ 0 ∧ ib C ≤ 6300001 ∧ ib F ≤ 6300001 ∧ ib N ≤ 6300001 := by
  have up : ∀ {z : Int}, ib z ≤ 6300000 → ib z ≤ 6300001 := fun h => Nat.le_trans h (by decide)
  have un : ∀ {z : Int}, ib z ≤ 6300000 → ib (-z) ≤ 6300001 := fun {z} h => by
    have e : ib (-z) = ib z := by simp [ib, Builtin.Int.intBits, Int.natAbs_neg]
    rw [e]; exact up h
  rcases h with ⟨rfl, rfl, rfl, k⟩ | ⟨rfl, rfl, rfl, k⟩
  · exact ⟨lawSpec_pos h0 k, h0, up iC, up iF, up iN⟩
  · exact ⟨lawSpec_neg h0 k, by omega, un iC, un iF, un iN⟩
end
section
open PySem PySem.W PyProof.Rows PySem.Calls PySem.Spec
set_option Elab.async false
theorem fr_top1 {h₀ h : Heap} {L : Addr} {m : Str → Option Value} {x1 : Str} {v1 : Value} (F : Fr h₀ L h m) (h1 : m x1 = some v1) : Fr h₀ L h (fun y => if y = x1 then some v1 else m y) := by
  rw [look_chain h1]; exact F
/-- behind «if a == b: ..» -/
structure MidE (h₀ : Heap) (L : Addr) (m : Str → Option Value) (news : List (Addr × Obj)) (a1 a2 : Int) (s s' : Shared) : Prop where
  at_ : ∃ (h : Heap) (tk : Nat) (all : List (Addr × Obj)) (ab : Addr) (b1 b2 : Int) (t3 t4 : Tok), s' = { s with heap := h, toks := tk } ∧ Fr h₀ L h (fun y => if y = Str.ofString "b" then some (.ref ab) else m y) ∧ News h₀ L h all ∧ (∀ p ∈ news, p ∈ all) ∧
    (ab, ({ cls := .type "tuple", data := .seq #[.int b1 t3, .int b2 t4] } : Obj)) ∈ all ∧ (a1, a2) ≠ (b1, b2) ∧ ib b1 ≤ 1048600 ∧ ib b2 ≤ 1048600
theorem MidE.elim {h₀ : Heap} {L : Addr} {m : Str → Option Value} {news : List (Addr × Obj)} {a1 a2 : Int} {s : Shared} {P : Shared → Prop} (k : ∀ (h : Heap) (tk : Nat) (all : List (Addr × Obj)) (ab : Addr) (b1 b2 : Int) (t3 t4 : Tok), let m' : Str → Option Value := fun y => if y = Str.ofString "b" then some (.ref ab) else m y; Fr h₀ L h m' → News h₀ L h all → (∀ p ∈ news, p ∈ all) → (ab, ({ cls := .type "tuple", data := .seq #[.int b1 t3, .int b2 t4] } : Obj)) ∈ all → (a1, a2) ≠ (b1, b2) → ib b1 ≤ 1048600 → ib b2 ≤ 1048600 → P { s with heap := h, toks := tk }) : ∀ s', MidE h₀ L m news a1 a2 s s' → P s' := fun s' hM => by
  obtain ⟨h1, tk1, all1, ab1, b11, b21, t31, t41, hs', f0, f1, f2, f3, f4, f5, f6⟩ := hM.at_
  subst hs'
  exact k h1 tk1 all1 ab1 b11 b21 t31 t41 f0 f1 f2 f3 f4 f5 f6
theorem MidE.mkO {h₀ h : Heap} {L : Addr} {m : Str → Option Value} {news : List (Addr × Obj)} {a1 a2 b1 b2 : Int} {s : Shared} {tk : Nat} {ab : Addr} {t3 t4 : Tok} (F : Fr h₀ L h m) (N : News h₀ L h news) (hb : m (Str.ofString "b") = some (.ref ab)) (pb : (ab, ({ cls := .type "tuple", data := .seq #[.int b1 t3, .int b2 t4] } : Obj)) ∈ news) (nab : (a1, a2) ≠ (b1, b2)) (i1 : ib b1 ≤ 1048600) (i2 : ib b2 ≤ 1048600) :
    MidE h₀ L m news a1 a2 s { s with heap := h, toks := tk } := ⟨h, tk, news, ab, b1, b2, t3, t4, rfl, fr_top1 F hb, N, fun _ h => h, pb, nab, i1, i2⟩
theorem MidE.mkN {h₀ h : Heap} {L : Addr} {m m' : Str → Option Value} {news all : List (Addr × Obj)} {a1 a2 b1 b2 : Int} {s : Shared} {tk : Nat} {ab : Addr} {t3 t4 : Tok} (F : Fr h₀ L h m') (hm : m' = fun y => if y = Str.ofString "b" then some (.ref ab) else m y) (N : News h₀ L h all) (hs : ∀ p ∈ news, p ∈ all) (pb : (ab, ({ cls := .type "tuple", data := .seq #[.int b1 t3, .int b2 t4] } : Obj)) ∈ all) (nab : (a1, a2) ≠ (b1, b2)) (i1 : ib b1 ≤ 1048600) (i2 : ib b2 ≤ 1048600) :
    MidE h₀ L m news a1 a2 s { s with heap := h, toks := tk } := by
  subst hm
  exact ⟨h, tk, all, ab, b1, b2, t3, t4, rfl, F, N, hs, pb, nab, i1, i2⟩
/-- behind «if len(script) > 8 ..» -/
structure MidF (h₀ : Heap) (L : Addr) (s s' : Shared) : Prop where
  at_ : ∃ (m : Str → Option Value) (news : List (Addr × Obj)) (h : Heap) (tk : Nat) (aa ab ac ad : Addr) (a1 a2 b1 b2 c1 c2 d1 d2 : Int) (t1 t2 t3 t4 t5 t6 t7 t8 : Tok), s' = { s with heap := h, toks := tk } ∧
    Fr h₀ L h (fun y => if y = Str.ofString "a" then some (.ref aa) else if y = Str.ofString "b" then some (.ref ab) else if y = Str.ofString "c" then some (.ref ac) else if y = Str.ofString "d" then some (.ref ad) else m y) ∧
    News h₀ L h news ∧ (aa, ({ cls := .type "tuple", data := .seq #[.int a1 t1, .int a2 t2] } : Obj)) ∈ news ∧ (ab, ({ cls := .type "tuple", data := .seq #[.int b1 t3, .int b2 t4] } : Obj)) ∈ news ∧ (ac, ({ cls := .type "tuple", data := .seq #[.int c1 t5, .int c2 t6] } : Obj)) ∈ news ∧ (ad, ({ cls := .type "tuple", data := .seq #[.int d1 t7, .int d2 t8] } : Obj)) ∈ news ∧ (a1, a2) ≠ (b1, b2) ∧
    ib a1 ≤ 1048630 ∧ ib a2 ≤ 1048630 ∧ ib b1 ≤ 1048630 ∧ ib b2 ≤ 1048630 ∧ ib c1 ≤ 1048630 ∧ ib c2 ≤ 1048630 ∧ ib d1 ≤ 1048630 ∧ ib d2 ≤ 1048630
theorem MidF.elim {h₀ : Heap} {L : Addr} {s : Shared} {P : Shared → Prop} (k : ∀ (m : Str → Option Value) (news : List (Addr × Obj)) (h : Heap) (tk : Nat) (aa ab ac ad : Addr) (a1 a2 b1 b2 c1 c2 d1 d2 : Int) (t1 t2 t3 t4 t5 t6 t7 t8 : Tok), let m' : Str → Option Value := fun y => if y = Str.ofString "a" then some (.ref aa) else if y = Str.ofString "b" then some (.ref ab) else if y = Str.ofString "c" then some (.ref ac) else if y = Str.ofString "d" then some (.ref ad) else m y; Fr h₀ L h m' → News h₀ L h news → (aa, ({ cls := .type "tuple", data := .seq #[.int a1 t1, .int a2 t2] } : Obj)) ∈ news → (ab, ({ cls := .type "tuple", data := .seq #[.int b1 t3, .int b2 t4] } : Obj)) ∈ news → (ac, ({ cls := .type "tuple", data := .seq #[.int c1 t5, .int c2 t6] } : Obj)) ∈ news → (ad, ({ cls := .type "tuple", data := .seq #[.int d1 t7, .int d2 t8] } : Obj)) ∈ news → (a1, a2) ≠ (b1, b2) → ib a1 ≤ 1048630 → ib a2 ≤ 1048630 → ib b1 ≤ 1048630 → ib b2 ≤ 1048630 → ib c1 ≤ 1048630 → ib c2 ≤ 1048630 → ib d1 ≤ 1048630 → ib d2 ≤ 1048630 → P { s with heap := h, toks := tk }) : ∀ s', MidF h₀ L s s' → P s' := fun s' hM => by
  obtain ⟨m1, news1, h1, tk1, aa1, ab1, ac1, ad1, a11, a21, b11, b21, c11, c21, d11, d21, t11, t21, t31, t41, t51, t61, t71, t81, hs', f0, f1, f2, f3, f4, f5, f6, f7, f8, f9, f10, f11, f12, f13, f14⟩ := hM.at_
  subst hs'
  exact k m1 news1 h1 tk1 aa1 ab1 ac1 ad1 a11 a21 b11 b21 c11 c21 d11 d21 t11 t21 t31 t41 t51 t61 t71 t81 f0 f1 f2 f3 f4 f5 f6 f7 f8 f9 f10 f11 f12 f13 f14
theorem MidF.mk4 {h₀ h : Heap} {L : Addr} {m : Str → Option Value} {news : List (Addr × Obj)} {s : Shared} {tk : Nat} {aa ab ac ad : Addr} {a1 a2 b1 b2 c1 c2 d1 d2 : Int} {t1 t2 t3 t4 t5 t6 t7 t8 : Tok} (F : Fr h₀ L h m) (N : News h₀ L h news)
    (ha : m (Str.ofString "a") = some (.ref aa)) (hb : m (Str.ofString "b") = some (.ref ab)) (hc : m (Str.ofString "c") = some (.ref ac)) (hd : m (Str.ofString "d") = some (.ref ad))
    (pa : (aa, ({ cls := .type "tuple", data := .seq #[.int a1 t1, .int a2 t2] } : Obj)) ∈ news) (pb : (ab, ({ cls := .type "tuple", data := .seq #[.int b1 t3, .int b2 t4] } : Obj)) ∈ news) (pc : (ac, ({ cls := .type "tuple", data := .seq #[.int c1 t5, .int c2 t6] } : Obj)) ∈ news) (pd : (ad, ({ cls := .type "tuple", data := .seq #[.int d1 t7, .int d2 t8] } : Obj)) ∈ news) (nab : (a1, a2) ≠ (b1, b2))
    (i1 : ib a1 ≤ 1048630) (i2 : ib a2 ≤ 1048630) (i3 : ib b1 ≤ 1048630) (i4 : ib b2 ≤ 1048630) (i5 : ib c1 ≤ 1048630) (i6 : ib c2 ≤ 1048630) (i7 : ib d1 ≤ 1048630) (i8 : ib d2 ≤ 1048630) :
    MidF h₀ L s { s with heap := h, toks := tk } :=
  ⟨m, news, h, tk, aa, ab, ac, ad, _, _, _, _, _, _, _, _, _, _, _, _, _, _, _, _, rfl, fr_top4 F ha hb hc hd, N, pa, pb, pc, pd, nab, i1, i2, i3, i4, i5, i6, i7, i8⟩
section
variable {M : Model} {A : Around} {E : Value → Shared → Prop} {Q : Flow → Shared → Prop} {s : Shared} {env : Env} {h₀ : Heap} {L : Addr} {m : Str → Option Value} {news : List (Addr × Obj)} {st : Stmt} {rest : List Stmt}
theorem cut_ab {aa : Addr} {a1 a2 : Int} {t1 t2 : Tok} (_F : Fr h₀ L s.heap m) (_N : News h₀ L s.heap news) (_ha : m (Str.ofString "a") = some (.ref aa)) (_pa : (aa, ({ cls := .type "tuple", data := .seq #[.int a1 t1, .int a2 t2] } : Obj)) ∈ news)
    (h1 : wpAny M A (exec st env) (fun f s' => CutEnd (MidE h₀ L m news a1 a2 s) f s') E s)
    (h2 : ∀ s', MidE h₀ L m news a1 a2 s s' → wpAny M A (execs rest env) Q E s') : wpAny M A (execs (st :: rest) env) Q E s := cut_any _ h1 h2
theorem cut_cd (_F : Fr h₀ L s.heap m)
    (h1 : wpAny M A (exec st env) (fun f s' => CutEnd (MidF h₀ L s) f s') E s)
    (h2 : ∀ s', MidF h₀ L s s' → wpAny M A (execs rest env) Q E s') : wpAny M A (execs (st :: rest) env) Q E s := cut_any _ h1 h2
end
end
section
open PySem PySem.W PyProof.Rows PySem.Calls PySem.Spec PyProof.Rows.LCg PyProof.Rows.LCt
set_option Elab.async false
set_option maxHeartbeats 1000000
set_option maxRecDepth 100000
theorem compRestT_all {prog : Program} {w : World} {A : Around} {s : Shared} {h₀ : Heap} {L : Addr} {m : Str → Option Value} {env : Env} {ct elt : PySem.Expr} {x : Str} {scope : Scope} {cl : List (Str × Addr)} {S : List (Addr × Obj) → Prop} {P : Nat → Value → Prop} {Fin : List Value → List (Addr × Obj) → Prop} (Inv : Nat → List Value → List (Addr × Obj) → Prop) (n : Nat)
    (step : ∀ i ys news, Inv i ys news → i < n → ∀ v I oI C oC D m₂ h tk (E' : Value → Shared → Prop), P i v → NsObj oC m₂ → m₂ x = some v → Fr h₀ L h m → News h₀ L h ((I, oI) :: (C, oC) :: (D, lst ys) :: news) → Off3 I C D news → ((@Ne Nat I C) ∧ (@Ne Nat I D) ∧ (@Ne Nat C D)) →
      wpAny (model prog w) A (isTrue ct (compEnvC scope cl C env) (eval ct (compEnvC scope cl C env))) (fun ok s' => if ok = true then
        wpAny (model prog w) A (eval elt (compEnvC scope cl C env)) (CompEnd h₀ L m { s with heap := h, toks := tk } I oI C oC D (lst ys) S (fun y news' => Inv (i + 1) (ys ++ [y]) news')) E' s'
        else CompEnd h₀ L m { s with heap := h, toks := tk } I oI C oC D (lst ys) S (fun _ news' => Inv (i + 1) ys news') Value.none s') E' { s with heap := h, toks := tk })
    (fin : ∀ ys news, Inv n ys news → Fin ys news) : ∀ k i ys news, i + k = n → Inv i ys news → CompRestT prog w A h₀ L m env ct elt x scope cl s S P Fin k i ys news
  | 0, i, ys, news, e, hi => CompRestT.zero (fin _ _ (by rw [Nat.add_zero] at e; exact e ▸ hi))
  | k + 1, i, ys, news, e, hi => CompRestT.succ fun v I oI C oC D m₂ h tk E' hv hC hx F N off ne =>
      wpAny_mono (step i ys news hi (by omega) v I oI C oC D m₂ h tk E' hv hC hx F N off ne) (fun ok s₂ q => by
        cases ok with
        | true =>
          simp only [if_true] at q ⊢
          exact wpAny_mono q (fun y s₃ r => compEnd_mono r fun n' r => compRestT_all Inv n step fin k (i + 1) (ys ++ [y]) n' (by omega) r) fun _ _ e => e
        | false =>
          simp only [Bool.false_eq_true, if_false] at q ⊢
          exact compEnd_mono q fun n' r => compRestT_all Inv n step fin k (i + 1) ys n' (by omega) r) fun _ _ q => q
def InvF (n₀ : List (Addr × Obj)) (ss : List Sg) (i : Nat) (ys : List Value) (n : List (Addr × Obj)) : Prop := (∀ p ∈ n₀, p ∈ n) ∧ SnAre n ys ((ss.take i).filter ltE)
theorem InvF.zero {n : List (Addr × Obj)} {ss : List Sg} : InvF n ss 0 [] n := ⟨fun _ h => h, by rw [List.take_zero]; exact .nil⟩
theorem fil_t1 {s : Sg} (t : ltP s.1 s.2 = true) : [s].filter ltE = [s] := by simp [ltE, t]
theorem InvF.succT {n₀ n : List (Addr × Obj)} {ss : List Sg} {i : Nat} {ys : List Value} {y : Addr} {s : Sg} (h : InvF n₀ ss i ys n) (e : ss[i]? = some s) (k : Sn n y s) (t : ltP s.1 s.2 = true) : InvF n₀ ss (i + 1) (ys ++ [.ref y]) n :=
  ⟨h.1, by rw [take_snoc e, List.filter_append, fil_t1 t]; exact h.2.snoc k⟩
theorem InvF.succF {n₀ n : List (Addr × Obj)} {ss : List Sg} {i : Nat} {ys : List Value} {s : Sg} (h : InvF n₀ ss i ys n) (e : ss[i]? = some s) (t : ltP s.1 s.2 = false) : InvF n₀ ss (i + 1) ys n :=
  ⟨h.1, by rw [take_snoc e, List.filter_append]; rw [show [s].filter ltE = [] by simp [ltE, t], List.append_nil]; exact h.2⟩
theorem InvF.succT9 {n₀ n : List (Addr × Obj)} {ss : List Sg} {i : Nat} {ys : List Value} {y : Addr} {s : Sg} (h : InvF n₀ ss i ys n) (e : ss[i]? = some s) (k : Sn n y s) (t : ltP s.1 s.2 = true) : InvF n₀ ss (i + 1) (ys ++ [.ref y]) ([] ++ n) := h.succT e k t
theorem InvF.succF9 {n₀ n : List (Addr × Obj)} {ss : List Sg} {i : Nat} {ys : List Value} {s : Sg} (h : InvF n₀ ss i ys n) (e : ss[i]? = some s) (t : ltP s.1 s.2 = false) : InvF n₀ ss (i + 1) ys ([] ++ n) := h.succF e t
section
variable {prog : Program} {w : World} {A : Around} {s : Shared} {h₀ : Heap} {L : Addr} {m : Str → Option Value} {env : Env} {ct elt : PySem.Expr} {x : Str} {scope : Scope} {cl : List (Str × Addr)} {S : List (Addr × Obj) → Prop} {Fin : List Value → List (Addr × Obj) → Prop} {vs : List Value} {n₀ : List (Addr × Obj)}
theorem comp3 (ss : List Sg) (hS : SnAre n₀ vs ss)
    (step : ∀ i ys news a q, (∀ p ∈ n₀, p ∈ news) → InvF n₀ ss i ys news → ss[i]? = some q → Sn news a q → ∀ I oI C oC D m₂ h tk (E' : Value → Shared → Prop), NsObj oC m₂ → m₂ x = some (.ref a) → Fr h₀ L h m → News h₀ L h ((I, oI) :: (C, oC) :: (D, lst ys) :: news) → Off3 I C D news → ((@Ne Nat I C) ∧ (@Ne Nat I D) ∧ (@Ne Nat C D)) →
      wpAny (model prog w) A (isTrue ct (compEnvC scope cl C env) (eval ct (compEnvC scope cl C env))) (fun ok s' => if ok = true then
        wpAny (model prog w) A (eval elt (compEnvC scope cl C env)) (CompEnd h₀ L m { s with heap := h, toks := tk } I oI C oC D (lst ys) S (fun y news' => InvF n₀ ss (i + 1) (ys ++ [y]) news')) E' s'
        else CompEnd h₀ L m { s with heap := h, toks := tk } I oI C oC D (lst ys) S (fun _ news' => InvF n₀ ss (i + 1) ys news') Value.none s') E' { s with heap := h, toks := tk })
    (fin : ∀ ys news, (∀ p ∈ n₀, p ∈ news) → SnAre news ys (ss.filter ltE) → Fin ys news) : CompRestT prog w A h₀ L m env ct elt x scope cl s S (fun i v => vs.toArray[i]? = some v) Fin vs.toArray.size 0 [] n₀ := by
  refine compRestT_all (InvF n₀ ss) vs.toArray.size (fun i ys news hi hlt v I oI C oC D m₂ h tk E' hv hC hx F N off ne => ?_) (fun ys news hi => ?_) _ 0 [] n₀ (Nat.zero_add _) InvF.zero
  · obtain ⟨a, q, rfl, e, k⟩ := hS.get hv
    exact step i ys news a q hi.1 hi e (k.mono hi.1) I oI C oC D m₂ h tk E' hC hx F N off ne
  · obtain ⟨h1, h2⟩ := hi
    rw [show vs.toArray.size = ss.length by rw [List.size_toArray]; exact hS.len, List.take_length] at h2
    exact fin ys news h1 h2
end
section
variable {prog : Program} {w : World} {A : Around} {E Q : Value → Shared → Prop} {s : Shared} {h₀ : Heap} {L t : Addr} {m : Str → Option Value} {news : List (Addr × Obj)} {value slice : PySem.Expr} {k : Int} {u : Tok} {x : Value} {n c : Nat} {vs : List Value} {o : Obj} {l : Addr} {ss : List Sg}
theorem tup_ato (j : Nat) (N : News h₀ L s.heap news) (hm : (t, o) ∈ news) (hc : o.cls = .type "tuple") (hd : o.data = .seq vs.toArray n) (hlo : -(2 ^ 63) ≤ k) (hhi : k < 2 ^ 63) (hj : seqIndex? k vs.length = some j) (hx : vs[j]? = some x) (h : Q x s)
    (hs : subscripted slice false (.ref t) (.int k u) = operate [.ref t, .int k u] (getItem (.ref t) (.int k u)) := by with_unfolding_all rfl) :
    wpAny (model prog w) A (subscriptTail value slice (.ref t) (.int k u)) Q E s :=
  item_tupleT ⟨o, (N _ hm).1, hc, n, hd⟩ hlo hhi hj hx h hs
theorem sortedB_led (F : Fr h₀ L s.heap m) (N : News h₀ L s.heap news) (hm : (l, ({ cls := .type "list", data := .seq vs.toArray c } : Obj)) ∈ news) (hS : SnAre news vs ss) (h2 : ss.length ≤ 2) (hu : A.units + 8 < cLine)
    (h : ∀ D c ws qs h', Fr h₀ L h' m → News h₀ L h' ((D, listOf (List.toArray ws) c) :: news) → SnAre news ws qs → srtS ss = qs → Q (.ref D) { s with heap := h' }) :
    wpAny (model prog w) A (call (.builtin "sorted") [.ref l]) Q E s := by
  rcases (by omega : ss.length = 0 ∨ ss.length = 1 ∨ ss.length = 2) with e | e | e
  · obtain ⟨rfl, rfl⟩ := snAre_nil hS e
    exact sorted0_led F N hm rfl rfl fun D c h' F' N' _ => h D c [] [] h' F' N' .nil srt0
  · obtain ⟨a1, s1, v1, t1, rfl, rfl, h1, k1, e1⟩ := snAre_cons hS e
    obtain ⟨rfl, rfl⟩ := snAre_nil k1 e1
    exact sorted1_led F N hm rfl rfl fun D c h' F' N' _ => h D c [.ref a1] [s1] h' F' N' (.cons h1 .nil) (srt1 s1)
  · obtain ⟨a1, a2, s1, s2, rfl, rfl, h1, h2⟩ := snAre2 hS e
    exact sorted2_led F N hm rfl rfl h1 h2 hu fun D c b0 b1 q0 q1 h' F' N' _ P0 P1 hs => h D c [.ref b0, .ref b1] [q0, q1] h' F' N' (.cons P0 (.cons P1 .nil)) hs
end
theorem rdAre_s {n : List (Addr × Obj)} {l : Addr} {o : Obj} {c : Nat} {vs : List Value} {ss qs : List Sg} (hm : (l, o) ∈ n) (hc : o.cls = .type "list") (hd : o.data = .seq vs.toArray c) (h : SnAre n vs qs) (e : srtS ss = qs) : Rd n (.ref l) (toldD ([], srtS ss)) := by
  rw [e]; exact rdAre hm hc hd h
def four (one two : Sg) : List Sg := restS one two ++ [(two.1, maxP one.1 two.1), (minP one.2 two.2, two.2)]
theorem fl_len (x y z w : Sg) (e1 : ltE x = true → ltE z = true → False) (e2 : ltE y = true → ltE w = true → False) : ([x, y, z, w].filter ltE).length ≤ 2 := by
  cases hx : ltE x <;> cases hy : ltE y <;> cases hz : ltE z <;> cases hw : ltE w <;> first | exact (e1 hx hz).elim | exact (e2 hy hw).elim | simp [List.filter_cons, hx, hy, hz, hw]
theorem four_len (one two : Sg) : ((four one two).filter ltE).length ≤ 2 :=
  fl_len (one.1, maxP one.1 two.1) (minP one.2 two.2, one.2) (two.1, maxP one.1 two.1) (minP one.2 two.2, two.2) (fun h k => low_excl h k) (fun h k => high_excl h k)
end
section
open PySem PySem.W PyProof.Rows PySem.Calls PySem.Spec
set_option maxRecDepth 100000
set_option maxHeartbeats 40000000
set_option rowWalk.seconds 0
def Mk3 (_ : Nat) : Prop := True
theorem mk3_ok : Mk3 3 := trivial
theorem set_V6A : True := by
  k_with_none
  k_with "my MEM" => first | ktr_member | with_reducible exact List.mem_cons_self | (with_reducible refine' List.mem_cons_of_mem _ ?_; k_extra "my MEM") | (with_reducible refine' List.mem_append_right _ ?_; k_extra "my MEM") | (with_reducible refine' List.mem_append_left _ ?_; k_extra "my MEM")
  k_with "my CELL" => (refine' code_def ?qcellk1 ?qcellk2 ?qcellk3 ?qcellk4 ?qcellk5 ?qcellkA ?qcellkF ?qcellkK ?qcellk6 ?qcellk7 ?qcellk8 ?qcellk9 ?qcellkB ?_ ?qcellc2 ?qcellc3 ?qcellc4 ?qcellc5; (case qcellkA => exact rfl); (case qcellkF => exact rfl); (case qcellkK => first | assumption | exact rfl); (case qcellk1 => k_asm); (case qcellk2 => k_asm); (case qcellk3 => k_asm); (case qcellk4 => k_asm); (case qcellk5 => k_asm); (case qcellk6 => k_is); (case qcellk7 => k_is); (case qcellk8 => ktr_room); (case qcellk9 => first | exact BindsTo.of_eq rfl | exact binds_K (by k_in) rfl (by k_is) rfl rfl rfl); (case qcellc5 => decide); (case qcellkB => exact locs rfl); (case qcellc2 => exact rfl); (case qcellc3 => exact rfl); (case qcellc4 => exact rfl); k_whole; intro g' L' h' FG' F' N' B' X' T'; (try dsimp only); (try k_lift B'); (try k_fold))
  k_with "my testChain" => first | with_reducible refine test_link ?_ | with_reducible refine test_last ?_ | with_unfolding_all refine test_link ?_ | with_unfolding_all refine test_last ?_
  k_with "my SUB" => (intro x hx; first | exact hx | (simp only [List.mem_append, List.mem_cons, hx, true_or, or_true]; done) | (simp only [List.mem_append, List.mem_cons] at hx ⊢; simp_all; done))
  k_with "my PN" => first | assumption | exact Pn.mono (by assumption) (by k_extra "my SUB") | exact ⟨_, _, _, _, by k_mem, rfl, rfl⟩ | exact PnSel.get (by assumption) (by k_extra "my PN") (by k_extra "my PN")
  k_with "my compareOp Eq ref ref" => (k_here; k_dflt (refine' eq_pn (p := (_, _)) (q := (_, _)) ?q4wN ?q4wu ?q4wp1 ?q4wp2 ?_; (case q4wN => k_asm); (case q4wp1 => k_extra "my PN"); (case q4wp2 => k_extra "my PN"); (case q4wu => first | ktr_units | k_units); k_whole))
  k_with "my compareOp Eq ref ref" => (k_here; k_dflt (refine' eq_pn ?q5wN ?q5wu ?q5wp1 ?q5wp2 ?_; (case q5wN => k_asm); (case q5wp1 => k_extra "my PNA"); (case q5wp2 => k_extra "my PNA"); (case q5wu => first | ktr_units | k_units); k_whole))
  k_with "my compareOp NotEq ref ref" => (k_here; k_dflt (refine' ne_pn (p := (_, _)) (q := (_, _)) ?q6wN ?q6wu ?q6wp1 ?q6wp2 ?_; (case q6wN => k_asm); (case q6wp1 => k_extra "my PN"); (case q6wp2 => k_extra "my PN"); (case q6wu => first | ktr_units | k_units); k_whole))
  k_with "my compareOp NotEq ref ref" => (k_here; k_dflt (refine' ne_pn ?q7wN ?q7wu ?q7wp1 ?q7wp2 ?_; (case q7wN => k_asm); (case q7wp1 => k_extra "my PNA"); (case q7wp2 => k_extra "my PNA"); (case q7wu => first | ktr_units | k_units); k_whole))
  k_with "my compareOp Lt ref ref" => (k_here; k_dflt (refine' lt_pn (p := (_, _)) (q := (_, _)) ?q8wN ?q8wu ?q8wp1 ?q8wp2 ?_; (case q8wN => k_asm); (case q8wp1 => k_extra "my PN"); (case q8wp2 => k_extra "my PN"); (case q8wu => first | ktr_units | k_units); k_whole))
  k_with "my compareOp Lt ref ref" => (k_here; k_dflt (refine' lt_pn ?q9wN ?q9wu ?q9wp1 ?q9wp2 ?_; (case q9wN => k_asm); (case q9wp1 => k_extra "my PNA"); (case q9wp2 => k_extra "my PNA"); (case q9wu => first | ktr_units | k_units); k_whole))
  k_with "my PN" => first | with_reducible assumption | (refine' Pn.of2 ?q10wm; (case q10wm => k_extra "my MEM"))
  k_with "my PNA" => first | with_reducible assumption | exact Pn.mono (by with_reducible assumption) (by k_extra "my SUB")
  k_with "my call builtin:min" => (k_here; (with_reducible show wpAny _ _ (call (Value.builtin "min") [Value.ref _, Value.ref _]) _ _ _); k_dflt (refine' min2_pn (p := (_, _)) (q := (_, _)) ?q13whh ?q13wF ?q13wN ?q13wu ?q13wp1 ?q13wp2 ?_; (case q13whh => exact rfl); (case q13wF => k_asm); (case q13wN => k_asm); (case q13wu => first | ktr_units | k_units); (case q13wp1 => k_extra "my PN"); (case q13wp2 => k_extra "my PN"); k_whole; intro c' h' tk' F' N' P'; (try k_sweep)))
  k_with "my call builtin:min" => (k_here; (with_reducible show wpAny _ _ (call (Value.builtin "min") [Value.ref _, Value.ref _]) _ _ _); k_dflt (refine' min2_pn ?q14whh ?q14wF ?q14wN ?q14wu ?q14wp1 ?q14wp2 ?_; (case q14whh => exact rfl); (case q14wF => k_asm); (case q14wN => k_asm); (case q14wu => first | ktr_units | k_units); (case q14wp1 => k_extra "my PNA"); (case q14wp2 => k_extra "my PNA"); k_whole; intro c' h' tk' F' N' P'; (try k_sweep)))
  k_with "my call builtin:max" => (k_here; (with_reducible show wpAny _ _ (call (Value.builtin "max") [Value.ref _, Value.ref _]) _ _ _); k_dflt (refine' max2_pn (p := (_, _)) (q := (_, _)) ?q15whh ?q15wF ?q15wN ?q15wu ?q15wp1 ?q15wp2 ?_; (case q15whh => exact rfl); (case q15wF => k_asm); (case q15wN => k_asm); (case q15wu => first | ktr_units | k_units); (case q15wp1 => k_extra "my PN"); (case q15wp2 => k_extra "my PN"); k_whole; intro c' h' tk' F' N' P'; (try k_sweep)))
  k_with "my call builtin:max" => (k_here; (with_reducible show wpAny _ _ (call (Value.builtin "max") [Value.ref _, Value.ref _]) _ _ _); k_dflt (refine' max2_pn ?q16whh ?q16wF ?q16wN ?q16wu ?q16wp1 ?q16wp2 ?_; (case q16whh => exact rfl); (case q16wF => k_asm); (case q16wN => k_asm); (case q16wu => first | ktr_units | k_units); (case q16wp1 => k_extra "my PNA"); (case q16wp2 => k_extra "my PNA"); k_whole; intro c' h' tk' F' N' P'; (try k_sweep)))
  k_with "my execs cons" => (k_here; (with_reducible show wpAny _ _ (execs (Stmt.Assign [Expr.Name (Str.ofString "numbers") _] (Expr.BinOp (Expr.Name (Str.ofString "numbers") _) Operator.Add _ _) _ :: _) _) _ _ _); (refine cut_num (by k_asm) (by k_asm) ?_ (fun s' hM => ?_)); rotate_left; (revert hM; revert s'; refine Mid0.elim ?_; intro h' tk' l' x0' x1' x2' x3' x4' x5' x6' x7' t0' t1' t2' t3' t4' t5' t6' t7' c' m9' F' N' b0' b1' b2' b3' b4' b5' b6' b7'; (try dsimp only [num8] at N'); (try k_sweep)); rotate_left)
  k_with "my CutEnd next" => (plain_pass; refine' CutEnd.mk ?q18wa ?q18wb; (case q18wa => exact rfl); (case q18wb => refine' Mid0.mk8 ?q18whi ?q18whl ?q18whb ?q18wF ?q18whm ?q18wN ?q18whN ?q18whs; (case q18wF => k_asm); (case q18whm => exact rfl); (case q18wN => k_asm); (case q18whN => k_mem); (case q18whi => assumption); (case q18whl => refine num_len rfl (by assumption) (by rw [List.length_map]); done); (case q18whb => refine num_bits (by assumption) ?_; intro k; (try dsimp only); (repeat' split) <;> simp; done); (case q18whs => k_extra "my SUB")))
  k_with "my subscriptTail List cons Slice ref ref" => (k_here; plain_pass; k_dflt (refine' slice_from ?q19wF ?q19wN ?q19wm ?q19wc ?q19wd ?q19wx ?q19wi ?_ ?q19ws ?q19wz; (case q19wF => k_asm); (case q19wN => k_asm); (case q19wm => k_extra "my MEM"); (case q19wc => exact rfl); (case q19wd => exact rfl); (case q19wx => omega); (case q19wi => l_ints); (case q19ws => with_unfolding_all rfl); (case q19wz => exact Nat.le_of_ble_eq_true rfl)); intro D' ws' h' F' N' l1 hI'; (try k_lt l1); (try k_sweep))
  k_with "my execs cons" => (k_here; (with_reducible show wpAny _ _ (execs (Stmt.Assign [Expr.Tuple (Expr.Name (Str.ofString "x") _ :: _) _ _] (Expr.Tuple (Expr.BinOp (Expr.Subscript _ _ _) Operator.Sub _ _ :: _) _ _) _ :: _) _) _ _ _); refine Tail.go (by with_reducible assumption) ?_)
  k_with "my IB" => first | with_reducible assumption | with_reducible exact ib_fmod7 _ | with_reducible exact ib_get8 (by with_reducible assumption) (by with_reducible assumption) (by with_reducible assumption) (by with_reducible assumption) (by with_reducible assumption) (by with_reducible assumption) (by with_reducible assumption) (by with_reducible assumption) | with_reducible exact intBits_sub_le (by k_extra "my IB") (by k_extra "my IB") | with_reducible exact intBits_add_le (by k_extra "my IB") (by k_extra "my IB") | with_reducible exact intBits_mul_le (by k_extra "my IB") (by k_extra "my IB") | with_reducible exact intBits_fdiv_le (by k_extra "my IB") | exact Nat.le_refl _
  k_with "my IBL" => (refine' Nat.le_trans ?q22wp ?q22wl; (case q22wp => k_extra "my IB"); (case q22wl => decide +kernel))
  k_with "my Mid1" => (plain_pass; refine' Mid1.mk4 ?q23wF ?q23wN ?q23wha ?q23whb ?q23whc ?q23whd ?q23wpa ?q23wpb ?q23wpc ?q23wpd ?q23wnab ?q23wncd ?q23wi1 ?q23wi2 ?q23wi3 ?q23wi4 ?q23wi5 ?q23wi6 ?q23wi7 ?q23wi8; (case q23wF => k_asm); (case q23wN => k_asm); (case q23wha => with_unfolding_all rfl); (case q23whb => with_unfolding_all rfl); (case q23whc => with_unfolding_all rfl); (case q23whd => with_unfolding_all rfl); (case q23wpa => k_mem); (case q23wpb => k_mem); (case q23wpc => k_mem); (case q23wpd => k_mem); (case q23wnab => k_extra "my NE"); (case q23wncd => k_extra "my NE"); (case q23wi1 => k_extra "my IBL"); (case q23wi2 => k_extra "my IBL"); (case q23wi3 => k_extra "my IBL"); (case q23wi4 => k_extra "my IBL"); (case q23wi5 => k_extra "my IBL"); (case q23wi6 => k_extra "my IBL"); (case q23wi7 => k_extra "my IBL"); (case q23wi8 => k_extra "my IBL"))
  k_with "my execs cons" => (k_here; (with_reducible show wpAny _ _ (execs (Stmt.Assign [Expr.Name (Str.ofString "scale") _] _ _ :: _) _) _ _ _); refine' cut_scale ?q24wF ?q24wN ?q24whx ?q24why ?q24whu ?q24whv ?_ ?_; (case q24wF => k_asm); (case q24wN => k_asm); (case q24whx => with_unfolding_all rfl); (case q24why => with_unfolding_all rfl); (case q24whu => with_unfolding_all rfl); (case q24whv => with_unfolding_all rfl); rotate_left; (intro s' hM); (revert hM; revert s'; refine Mid2.elim ?_; intro h' tk' S' t' m9' F' N' hS' bS'; (try k_sweep)); skip; rotate_left)
  k_with "my CutEnd next" => (plain_pass; refine' CutEnd.mk ?q25wa ?q25wb; (case q25wa => exact rfl); (case q25wb => refine' Mid2.mk2 ?q25wF ?q25whm ?q25wN ?q25whs ?q25whS ?q25whb; (case q25wF => k_asm); (case q25whm => exact rfl); (case q25wN => k_asm); (case q25whs => k_extra "my SUB"); (case q25whS => first | exact ScOk.zero (by assumption) | exact ScOk.pos (by assumption)); (case q25whb => k_extra "my IBL")))
  k_with "my NE" => first | with_reducible assumption | exact ne_48 _ _ | exact ne_4 _ _
  k_with "my PN" => first | with_reducible assumption | (refine' Pn.of2 ?q27wm; (case q27wm => k_extra "my MEM")) | exact Pn.mono (by with_reducible assumption) (by k_extra "my SUB")
  k_with "my SN" => first | with_reducible assumption | (refine' Sn.of2 ?q28wm ?q28wx ?q28wy; (case q28wm => k_extra "my MEM"); (case q28wx => k_extra "my PN"); (case q28wy => k_extra "my PN"))
  k_with "my call builtin:sorted" => (k_here; (with_reducible show wpAny _ _ (call (Value.builtin "sorted") [Value.ref _]) _ _ _); k_dflt (refine' sorted2_led (p0 := (_, _)) (p1 := (_, _)) ?q29wF ?q29wN ?q29whm ?q29whc ?q29whd ?q29wh0 ?q29wh1 ?q29wu ?_; (case q29wF => k_asm); (case q29wN => k_asm); (case q29whm => k_mem); (case q29whc => exact rfl); (case q29whd => exact rfl); (case q29wh0 => k_extra "my SN"); (case q29wh1 => k_extra "my SN"); (case q29wu => first | ktr_units | k_units); k_whole; intro D' c' b0' b1' q0' q1' h' F' N' l1 P0' P1' hsrt; (try k_sweep)))
  k_with "my Mid3" => (refine' Mid3.mk3 ?q30wF ?q30wN ?q30wla ?q30wlb ?q30wlc ?q30wld ?q30wlone ?q30wltwo ?q30wlx ?q30wly ?q30wlcross ?q30wlfar ?q30wlnear ?q30wpa ?q30wpb ?q30wpc ?q30wpd ?q30wpo ?q30wpt ?q30wq1 ?q30wq2 ?q30wq3 ?q30wq4 ?q30wnab ?q30wncd ?q30whS ?q30wbS ?q30wi1 ?q30wi2 ?q30wi3 ?q30wi4 ?q30wi5 ?q30wi6 ?q30wi7 ?q30wi8; (case q30wF => k_asm); (case q30wN => k_asm); (case q30wla => with_unfolding_all rfl); (case q30wlb => with_unfolding_all rfl); (case q30wlc => with_unfolding_all rfl); (case q30wld => with_unfolding_all rfl); (case q30wlone => with_unfolding_all rfl); (case q30wltwo => with_unfolding_all rfl); (case q30wlx => with_unfolding_all rfl); (case q30wly => with_unfolding_all rfl); (case q30wlcross => with_unfolding_all rfl); (case q30wlfar => with_unfolding_all rfl); (case q30wlnear => with_unfolding_all rfl); (case q30wpa => k_mem); (case q30wpb => k_mem); (case q30wpc => k_mem); (case q30wpd => k_mem); (case q30wpo => k_mem); (case q30wpt => k_mem); (case q30wq1 => k_extra "my PNA"); (case q30wq2 => k_extra "my PNA"); (case q30wq3 => k_extra "my PNA"); (case q30wq4 => k_extra "my PNA"); (case q30wnab => with_reducible assumption); (case q30wncd => with_reducible assumption); (case q30whS => with_reducible assumption); (case q30wbS => with_reducible assumption); (case q30wi1 => with_reducible assumption); (case q30wi2 => with_reducible assumption); (case q30wi3 => with_reducible assumption); (case q30wi4 => with_reducible assumption); (case q30wi5 => with_reducible assumption); (case q30wi6 => with_reducible assumption); (case q30wi7 => with_reducible assumption); (case q30wi8 => with_reducible assumption))
  k_with "my execs cons" => (k_here; (with_reducible show wpAny _ _ (execs (Stmt.Assign [Expr.Name (Str.ofString "context") _] _ _ :: _) _) _ _ _); refine Tail.go (by with_reducible assumption) ?_)
  k_with "my Mid4" => (plain_pass; refine' Mid4.mk4 ?q32wF ?q32wN ?q32wla ?q32wlb ?q32wlc ?q32wld ?q32wlmet ?q32wlleft ?q32wljoined ?q32wlsingle ?q32wpa ?q32wpb ?q32wpc ?q32wpd ?q32we ?q32wRm ?q32wRl ?q32wRj ?q32wRs ?q32wnab ?q32wncd ?q32whW ?q32wi1 ?q32wi2 ?q32wi3 ?q32wi4 ?q32wi5 ?q32wi6 ?q32wi7 ?q32wi8; (case q32wF => k_asm); (case q32wN => k_asm); (case q32wla => with_unfolding_all rfl); (case q32wlb => with_unfolding_all rfl); (case q32wlc => with_unfolding_all rfl); (case q32wld => with_unfolding_all rfl); (case q32wlmet => with_unfolding_all rfl); (case q32wlleft => with_unfolding_all rfl); (case q32wljoined => with_unfolding_all rfl); (case q32wlsingle => with_unfolding_all rfl); (case q32wpa => k_mem); (case q32wpb => k_mem); (case q32wpc => k_mem); (case q32wpd => k_mem); (case q32we => k_extra "my SPEC"); (case q32wRm => k_extra "my RDF"); (case q32wRl => k_extra "my RDF"); (case q32wRj => k_extra "my RDF"); (case q32wRs => k_extra "my RDF"); (case q32wnab => with_reducible assumption); (case q32wncd => with_reducible assumption); (case q32whW => with_reducible assumption); (case q32wi1 => with_reducible assumption); (case q32wi2 => with_reducible assumption); (case q32wi3 => with_reducible assumption); (case q32wi4 => with_reducible assumption); (case q32wi5 => with_reducible assumption); (case q32wi6 => with_reducible assumption); (case q32wi7 => with_reducible assumption); (case q32wi8 => with_reducible assumption))
  k_with "my execs cons" => (k_here; (with_reducible show wpAny _ _ (execs (Stmt.Assign [Expr.Tuple (Expr.Name (Str.ofString "met") _ :: Expr.Name (Str.ofString "left") _ :: _) _ _] _ _ :: _) _) _ _ _); refine Tail.go (by with_reducible assumption) ?_)
  k_with "my execs cons" => (k_here; (with_reducible show wpAny _ _ (execs (Stmt.Assign [Expr.Name (Str.ofString "numbers") _] (Expr.ListComp _ _ _ _) _ :: _) _) _ _ _); (fail_if_success (have := (by with_reducible assumption : Tail _ _ _ _ _ _ _))); (refine tail14m (by k_asm) (Tail.mk (fun s' hM => ?_)) (fun tail => ?_)); ((revert hM; revert s'; refine Mid4.elim ?_; intro m' news' h' tk' aa' ab' ac' ad' vm' vl' vj' vs' A1' A2' B1' B2' C1' C2' D1' D2' t1' t2' t3' t4' t5' t6' t7' t8' m9' F' N' pa' pb' pc' pd' Rm' Rl' Rj' Rs' nab' ncd' hW' i1' i2' i3' i4' i5' i6' i7' i8'; (try k_sweep); (obtain ⟨e1', e2', e3', e4'⟩ := agree_parts (law_plain nab' ncd' hW')); (have ok' := relok_of nab' ncd' hW'); (have b1' := bp_of i1' i2'); (have b2' := bp_of i3' i4'); (have b3' := bp_of i5' i6'); (have b4' := bp_of i7' i8')); k_dflt (as_aux_lemma => (k_extra "my ENDS"))); (refine tail12m (by k_asm) (Tail.mk (fun s' hM => ?_)) (fun tail => ?_)); ((have mk3 := mk3_ok); (revert hM; revert s'; refine Mid3.elim ?_; intro m' news' h' tk' aa' ab' ac' ad' one' two' p1' p2' p3' p4' A1' A2' B1' B2' C1' C2' D1' D2' t1' t2' t3' t4' t5' t6' t7' t8' tx' ty' tc' tf' tn' m9' F' N' pa' pb' pc' pd' po' pt' q1' q2' q3' q4' nab' ncd' hW' i1' i2' i3' i4' i5' i6' i7' i8' iC' iF' iN'; (try k_sweep)); k_dflt (as_aux_lemma => (k_extra "my ENDS"))); (refine tail6m (by k_asm) (Tail.mk (fun s' hM => ?_)) (fun tail => ?_)); ((revert hM; revert s'; refine Mid1.elim ?_; intro m' news' h' tk' aa' ab' ac' ad' a1' a2' b1' b2' c1' c2' d1' d2' t1' t2' t3' t4' t5' t6' t7' t8' m9' F' N' pa' pb' pc' pd' nab' ncd' i1' i2' i3' i4' i5' i6' i7' i8'; (try k_sweep)); k_dflt (as_aux_lemma => (k_extra "my ENDS"))))
  k_with "my ENDS" => (k_steps; (all_goals (try k_data)); (all_goals (first | (exfalso; exact script_ne (by assumption) (by assumption)) | skip)); (all_goals (first | (exfalso; exact cr_neg0 (by with_reducible assumption) (by with_reducible assumption)) | (exfalso; exact cr_pos0 (by with_reducible assumption) (by with_reducible assumption)) | (exfalso; exact hc0' (by with_reducible assumption)) | skip)))
  k_with "my compareOp NotIn ref ref" => (k_here; k_dflt (refine' notin_pn ?q36wN ?q36wu ?q36wm ?q36wx ?q36wy ?q36wz ?_; (case q36wN => k_asm); (case q36wu => first | ktr_units | k_units); (case q36wm => k_extra "my MEM"); (case q36wx => k_extra "my PN"); (case q36wy => k_extra "my PN"); (case q36wz => k_extra "my PN"); k_whole))
  k_with "my NX" => first | exact List.forall_mem_nil _ | refine List.forall_mem_cons.mpr ⟨⟨by k_ne, by k_ne, by k_ne⟩, by k_extra "my NX"⟩
  k_with "my CompEnd" => first
    | (refine' comp_end [] ?q38wF ?q38wN ?q38woff ?q38wnx ?q38wsrc ?_; (case q38wF => assumption); (case q38wN => assumption); (case q38woff => assumption); (case q38wnx => k_extra "my NX"); (case q38wsrc => lcg_src))
    | (refine' comp_end [_, _, _] ?q38wF ?q38wN ?q38woff ?q38wnx ?q38wsrc ?_; (case q38wF => assumption); (case q38wN => assumption); (case q38woff => assumption); (case q38wnx => k_extra "my NX"); (case q38wsrc => lcg_src))
    | (refine' comp_end [_, _] ?q38wF ?q38wN ?q38woff ?q38wnx ?q38wsrc ?_; (case q38wF => assumption); (case q38wN => assumption); (case q38woff => assumption); (case q38wnx => k_extra "my NX"); (case q38wsrc => lcg_src))
    | (refine' comp_end [_] ?q38wF ?q38wN ?q38woff ?q38wnx ?q38wsrc ?_; (case q38wF => assumption); (case q38wN => assumption); (case q38woff => assumption); (case q38wnx => k_extra "my NX"); (case q38wsrc => lcg_src))
  k_with "my CompRest" => (with_unfolding_all first
    | (refine LCg.CompRest.succ ?_; intro v' I' oI' C' oC' D' m' h' tk' E' hv' hC' hx' F' N' off' ne'; (have off9 := off'); (first | lcg_open hv' | (obtain ⟨t9', hv9'⟩ := hv'; subst hv9')); (try simp only [LCg.Off3, and_true] at off'))
    | refine LCg.CompRest.zero ?_)
  k_with "my SUBM" => (intro x hx; first | exact hx | (simp only [List.mem_append, List.mem_cons, hx, true_or, or_true]; done))
  k_with "my PN" => first | with_reducible assumption | exact Pn.mono (by with_reducible assumption) (by k_extra "my SUBM") | (refine' Pn.of2 ?q41wm; (case q41wm => k_extra "my MEM"))
  k_with "my SN" => first | with_reducible assumption | exact Sn.mono (by with_reducible assumption) (by k_extra "my SUBM") | (refine' Sn.of2 ?q42wm ?q42wx ?q42wy; (case q42wm => k_extra "my MEM"); (case q42wx => k_extra "my PN"); (case q42wy => k_extra "my PN"))
  k_with "my call builtin:sorted" => (k_here; (with_reducible show wpAny _ _ (call (Value.builtin "sorted") [Value.ref _]) _ _ _); k_dflt (refine' sorted4s_led (p0 := (_, _)) (p1 := (_, _)) (p2 := (_, _)) (p3 := (_, _)) ?q43wF ?q43wN ?q43whm ?q43whc ?q43whd ?q43wh0 ?q43wh1 ?q43wh2 ?q43wh3 ?q43wu ?_; (case q43wF => k_asm); (case q43wN => k_asm); (case q43whm => k_mem); (case q43whc => exact rfl); (case q43whd => exact rfl); (case q43wh0 => k_extra "my SN"); (case q43wh1 => k_extra "my SN"); (case q43wh2 => k_extra "my SN"); (case q43wh3 => k_extra "my SN"); (case q43wu => first | ktr_units | k_units); k_whole; intro D' c' b0' b1' b2' b3' q0' q1' q2' q3' h' F' N' l1 P0' P1' P2' P3' hsrt; (try k_sweep)))
  k_with "my SPEC" => first
    | exact lawSpec_par (by with_reducible assumption) (by with_reducible assumption)
    | exact (lawSpec_col (by with_reducible assumption) (by with_reducible assumption)).trans (sc_eq (by with_reducible assumption))
    | exact (lawSpec_col (by with_reducible assumption) (by with_reducible assumption)).trans (sc_lt (by with_reducible assumption) (by with_reducible assumption))
    | exact (lawSpec_col (by with_reducible assumption) (by with_reducible assumption)).trans (sc_gt (by with_reducible assumption) (by with_reducible assumption))
    | exact hsp9.trans (sp_o1 (by with_reducible assumption))
    | exact hsp9.trans (sp_o2 (by with_reducible assumption))
    | exact hsp9.trans (sp_o3 (by with_reducible assumption))
    | exact hsp9.trans (sp_o4 (by with_reducible assumption))
    | exact hsp9.trans (sp_e1 (by with_reducible assumption) (by with_reducible assumption) (by with_reducible assumption) (by with_reducible assumption) (by with_reducible assumption))
    | exact hsp9.trans (sp_e2 (by with_reducible assumption) (by with_reducible assumption) (by with_reducible assumption) (by with_reducible assumption) (by with_reducible assumption))
    | exact hsp9.trans (sp_in (by with_reducible assumption) (by with_reducible assumption) (by with_reducible assumption) (by with_reducible assumption) (by with_reducible assumption) (by with_reducible assumption))
  k_with "my RDF" => first
    | with_reducible assumption
    | exact Rd.mono (by with_reducible assumption) (by k_extra "my SUBM")
    | (refine' rdf0 ?q45wm; (case q45wm => k_extra "my MEM"))
    | (refine' rdfp ?q45wm ?q45wy; (case q45wm => k_extra "my MEM"); (case q45wy => k_extra "my PN"))
    | (refine' rdf1 ?q45wm ?q45wy; (case q45wm => k_extra "my MEM"); (case q45wy => k_extra "my SN"))
    | (refine' rdf2 ?q45wm ?q45wy0 ?q45wy1 ?q45we; (case q45wm => k_extra "my MEM"); (case q45wy0 => k_extra "my SN"); (case q45wy1 => k_extra "my SN"); (case q45we => with_reducible assumption))
    | (refine' rdf4 ?q45wm ?q45wy0 ?q45wy1 ?q45wy2 ?q45wy3 ?q45we; (case q45wm => k_extra "my MEM"); (case q45wy0 => k_extra "my SN"); (case q45wy1 => k_extra "my SN"); (case q45wy2 => k_extra "my SN"); (case q45wy3 => k_extra "my SN"); (case q45we => with_reducible assumption))
  k_with "my execs cons" => (k_here; (with_reducible show wpAny _ _ (execs (Stmt.Assign [Expr.Name (Str.ofString "left") _] (Expr.ListComp _ _ _ _) _ :: _) _) _ _ _); (refine cut_left (by with_reducible assumption) (by k_asm) (by k_asm) ?_ (fun s' hM => ?_)); rotate_left; (revert hM; revert s'; refine MidR.elim ?_; intro nw' l' h' tk' m9' F' N' R'; (try k_sweep)); skip; rotate_left)
  k_with "my execs cons" => (k_here; (with_reducible show wpAny _ _ (execs (Stmt.Assign [Expr.Name (Str.ofString "single") _] (Expr.Call _ [Expr.ListComp _ _ _ _] _ _) _ :: _) _) _ _ _); (refine cut_single (by with_reducible assumption) (by k_asm) (by k_asm) ?_ (fun s' hM => ?_)); rotate_left; (revert hM; revert s'; refine MidR.elim ?_; intro nw' l' h' tk' m9' F' N' R'; (try k_sweep)); skip; rotate_left)
  k_with "my FIL" => first | (refine' fil_tc ?_ ?_; rotate_left; (with_reducible assumption); (k_extra "my FIL")) | (refine' fil_fc ?_ ?_; rotate_left; (with_reducible assumption); (k_extra "my FIL")) | exact fil_n
  k_with "my CutEnd next" => (plain_pass; (with_reducible refine' CutEnd.mk ?q49wa ?q49wb); (case q49wa => exact rfl); (case q49wb => (with_reducible refine' MidR.mkF ?q49wF ?q49whm ?q49wN ?q49whs ?q49we ?q49wR); (case q49wF => k_asm); (case q49whm => exact rfl); (case q49wN => k_asm); (case q49whs => k_extra "my SUBL"); (case q49we => k_extra "my FIL"); (case q49wR => k_extra "my RDL")))
  k_with "my CutEnd next" => (plain_pass; (with_reducible refine' CutEnd.mk ?q50wa ?q50wb); (case q50wa => exact rfl); (case q50wb => (with_reducible refine' MidR.mkG ?q50wF ?q50whm ?q50wN ?q50whs ?q50we ?q50wk ?q50wR); (case q50wF => k_asm); (case q50whm => exact rfl); (case q50wN => k_asm); (case q50whs => k_extra "my SUBL"); (case q50we => k_extra "my FIL"); (case q50wk => first | with_reducible assumption | with_reducible exact srt0 | with_reducible exact srt1 _); (case q50wR => k_extra "my RDL")))
  k_with "my call builtin:sorted" => (k_here; (with_reducible show wpAny _ _ (call (Value.builtin "sorted") [Value.ref _]) _ _ _); k_dflt (refine' sorted0_led ?q51wF ?q51wN ?q51whm ?q51whc ?q51whd ?_; (case q51wF => k_asm); (case q51wN => k_asm); (case q51whm => k_mem); (case q51whc => exact rfl); (case q51whd => exact rfl); k_whole; intro D' c' h' F' N' l1; (try k_sweep)))
  k_with "my call builtin:sorted" => (k_here; (with_reducible show wpAny _ _ (call (Value.builtin "sorted") [Value.ref _]) _ _ _); k_dflt (refine' sorted1_led ?q52wF ?q52wN ?q52whm ?q52whc ?q52whd ?_; (case q52wF => k_asm); (case q52wN => k_asm); (case q52whm => k_mem); (case q52whc => exact rfl); (case q52whd => exact rfl); k_whole; intro D' c' h' F' N' l1; (try k_sweep)))
  k_with "my call builtin:sorted" => (exfalso; first | exact low_excl (by with_reducible assumption) (by with_reducible assumption) | exact high_excl (by with_reducible assumption) (by with_reducible assumption))
  k_with "my SUBL" => (intro x hx; first | exact hx | exact List.mem_cons_of_mem _ hx | exact List.mem_cons_of_mem _ (List.mem_cons_of_mem _ hx) | (simp only [List.mem_append, List.mem_cons, hx, true_or, or_true]; done) | (simp only [List.mem_cons] at hx ⊢; simp [hx]; done))
  k_with "my RDL" => first
    | (refine' rd0 ?q55wm ?q55wc ?q55wd; (case q55wm => k_extra "my MEM"); (case q55wc => exact rfl); (case q55wd => exact rfl))
    | (refine' rd1 ?q55wm ?q55wc ?q55wd ?q55wy; (case q55wm => k_extra "my MEM"); (case q55wc => exact rfl); (case q55wd => exact rfl); (case q55wy => refine Sn.rd ?_; k_extra "my SN"))
    | (refine' rd2 ?q55wm ?q55wc ?q55wd ?q55wy ?q55wz; (case q55wm => k_extra "my MEM"); (case q55wc => exact rfl); (case q55wd => exact rfl); (case q55wy => refine Sn.rd ?_; k_extra "my SN"); (case q55wz => refine Sn.rd ?_; k_extra "my SN"))
  k_with "my eval ListComp" => (k_here; lct_look; lcg_calm; k_dflt (refine LCt.ListComp_T (F₀ := by k_asm) (by with_unfolding_all rfl) (by decide) (by rfl) (by decide) (by rfl) ?_))
  k_with "my execs cons" => (k_here; (with_reducible show wpAny _ _ (execs (Stmt.If (Expr.Compare (Expr.Name (Str.ofString "cross") _) [CmpOp.Lt] _ _) _ _ _ :: _) _) _ _ _); refine' cut_sign ?q57wF ?q57wN ?q57wh3 ?q57wh2 ?q57wh1 ?_ ?_; (case q57wF => k_asm); (case q57wN => k_asm); (case q57wh3 => with_unfolding_all rfl); (case q57wh2 => with_unfolding_all rfl); (case q57wh1 => with_unfolding_all rfl); rotate_left; (intro s' hM); (revert hM; revert s'; refine MidS.elim ?_; intro h' tk' C' Fa' Ne' tc' tf' tn' m9' F' N' hd'; (obtain ⟨hsp9, hc0', iC', iF', iN'⟩ := sign_facts (by with_reducible assumption) (by with_reducible assumption) (by with_reducible assumption) (by with_reducible assumption) hd'); (try k_sweep)); skip; rotate_left)
  k_with "my CutEnd next" => (plain_pass; (with_reducible refine' CutEnd.mk ?q58wa ?q58wb); (case q58wa => exact rfl); (case q58wb => first
    | (refine' MidS.mkN ?q58wF ?q58whm ?q58wN ?q58whs ?q58whC; (case q58wF => k_asm); (case q58whm => exact rfl); (case q58wN => k_asm); (case q58whs => k_extra "my SUBM"); (case q58whC => with_reducible assumption))
    | (refine' MidS.mkP ?q58wF ?q58wN ?q58wh1 ?q58wh2 ?q58wh3 ?q58whC; (case q58wF => k_asm); (case q58wN => k_asm); (case q58wh1 => with_unfolding_all rfl); (case q58wh2 => with_unfolding_all rfl); (case q58wh3 => with_unfolding_all rfl); (case q58whC => with_reducible assumption))))
  k_with "my SUBX" => (with_reducible refine hsub1 _ ?_; k_extra "my SUBX")
  k_with "my MEM" => (with_reducible refine hsub1 _ ?_; k_extra "my MEM")
  k_with "my exec Assign cons ListComp" => (k_here; lct_look; k_dflt (refine LCt.Assign_ListComp_T (F₀ := by k_asm) (by rfl) (by with_unfolding_all rfl) (by with_unfolding_all rfl) (by decide) (by rfl) (by decide) (by rfl) (by rfl) (by rfl) ?_))
  k_with "my CompSrcT" => (k_here; k_dflt (refine LCt.CompSrcT.ledger (by rfl) (by k_asm) (by k_asm) (by k_mem) (by first | size_fits | exact Nat.le_of_ble_eq_true rfl) ?_; intro g'; (refine' comp3 (four (minP (A1', A2') (B1', B2'), maxP (A1', A2') (B1', B2')) (minP (C1', C2') (D1', D2'), maxP (C1', C2') (D1', D2'))) ?q62whS ?q62wstep ?q62wfin; (case q62whS => exact SnAre.cons (by k_extra "my SN") (SnAre.cons (by k_extra "my SN") (SnAre.cons (by k_extra "my SN") (SnAre.cons (by k_extra "my SN") SnAre.nil)))); (case' q62wstep => intro i' ys' news' a' q' hsub1 hInv' hq' hSn' I' oI' C9' oC' D9' m' h' tk' E' hC' hx' F' N' off' ne'; (have hSn9 := hSn'); (obtain ⟨o', a1', a2', kk', hm', hc', hd', xa', xb'⟩ := hSn')); (case' q62wfin => intro ys' news' hsub1 hA'))))
  k_with "my CompSrcT" => (k_here; k_dflt (refine LCt.CompSrcT.ledger (by rfl) (by k_asm) (by k_asm) (by k_mem) (by first | size_fits | exact Nat.le_of_ble_eq_true rfl) ?_; intro g'; (refine' comp3 (restS (minP (A1', A2') (B1', B2'), maxP (A1', A2') (B1', B2')) (minP (C1', C2') (D1', D2'), maxP (C1', C2') (D1', D2'))) ?q63whS ?q63wstep ?q63wfin; (case q63whS => exact SnAre.cons (by k_extra "my SN") (SnAre.cons (by k_extra "my SN") SnAre.nil)); (case' q63wstep => intro i' ys' news' a' q' hsub1 hInv' hq' hSn' I' oI' C9' oC' D9' m' h' tk' E' hC' hx' F' N' off' ne'; (have hSn9 := hSn'); (obtain ⟨o', a1', a2', kk', hm', hc', hd', xa', xb'⟩ := hSn')); (case' q63wfin => intro ys' news' hsub1 hA'))))
  k_with "my CompEnd" => (refine' comp_end [] ?q64wF ?q64wN ?q64woff ?q64wnx ?q64wsrc ?q64wr; (case q64wF => assumption); (case q64wN => assumption); (case q64woff => with_reducible assumption); (case q64wnx => exact List.forall_mem_nil _); (case q64wsrc => lcg_src); (case q64wr => first | exact InvF.succT9 (by with_reducible assumption) (by with_reducible assumption) (by with_reducible assumption) (by with_reducible assumption) | exact InvF.succF9 (by with_reducible assumption) (by with_reducible assumption) (by with_reducible assumption)))
  k_with "my subscriptTail Name Constant ref int" => (k_here; k_dflt (first
    | (refine' tup_ato 0 ?q65wN ?q65wm ?q65wc ?q65wd ?q65wlo ?q65whi ?q65wj ?q65wx ?_ ?q65ws; (case q65wN => k_asm); (case q65wm => k_extra "my MEM"); (case q65wc => with_reducible assumption); (case q65wd => with_reducible assumption); (case q65wlo => decide); (case q65whi => decide); (case q65wj => exact rfl); (case q65wx => exact rfl); (case q65ws => with_unfolding_all rfl); k_whole)
    | (refine' tup_ato 1 ?q65wN ?q65wm ?q65wc ?q65wd ?q65wlo ?q65whi ?q65wj ?q65wx ?_ ?q65ws; (case q65wN => k_asm); (case q65wm => k_extra "my MEM"); (case q65wc => with_reducible assumption); (case q65wd => with_reducible assumption); (case q65wlo => decide); (case q65whi => decide); (case q65wj => exact rfl); (case q65wx => exact rfl); (case q65ws => with_unfolding_all rfl); k_whole)))
  k_with "my call builtin:sorted" => (k_here; (with_reducible show wpAny _ _ (call (Value.builtin "sorted") [Value.ref _]) _ _ _); k_dflt (refine' sortedB_led ?q66wF ?q66wN ?q66whm ?q66wS ?q66wh2 ?q66wu ?_; (case q66wF => k_asm); (case q66wN => k_asm); (case q66whm => k_mem); (case q66wS => first | with_reducible assumption | exact SnAre.mono (by with_reducible assumption) (by k_extra "my SUBM")); (case q66wh2 => exact four_len _ _); (case q66wu => first | ktr_units | k_units); k_whole; intro D' c' ws' qs' h' F' N' P' hsrt'; (try k_sweep)))
  k_with "my CutEnd next" => (plain_pass; (with_reducible refine' CutEnd.mk ?q67wa ?q67wb); (case q67wa => exact rfl); (case q67wb => (refine' MidR.mkR ?q67wF ?q67whm ?q67wN ?q67whs rfl ?q67wR); (case q67wF => k_asm); (case q67whm => exact rfl); (case q67wN => k_asm); (case q67whs => k_extra "my SUBM"); (case q67wR => first | exact rdAre (by k_extra "my MEM") rfl rfl (SnAre.mono (by with_reducible assumption) (by k_extra "my SUBM")) | exact rdAre_s (by k_extra "my MEM") rfl rfl (SnAre.mono (by with_reducible assumption) (by k_extra "my SUBM")) hsrt')))
  k_with "my CTX" => ((case q9B => k_asm); (case q9F => k_asm); (case q9X => k_asm); (case q9N => k_asm); (case q9T => k_asm); (case q9K => first | assumption | exact rfl); (case q9d => first | ktr_room | exact Nat.le_of_ble_eq_true rfl); (case q9u => first | ktr_units | k_units))
  k_with "my SUBM" => (intro x hx; first | exact hx | (simp only [List.mem_append, List.mem_cons, hx, true_or, or_true]; done))
  k_with "my PO" => first | with_reducible assumption | exact Po.mono (by with_reducible assumption) (by k_extra "my SUBM")
  k_with "my SO" => first | with_reducible assumption | exact So.mono (by with_reducible assumption) (by k_extra "my SUBM") | (refine' So.of ?q71wm ?q71wg ?q71wx ?q71wy; (case q71wm => k_extra "my MEM"); (case q71wg => k_extra "my MEM"); (case q71wx => k_extra "my PO"); (case q71wy => k_extra "my PO"))
  k_with "my CX" => first | with_reducible assumption | exact Cx.mono (by with_reducible assumption) (by k_extra "my SUBM") | (refine' Cx.of ?q72wm ?q72wg; (case q72wm => k_extra "my MEM"); (case q72wg => k_extra "my MEM"))
  k_with "my BP" => with_reducible assumption
  k_with "my OK" => with_reducible assumption
  k_with "my RS" => first | with_reducible assumption | exact RsP.mono (by with_reducible assumption) (by k_extra "my SUBM")
  k_with "my RDA" => first | with_reducible assumption | exact Rd.mono (by with_reducible assumption) (by k_extra "my SUBM")
  k_with "my call ref" => (k_here; (with_reducible show wpAny _ _ (call (Value.ref 132) [Value.int _ _, Value.int _ _]) _ _ _); k_dflt (refine' k_point _ (p := (_, _)) ?q9B ?q9F ?q9X ?q9N ?q9T ?q9K ?q9d ?q9u ?_; k_extra "my CTX"; k_whole; intro nw' r' h' tk' F' N' P'; (try k_sweep)))
  k_with "my call ref" => (k_here; (with_reducible show wpAny _ _ (call (Value.ref 392) [_, _, _]) _ _ _); k_dflt (refine' k_intersect _ ?q9B ?q9F ?q9X ?q9N ?q9T ?q9K ?q9d ?q9u ?q78wc ?q78ws1 ?q78ws2 ?q78wb1 ?q78wb2 ?q78wb3 ?q78wb4 ?q78whi ?q78wok ?_; k_extra "my CTX"; (case q78wc => k_extra "my CX"); (case q78ws1 => k_extra "my SO"); (case q78ws2 => k_extra "my SO"); (case q78wb1 => k_extra "my BP"); (case q78wb2 => k_extra "my BP"); (case q78wb3 => k_extra "my BP"); (case q78wb4 => k_extra "my BP"); (case q78whi => exact rfl); (case q78wok => k_extra "my OK"); k_whole; intro nw' v' h' tk' F' N' R'; (try k_sweep)))
  k_with "my call ref" => (k_here; (with_reducible show wpAny _ _ (call (Value.ref 399) [_, _, _]) _ _ _); k_dflt (refine' k_subtract _ ?q9B ?q9F ?q9X ?q9N ?q9T ?q9K ?q9d ?q9u ?q79wc ?q79ws1 ?q79ws2 ?q79wb1 ?q79wb2 ?q79wb3 ?q79wb4 ?_; k_extra "my CTX"; (case q79wc => k_extra "my CX"); (case q79ws1 => k_extra "my SO"); (case q79ws2 => k_extra "my SO"); (case q79wb1 => k_extra "my BP"); (case q79wb2 => k_extra "my BP"); (case q79wb3 => k_extra "my BP"); (case q79wb4 => k_extra "my BP"); k_whole; intro nw' v' h' tk' F' N' R'; (try k_sweep)))
  k_with "my call ref" => (k_here; (with_reducible show wpAny _ _ (call (Value.ref 406) [_, _, _]) _ _ _); k_dflt (refine' k_symm _ ?q9B ?q9F ?q9X ?q9N ?q9T ?q9K ?q9d ?q9u ?q80wc ?q80ws1 ?q80ws2 ?q80wb1 ?q80wb2 ?q80wb3 ?q80wb4 ?q80whi ?q80wok ?_; k_extra "my CTX"; (case q80wc => k_extra "my CX"); (case q80ws1 => k_extra "my SO"); (case q80ws2 => k_extra "my SO"); (case q80wb1 => k_extra "my BP"); (case q80wb2 => k_extra "my BP"); (case q80wb3 => k_extra "my BP"); (case q80wb4 => k_extra "my BP"); (case q80whi => exact rfl); (case q80wok => k_extra "my OK"); k_whole; intro nw' v' h' tk' F' N' R'; (try k_sweep)))
  k_with "my call ref" => (k_here; (with_reducible show wpAny _ _ (call (Value.ref 413) [_, _, _]) _ _ _); k_dflt (refine' k_unite _ ?q9B ?q9F ?q9X ?q9N ?q9T ?q9K ?q9d ?q9u ?q81wc ?q81ws1 ?q81ws2 ?q81wb1 ?q81wb2 ?q81wb3 ?q81wb4 ?q81whi ?q81wok ?_; k_extra "my CTX"; (case q81wc => k_extra "my CX"); (case q81ws1 => k_extra "my SO"); (case q81ws2 => k_extra "my SO"); (case q81wb1 => k_extra "my BP"); (case q81wb2 => k_extra "my BP"); (case q81wb3 => k_extra "my BP"); (case q81wb4 => k_extra "my BP"); (case q81whi => exact rfl); (case q81wok => k_extra "my OK"); k_whole; intro nw' v' h' tk' F' N' R'; (try k_sweep)))
  k_with "my call ref" => (k_here; (with_reducible show wpAny _ _ (call (Value.ref 467) [_, _]) _ _ _); k_dflt (refine' k_told _ ?q9B ?q9F ?q9X ?q9N ?q9T ?q9K ?q9d ?q9u ?q82wc ?q82wr ?_; k_extra "my CTX"; (case q82wc => k_extra "my CX"); (case q82wr => k_extra "my RS"); k_whole; intro nw' v' h' tk' F' N' R'; (try k_sweep)))
  k_with "my compareOp NotEq" => (k_here; k_dflt (refine' ne_told ?q83wN ?q83wu ?q83wa ?q83wb ?q83we ?_; (case q83wN => k_asm); (case q83wu => first | ktr_units | k_units); (case q83wa => k_extra "my RDA"); (case q83wb => k_extra "my RDA"); (case q83we => with_reducible assumption); k_whole))
  k_with "my compareOp Eq" => (k_here; k_dflt (refine' eq_told ?q84wN ?q84wu ?q84wa ?q84wb ?q84we ?_; (case q84wN => k_asm); (case q84wu => first | ktr_units | k_units); (case q84wa => k_extra "my RDA"); (case q84wb => k_extra "my RDA"); (case q84we => with_reducible assumption); k_whole))
  k_with "my SUBX" => (with_reducible refine hsub1 _ ?_; k_extra "my SUBX")
  k_with "my MEM" => (with_reducible refine hsub1 _ ?_; k_extra "my MEM")
  k_with "my execs cons" => (k_here; (with_reducible show wpAny _ _ (execs (Stmt.If (Expr.Compare (Expr.Name (Str.ofString "a") _) _ [Expr.Name (Str.ofString "b") _] _) _ _ _ :: _) _) _ _ _); refine' cut_ab ?q87wF ?q87wN ?q87wha ?q87wpa ?_ ?_; (case q87wF => k_asm); (case q87wN => k_asm); (case q87wha => with_unfolding_all rfl); (case q87wpa => k_mem); rotate_left; (intro s' hM); (revert hM; revert s'; refine MidE.elim ?_; intro h' tk' all' ab' b1' b2' t3' t4' m9' F' N' hsub1 pb' nab' ib1' ib2'; (try k_sweep)); skip; rotate_left)
  k_with "my execs cons" => (k_here; (with_reducible show wpAny _ _ (execs (Stmt.If (Expr.BoolOp _ _ _) _ _ _ :: Stmt.If (Expr.Compare (Expr.Name (Str.ofString "c") _) _ _ _) _ _ _ :: _) _) _ _ _); refine' cut_cd ?q88wF ?_ ?_; (case q88wF => k_asm); rotate_left; (intro s' hM); (revert hM; revert s'; refine MidF.elim ?_; intro m' news' h' tk' aa' ab' ac' ad' a1' a2' b1' b2' c1' c2' d1' d2' t1' t2' t3' t4' t5' t6' t7' t8' m9' F' N' pa' pb' pc' pd' nab' i1' i2' i3' i4' i5' i6' i7' i8'; (try k_sweep)); skip; rotate_left)
  k_with "my IBE" => (refine' Nat.le_trans ?q89wp ?q89wl; (case q89wp => k_extra "my IB"); (case q89wl => decide +kernel))
  k_with "my CutEnd next" => (plain_pass; (with_reducible refine' CutEnd.mk ?q90wa ?q90wb); (case q90wa => exact rfl); (case q90wb => first
    | (refine' MidE.mkN ?q90wF ?q90whm ?q90wN ?q90whs ?q90wpb ?q90wnab ?q90wi1 ?q90wi2; (case q90wF => k_asm); (case q90whm => exact rfl); (case q90wN => k_asm); (case q90whs => k_extra "my SUBM"); (case q90wpb => k_mem); (case q90wnab => k_extra "my NE"); (case q90wi1 => k_extra "my IBL"); (case q90wi2 => k_extra "my IBL"))
    | (refine' MidE.mkO ?q90wF ?q90wN ?q90whb ?q90wpb ?q90wnab ?q90wi1 ?q90wi2; (case q90wF => k_asm); (case q90wN => k_asm); (case q90whb => with_unfolding_all rfl); (case q90wpb => k_mem); (case q90wnab => k_extra "my NE"); (case q90wi1 => k_extra "my IBL"); (case q90wi2 => k_extra "my IBL"))
    | (refine' MidF.mk4 ?q90wF ?q90wN ?q90wha ?q90whb ?q90whc ?q90whd ?q90wpa ?q90wpb ?q90wpc ?q90wpd ?q90wnab ?q90wi1 ?q90wi2 ?q90wi3 ?q90wi4 ?q90wi5 ?q90wi6 ?q90wi7 ?q90wi8; (case q90wF => k_asm); (case q90wN => k_asm); (case q90wha => with_unfolding_all rfl); (case q90whb => with_unfolding_all rfl); (case q90whc => with_unfolding_all rfl); (case q90whd => with_unfolding_all rfl); (case q90wpa => k_mem); (case q90wpb => k_mem); (case q90wpc => k_mem); (case q90wpd => k_mem); (case q90wnab => with_reducible assumption); (case q90wi1 => k_extra "my IBL"); (case q90wi2 => k_extra "my IBL"); (case q90wi3 => k_extra "my IBL"); (case q90wi4 => k_extra "my IBL"); (case q90wi5 => k_extra "my IBL"); (case q90wi6 => k_extra "my IBL"); (case q90wi7 => k_extra "my IBL"); (case q90wi8 => k_extra "my IBL"))))
  k_with "my eval Name" => (k_here; k_dflt (first
    | (refine' nameX_K ?q91wF ?q91wX ?q91wT ?q91we ?_ ?q91wa ?q91wb; (case q91wF => k_asm); (case q91wX => k_asm); (case q91wT => k_asm); (case q91wa => rfl); (case q91wb => rfl); (case q91we => k_is); k_whole)
    | (refine' nameX_B ?q91wF ?q91wX ?q91wT ?q91we ?q91wv ?q91wn ?_ ?q91wa ?q91wb; (case q91wF => k_asm); (case q91wX => k_asm); (case q91wT => k_asm); (case q91wa => rfl); (case q91wb => rfl); (case q91we => k_is); (case q91wv => boot_fast); (case q91wn => decide); k_whole)))
  k_with "my exec Assign" => (k_fold)
  k_with "my exec If" => (k_fold)
  k_with "my eval BinOp" => (k_fold)
  k_with "my eval Tuple" => (k_fold)
  k_with "my eval Call" => (k_fold)
  k_with "my eval Call Attribute" => (k_fold)
  k_with "my storeName" => (k_here; k_dflt (refine' storeL ?q98wF ?q98wN ?_ ?q98wa ?q98wb; (case q98wF => k_asm); (case q98wN => k_asm); (case q98wa => rfl); (case q98wb => rfl); k_whole; intro m' h' tk' F' N'; (try k_sweep)))
  k_with "my eval Name" => (k_here; k_dflt (refine' nameL ?q99wF ?q99wv ?_ ?q99wok ?q99whl; (case q99wF => k_asm); (case q99whl => rfl); (case q99wok => rfl); (case q99wv => rfl); k_whole))
  k_with "my eval Attribute Name" => (k_here; k_dflt (refine' attrL ?q100wF ?q100wv ?_ ?q100wok ?q100whl; (case q100wF => k_asm); (case q100whl => rfl); (case q100wok => rfl); (case q100wv => rfl); k_whole))
  k_with "my spliced" => (k_here; k_dflt (first
    | ((with_reducible refine' argLL ?q101wF ?q101wv ?q101wu ?_ ?q101wok ?q101woj ?q101whl); (case q101wF => k_asm); (case q101whl => rfl); (case q101wok => rfl); (case q101woj => rfl); (case q101wv => rfl); (case q101wu => rfl); k_whole)
    | ((with_reducible refine' argL1 ?q101wF ?q101wv ?_ ?q101wok ?q101whl); (case q101wF => k_asm); (case q101whl => rfl); (case q101wok => rfl); (case q101wv => rfl); k_whole)
    | ((with_reducible refine' argL ?q101wF ?q101wv ?_ ?q101wok ?q101whl); (case q101wF => k_asm); (case q101whl => rfl); (case q101wok => rfl); (case q101wv => rfl); k_whole)))
  k_with "my eval Call Attribute" => (k_here; k_dflt (refine' methL ?q102wF ?q102wv ?_ ?q102wok ?q102whl ?q102whe; (case q102wF => k_asm); (case q102whl => rfl); (case q102wok => rfl); (case q102wv => rfl); (case q102whe => rfl); k_whole))
  k_with "my isTrue Compare" => (k_here; k_dflt (first
    | ((with_reducible refine' cmpLL ?q103wF ?q103wv ?q103wu ?_ ?q103wok ?q103woj ?q103whl ?q103whm); (case q103wF => k_asm); (case q103whl => rfl); (case q103wok => rfl); (case q103woj => rfl); (case q103whm => with_unfolding_all rfl); (case q103wv => rfl); (case q103wu => rfl); k_whole)
    | ((with_reducible refine' cmpL ?q103wF ?q103wv ?_ ?q103wok ?q103whl ?q103whm); (case q103wF => k_asm); (case q103whl => rfl); (case q103wok => rfl); (case q103whm => with_unfolding_all rfl); (case q103wv => rfl); k_whole)))
  k_with "my eval Name" => (k_here; (with_reducible show wpAny _ _ (eval (Expr.Name _ _) (compEnvC _ _ _ _)) _ _ _); k_dflt (first
    | refine LCgL.ld_own (by k_asm) (by k_mem) (by assumption) (by assumption) ?_
    | refine LCgL.ld_global (by k_asm) (by k_asm) (by k_asm) (by k_is) ?_
    | refine LCgL.ld_built (by k_asm) (by k_asm) (by k_asm) (by k_is) (by boot_by_name) (by decide) ?_))
  k_with "my subscriptTail Name Constant ref int" => (k_here; k_dflt (refine' lis_at ?q105wN ?q105wm ?q105wlo ?q105whi ?q105wx ?_ ?q105ws; (case q105wN => k_asm); (case q105wm => k_extra "my MEM"); (case q105wlo => decide); (case q105whi => decide); (case q105wx => exact rfl); (case q105ws => with_unfolding_all rfl); k_whole))
  k_with "my subscriptTail Name Constant ref int" => (k_here; k_dflt (first
    | (refine' tup_at 0 ?q106wN ?q106wm ?q106wlo ?q106whi ?q106wj ?q106wx ?_ ?q106ws; (case q106wN => k_asm); (case q106wm => k_extra "my MEM"); (case q106wlo => decide); (case q106whi => decide); (case q106wj => exact rfl); (case q106wx => exact rfl); (case q106ws => with_unfolding_all rfl); k_whole)
    | (refine' tup_at 1 ?q106wN ?q106wm ?q106wlo ?q106whi ?q106wj ?q106wx ?_ ?q106ws; (case q106wN => k_asm); (case q106wm => k_extra "my MEM"); (case q106wlo => decide); (case q106whi => decide); (case q106wj => exact rfl); (case q106wx => exact rfl); (case q106ws => with_unfolding_all rfl); k_whole)))
  k_with "my SUBX" => first | with_reducible exact hx9 | (with_reducible refine List.mem_cons_of_mem _ ?_; k_extra "my SUBX") | (with_reducible refine List.mem_append_right _ ?_; k_extra "my SUBX") | (with_reducible refine List.mem_append_left _ ?_; k_extra "my SUBX")
  k_with "my SUBM" => (intro x9 hx9; k_extra "my SUBX")
  trivial
theorem main.tw12608185968620612914 : True := trivial
theorem main.tw11092141859048813250 : True := trivial
theorem main.tw17146568849442343683 : True := trivial
theorem main.tw3562595001068472590 : True := trivial
theorem main.tw13025489026392653513 : True := trivial
theorem main.tw10450603732522932521 : True := trivial
theorem main.tw6511744376749373798 : True := trivial
theorem main.tw2406621943657119228 : True := trivial
theorem main.tw13972245371655741198 : True := trivial
theorem main.tw5372645768047454471 : True := trivial
theorem main.tw9268297945177815525 : True := trivial
theorem main.tw14027531716089632829 : True := trivial
theorem main.tw2895952525429962455 : True := trivial
theorem main.tw11785714552879321826 : True := trivial
theorem main.tw5781596087445459943 : True := trivial
theorem main.tw15303317825217679618 : True := trivial
theorem main.tw11812620880713246772 : True := trivial
theorem main.tw15955573374722617477 : True := trivial
theorem main.tw11692516046256081784 : True := trivial
theorem main.tw7332552209862256014 : True := trivial
theorem main.tw5518243967957118194 : True := trivial
theorem main.tw15806524323241146399 : True := trivial
theorem main.tw2821470743931037460 : True := trivial
theorem main.tw16778611742570070204 : True := trivial
theorem main.tw11101190512080308003 : True := trivial
theorem main.tw4637267157515435788 : True := trivial
theorem main.tw11273777480241942364 : True := trivial
theorem main.tw6788530277367551627 : True := trivial
theorem main.tw1632041292262086317 : True := trivial
theorem main.tw6855474311058116810 : True := trivial
theorem main.tw13219505800766818778 : True := trivial
theorem main.tw9265829497004654079 : True := trivial
theorem main.tw6801380410627298636 : True := trivial
theorem main.tw15485851114877660061 : True := trivial
theorem main.tw17297283025540448806 : True := trivial
theorem main.tw5084117380071580128 : True := trivial
theorem main.tw2019394398466159022 : True := trivial
theorem main.tw13689970425243653257 : True := trivial
theorem main.tw17644181745481072423 : True := trivial
theorem main.tw3394367416137920725 : True := trivial
theorem main.tw1150287232629052791 : True := trivial
theorem main.tw15580989882048331800 : True := trivial
theorem main.tw1504049600530537962 : True := trivial
theorem main.tw13406003279186336099 : True := trivial
theorem main.tw17052023290607921161 : True := trivial
theorem main.tw5760732467806620248 : True := trivial
theorem main.tw4261964983698606537 : True := trivial
theorem main.tw17561526911342447988 : True := trivial
theorem main.tw13777938177461255882 : True := trivial
theorem main.tw16452447596832230105 : True := trivial
theorem main.tw15984706205718930553 : True := trivial
theorem main.tw2852251193174398662 : True := trivial
theorem main.tw6361450105264607166 : True := trivial
theorem main.tw15510692781650021527 : True := trivial
theorem main.tw9730157408454304684 : True := trivial
theorem main.tw9512817274939609580 : True := trivial
theorem main.tw11239335112260394413 : True := trivial
theorem main.tw14218914174604095658 : True := trivial
theorem main.tw17403364634526059139 : True := trivial
theorem main.tw2287757881348798766 : True := trivial
theorem main.tw2724176850512262202 : True := trivial
theorem main.tw14562738103837258888 : True := trivial
theorem main.tw7698036289167662538 : True := trivial
theorem main.tw7237411587787531456 : True := trivial
theorem main.tw17128291446047057950 : True := trivial
theorem main.tw4452170602077327944 : True := trivial
theorem main.tw5240779543111244032 : True := trivial
theorem main.tw12885385263037960081 : True := trivial
theorem main.tw11221353774195762014 : True := trivial
theorem main.tw18238007617527299592 : True := trivial
theorem main.tw8627561154394265716 : True := trivial
theorem main.tw13876859957761632879 : True := trivial
theorem main.tw15109750227778091905 : True := trivial
theorem main.tw3957732937648964663 : True := trivial
theorem main.tw10825838108423173272 : True := trivial
theorem main.tw16008252555379753968 : True := trivial
theorem main.tw5363903885879670357 : True := trivial
theorem main.tw16519101796099990279 : True := trivial
theorem main.tw9994787619460420439 : True := trivial
theorem main.tw9121559901702372667 : True := trivial
theorem main.tw13110577991587790113 : True := trivial
theorem main.tw10821422270917381399 : True := trivial
theorem main.tw6161133996638707016 : True := trivial
theorem main.tw4775608329324902142 : True := trivial
theorem main.tw1429040668314091153 : True := trivial
theorem main.tw1714950047550659301 : True := trivial
theorem main.tw12732289081945773324 : True := trivial
theorem main.tw5638201095994319732 : True := trivial
theorem main.tw17974016328880235120 : True := trivial
theorem main.tw1270039299266317192 : True := trivial
theorem main.tw13348322127785295214 : True := trivial
theorem main.tw4038153913678941442 : True := trivial
theorem main.tw17118054049896295152 : True := trivial
theorem main.tw17336282652733537790 : True := trivial
theorem main.tw7380652910202371479 : True := trivial
theorem main.tw17272174723667511238 : True := trivial
theorem main.tw4500915450034043215 : True := trivial
theorem main.tw3027586509356016917 : True := trivial
theorem main.tw1118068078248606362 : True := trivial
theorem main.tw14064073609400967072 : True := trivial
theorem main.tw17737603089517620647 : True := trivial
theorem main.tw10204856939554784155 : True := trivial
theorem main.tw7514964652732493775 : True := trivial
theorem main.tw6886502059237256666 : True := trivial
theorem main.tw11857135199678951331 : True := trivial
theorem main.tw5436791530062809996 : True := trivial
theorem main.tw1453356044741674121 : True := trivial
theorem main.tw16923884221124529275 : True := trivial
theorem main.tw6565609875121592624 : True := trivial
theorem main.tw6785657489111691699 : True := trivial
theorem main.tw979501456738626862 : True := trivial
theorem main.tw9417822746687237092 : True := trivial
theorem main.tw15467891735981029475 : True := trivial
theorem main.tw10455743928339290457 : True := trivial
theorem main.tw2496676261509829067 : True := trivial
theorem main.tw5396188567872606041 : True := trivial
theorem main.tw4324958949535026087 : True := trivial
theorem main.tw5613160597433933154 : True := trivial
theorem main.tw8440099810896429113 : True := trivial
theorem main.tw14771111431291430275 : True := trivial
theorem main.tw3583811862363856187 : True := trivial
theorem main.tw4749052000479324790 : True := trivial
theorem main.tw12922898485456448571 : True := trivial
theorem main.tw104360540948158410 : True := trivial
theorem main.tw18287795668848337631 : True := trivial
theorem main.tw7884331609784382070 : True := trivial
theorem main.tw1615956725737779560 : True := trivial
theorem main.tw6237627108579964202 : True := trivial
theorem main.tw6162249291895867263 : True := trivial
theorem main.tw7904437144335635152 : True := trivial
theorem main.tw8079908401900000222 : True := trivial
theorem main.tw12800608258095302798 : True := trivial
theorem main.tw9897820754763898449 : True := trivial
theorem main.tw9249803139623362741 : True := trivial
theorem main.tw15350898050860989542 : True := trivial
theorem main.tw8663697691656813868 : True := trivial
theorem main.tw15554039934745177238 : True := trivial
theorem main.tw11735423636902730196 : True := trivial
theorem main.tw10919033858107767486 : True := trivial
theorem main.tw2576143066097090251 : True := trivial
theorem main.tw15558288988949320067 : True := trivial
theorem main.tw12455012482086183272 : True := trivial
theorem main.tw10864377008497418100 : True := trivial
theorem main.tw10234815189450012239 : True := trivial
theorem main.tw15734660467963936456 : True := trivial
theorem main.tw18134284020713443437 : True := trivial
theorem main.tw12939479104171293914 : True := trivial
theorem main.tw4605139254293405059 : True := trivial
theorem main.tw13724616953566380437 : True := trivial
theorem main.tw8478376212529829071 : True := trivial
theorem main.tw17353955331779342651 : True := trivial
theorem main.tw11476092923266045095 : True := trivial
theorem main.tw11086099901593105684 : True := trivial
theorem main.tw16451033083921036709 : True := trivial
theorem main.tw9508770018378322450 : True := trivial
theorem main.tw16572128252103988241 : True := trivial
theorem main.tw9840939614602229412 : True := trivial
theorem main.tw16135426469972691074 : True := trivial
theorem main.tw3829396358689915599 : True := trivial
theorem main.tw18190005008629794160 : True := trivial
theorem main.tw3314904115985164895 : True := trivial
theorem main.tw9155575984036265788 : True := trivial
theorem main.tw14618997812475977823 : True := trivial
theorem main.tw7590696779544312186 : True := trivial
theorem main.tw5396361742852586263 : True := trivial
theorem main.tw15270170921892066516 : True := trivial
theorem main.tw17057053908230417247 : True := trivial
theorem main.tw15595112118272840620 : True := trivial
theorem main.tw11637308255887358359 : True := trivial
theorem main.tw15513328568306737418 : True := trivial
theorem main.tw4979129192750982822 : True := trivial
theorem main.tw4126091431370883743 : True := trivial
theorem main.tw10652863235454686790 : True := trivial
theorem main.tw9498315638749924794 : True := trivial
theorem main.tw6690441779611380620 : True := trivial
theorem main.tw17268439761433841065 : True := trivial
theorem main.tw7974275031393228247 : True := trivial
theorem main.tw4427053143261297921 : True := trivial
theorem main.tw9903775340124721222 : True := trivial
theorem main.tw12646911602827044314 : True := trivial
theorem main.tw18063282731904131703 : True := trivial
theorem main.tw16320729459185622934 : True := trivial
theorem main.tw1277820614484962519 : True := trivial
theorem main.tw7308723440029596264 : True := trivial
theorem main.tw13224007501803129859 : True := trivial
theorem main.tw14759895335926876869 : True := trivial
theorem main.tw3706830351922483016 : True := trivial
theorem main.tw14080665800827857628 : True := trivial
theorem main.tw17871620999419790863 : True := trivial
theorem main.tw15649996292582860464 : True := trivial
theorem main.tw6696893160125735727 : True := trivial
theorem main.tw11544348965984651327 : True := trivial
theorem main.tw4026956272090484662 : True := trivial
theorem main.tw17695171507069755227 : True := trivial
theorem main.tw14161005256144132680 : True := trivial
theorem main.tw365850788961202214 : True := trivial
theorem main.tw1587290215689348708 : True := trivial
theorem main.tw13547569757486424058 : True := trivial
theorem main.tw1469836325065767749 : True := trivial
theorem main.tw14504180641510445567 : True := trivial
theorem main.tw6697339332421208802 : True := trivial
theorem main.tw14798791472264738832 : True := trivial
theorem main.tw1496695287857109588 : True := trivial
theorem main.tw16008457594558532635 : True := trivial
theorem main.tw73751810991705359 : True := trivial
theorem main.tw10625486282989778954 : True := trivial
theorem main.tw15737690656516749961 : True := trivial
theorem main.tw15017983477296125989 : True := trivial
theorem main.tw1409966394225722968 : True := trivial
theorem main.tw6183352029847204284 : True := trivial
theorem main.tw7186131708394509389 : True := trivial
theorem main.tw12941917028564957548 : True := trivial
theorem main.tw7235775444256392728 : True := trivial
theorem main.tw12543713266681445118 : True := trivial
theorem main.tw13693970394777133609 : True := trivial
theorem main.tw7268301785047649679 : True := trivial
theorem main.tw6741292078354696603 : True := trivial
theorem main.tw31828345220925962 : True := trivial
theorem main.tw4906387829232792097 : True := trivial
theorem main.tw33456957511925785 : True := trivial
theorem main.tw15356762974548107741 : True := trivial
theorem main.tw1156462466702112376 : True := trivial
theorem main.tw18120430973489738927 : True := trivial
theorem main.tw15915093253319898290 : True := trivial
theorem main.tw961187720498965250 : True := trivial
theorem main.tw4458048076830672230 : True := trivial
theorem main.tw15608450976537380609 : True := trivial
theorem main.tw4544244032028310869 : True := trivial
theorem main.tw10669944970481658594 : True := trivial
theorem main.tw13355152605343272895 : True := trivial
theorem main.tw18132893181854203810 : True := trivial
theorem main.tw8557395850702784662 : True := trivial
theorem main.tw1306636233014830658 : True := trivial
theorem main.tw5203219222101121401 : True := trivial
theorem main.tw3045742163950154196 : True := trivial
theorem main.tw5677329702179833609 : True := trivial
theorem main.tw17390355617331479610 : True := trivial
theorem main.tw10652611922669240339 : True := trivial
theorem main.tw11554813239044494598 : True := trivial
theorem main.tw10231336680788121439 : True := trivial
theorem main.tw221909299271738847 : True := trivial
theorem main.tw5160751907100791332 : True := trivial
theorem main.tw2279707942289718827 : True := trivial
theorem main.tw15624239662980076321 : True := trivial
theorem main.tw453184122279072053 : True := trivial
theorem main.tw3570300971023340979 : True := trivial
theorem main.tw11987853993630220354 : True := trivial
theorem main.tw12027323910402764344 : True := trivial
theorem main.tw11461230924637031220 : True := trivial
theorem main.tw2583023086579268501 : True := trivial
theorem main.tw10877679251791092727 : True := trivial
theorem main.tw10114013102757674387 : True := trivial
theorem main.tw962032349192862916 : True := trivial
theorem main.tw12992176717851604617 : True := trivial
theorem main.tw16305672181175384284 : True := trivial
theorem main.tw17450470499104002142 : True := trivial
theorem main.tw8260724100714396741 : True := trivial
theorem main.tw7332330508316399935 : True := trivial
theorem main.tw1120264589727278449 : True := trivial
theorem main.tw917386388269078853 : True := trivial
theorem main.tw4598714311443487704 : True := trivial
theorem main.tw15131278010643852716 : True := trivial
theorem main.tw17453503289922162039 : True := trivial
theorem main.tw12872379398031375081 : True := trivial
theorem main.tw17708487481403421675 : True := trivial
theorem main.tw12839114828313443825 : True := trivial
theorem main.tw9976160756891316704 : True := trivial
theorem main.tw1767102223536069037 : True := trivial
theorem main.tw12518504611687188807 : True := trivial
theorem main.tw1826329307503635854 : True := trivial
theorem main.tw18315214858253571532 : True := trivial
theorem main.tw7751025194823839400 : True := trivial
theorem main.tw6044114016751833949 : True := trivial
theorem main.tw8466321980469482115 : True := trivial
theorem main.tw1656686287037406169 : True := trivial
theorem main.tw2759098988195820126 : True := trivial
theorem main.tw2225956059507018244 : True := trivial
theorem main.tw10665469846841522134 : True := trivial
theorem main.tw10140136200207757160 : True := trivial
theorem main.tw8436210846270712021 : True := trivial
theorem main.tw10298723112805639129 : True := trivial
theorem main.tw11501822485730972192 : True := trivial
theorem main.tw13503263706703578961 : True := trivial
theorem main.tw16965079339398995527 : True := trivial
theorem main.tw6545385358150927430 : True := trivial
theorem main.tw15342904991969174519 : True := trivial
theorem main.tw4650958065196391918 : True := trivial
theorem main.tw14510055921401542917 : True := trivial
theorem main.tw16832360635688203351 : True := trivial
theorem main.tw10750994468655217958 : True := trivial
theorem main.tw7647378279178456250 : True := trivial
theorem main.tw16411370214107742406 : True := trivial
theorem main.tw14635473669698735251 : True := trivial
theorem main.tw9381277316556691805 : True := trivial
theorem main.tw10363585996791799541 : True := trivial
theorem main.tw7293298908176781663 : True := trivial
theorem main.tw9682133043923132273 : True := trivial
theorem main.tw11646826074482590764 : True := trivial
theorem main.tw11181722664286889309 : True := trivial
theorem main.tw12343854547171428336 : True := trivial
theorem main.tw3298483428156984901 : True := trivial
theorem main.tw8707812797481193996 : True := trivial
theorem main.tw6389877041954997217 : True := trivial
theorem main.tw17510229520200029679 : True := trivial
theorem main.tw14060465935940456498 : True := trivial
theorem main.tw17679725944135375923 : True := trivial
theorem main.tw6596593509180878263 : True := trivial
theorem main.tw18284262389922463811 : True := trivial
theorem main.tw3532412968194664532 : True := trivial
theorem main.tw2238316416991798583 : True := trivial
theorem main.tw4812270449578504274 : True := trivial
theorem main.tw11962923498438245051 : True := trivial
theorem main.tw8467378866343419333 : True := trivial
theorem main.tw17402982504261768225 : True := trivial
theorem main.tw11399646045708457374 : True := trivial
theorem main.tw2629084897520917108 : True := trivial
theorem main.tw2544328076492683441 : True := trivial
theorem main.tw6053611964639427726 : True := trivial
theorem main.tw7153082081811710619 : True := trivial
theorem main.tw8729708805864041840 : True := trivial
theorem main.tw12273490649430754879 : True := trivial
theorem main.tw452746233719593009 : True := trivial
theorem main.tw5473700226181020891 : True := trivial
theorem main.tw4324919056299394516 : True := trivial
theorem main.tw14961972930301433522 : True := trivial
theorem main.tw16356685582667847594 : True := trivial
theorem main.tw14360999137194182845 : True := trivial
theorem main.tw8484041278411425421 : True := trivial
theorem main.tw12077450504624328385 : True := trivial
theorem main.tw6508729118710982530 : True := trivial
theorem main.tw3779293765908593550 : True := trivial
theorem main.tw15277975159832343749 : True := trivial
theorem main.tw8844999433837080629 : True := trivial
theorem main.tw716429049611869786 : True := trivial
theorem main.tw6542085627976250192 : True := trivial
theorem main.tw12463224122652932544 : True := trivial
theorem main.tw14492832472218066102 : True := trivial
theorem main.tw4039676971129161736 : True := trivial
theorem main.tw8118072479153026202 : True := trivial
theorem main.tw13626721169425172152 : True := trivial
theorem main.tw9957550378297406723 : True := trivial
theorem main.tw3491332818749588091 : True := trivial
theorem main.tw16689149305811164139 : True := trivial
theorem main.tw302440914744352476 : True := trivial
theorem main.tw2647654807098235363 : True := trivial
theorem main.tw2456247091588846565 : True := trivial
theorem main.tw5127751686995613262 : True := trivial
theorem main.tw11003572833241299968 : True := trivial
theorem main.tw1519927702969063271 : True := trivial
theorem main.tw13132915859168520264 : True := trivial
theorem main.tw14061640607465278742 : True := trivial
theorem main.tw10665089971535097683 : True := trivial
theorem main.tw750237026923860459 : True := trivial
theorem main.tw11982392923317675503 : True := trivial
theorem main.tw13962693860625380366 : True := trivial
theorem main.tw15060185592220127646 : True := trivial
theorem main.tw17223442867436993403 : True := trivial
theorem main.tw4333880214566435006 : True := trivial
theorem main.tw9190990891756207365 : True := trivial
theorem main.tw18418235949754561950 : True := trivial
theorem main.tw387501639795913443 : True := trivial
theorem main.tw13293747886898857621 : True := trivial
theorem main.tw3960113756560652017 : True := trivial
theorem main.tw7623511443260959870 : True := trivial
theorem main.tw4817600198373253283 : True := trivial
theorem main.tw10047389527955405517 : True := trivial
theorem main.tw1850612553970854742 : True := trivial
theorem main.tw13667920496262714385 : True := trivial
theorem main.tw9808303207383738048 : True := trivial
theorem main.tw11710404883906591787 : True := trivial
theorem main.tw14639212616227390028 : True := trivial
theorem main.tw3137596982192898869 : True := trivial
theorem main.tw16187894506366716058 : True := trivial
theorem main.tw6862492499505807319 : True := trivial
theorem main.tw5400957986263281647 : True := trivial
theorem main.tw6702130215012162313 : True := trivial
theorem main.tw12139096438432415106 : True := trivial
theorem main.tw2921621734765799159 : True := trivial
theorem main.tw7761410557224570781 : True := trivial
theorem main.tw9361300454564663673 : True := trivial
theorem main.tw15514936471743626214 : True := trivial
theorem main.tw18431692314602308842 : True := trivial
theorem main.tw3994622017586750766 : True := trivial
theorem main.tw1777545030009416734 : True := trivial
theorem main.tw10159738436595150677 : True := trivial
theorem main.tw10094358506670053839 : True := trivial
theorem main.tw16153842264607907944 : True := trivial
theorem main.tw12675357926760492328 : True := trivial
theorem main.tw12623159325031504133 : True := trivial
theorem main.tw765107192605250810 : True := trivial
theorem main.tw9515011664573035354 : True := trivial
theorem main.tw7165207203227711834 : True := trivial
theorem main.tw1615045767204293396 : True := trivial
theorem main.tw4044139247061151142 : True := trivial
theorem main.tw13270728482189477470 : True := trivial
theorem main.tw8834365191522931223 : True := trivial
theorem main.tw16676564476587882173 : True := trivial
theorem main.tw16798622893749714585 : True := trivial
theorem main.tw2007339730380871907 : True := trivial
theorem main.tw13591255225166038476 : True := trivial
theorem main.tw834873547066669988 : True := trivial
theorem main.tw52199770228462824 : True := trivial
theorem main.tw17715262827843222689 : True := trivial
theorem main.tw16251939892948500945 : True := trivial
theorem main.tw13590572293223372214 : True := trivial
theorem main.tw6385024630547198690 : True := trivial
theorem main.tw4681395471914393968 : True := trivial
theorem main.tw9360745474812902239 : True := trivial
theorem main.tw9942282790977331292 : True := trivial
theorem main.tw1886080085820668685 : True := trivial
theorem main.tw2433702464844828792 : True := trivial
theorem main.tw1099256609624015869 : True := trivial
theorem main.tw5871769198996169552 : True := trivial
theorem main.tw1253437644075932092 : True := trivial
theorem main.tw3796207824708393856 : True := trivial
theorem main.tw13803360072150633466 : True := trivial
theorem main.tw5061512775090418087 : True := trivial
theorem main.tw9253799994812790149 : True := trivial
theorem main.tw6912675738884088206 : True := trivial
theorem main.tw1363464937288350761 : True := trivial
theorem main.tw6584820252761975732 : True := trivial
theorem main.tw1098248734344127483 : True := trivial
theorem main.tw15465920861327815835 : True := trivial
theorem main.tw13642826006792871662 : True := trivial
theorem main.tw5665406974723832613 : True := trivial
theorem main.tw16049902774474827687 : True := trivial
theorem main.tw12483276189755474720 : True := trivial
theorem main.tw11120327062377616369 : True := trivial
theorem main.tw10609540516017602915 : True := trivial
theorem main.tw8952462522180670554 : True := trivial
theorem main.tw4585930131862741453 : True := trivial
theorem main.tw66260789543402106 : True := trivial
theorem main.tw12856944214446996470 : True := trivial
theorem main.tw15643365686152983790 : True := trivial
theorem main.tw18031918436515192882 : True := trivial
theorem main.tw1628013610222277130 : True := trivial
theorem main.tw13313126695403321540 : True := trivial
theorem main.tw13116522157475607773 : True := trivial
theorem main.tw14009396871252706886 : True := trivial
theorem main.tw16721930046160240684 : True := trivial
theorem main.tw5842977544298395883 : True := trivial
theorem main.tw9848185148710128376 : True := trivial
theorem main.tw656089360051881306 : True := trivial
theorem main.tw10463206416058312583 : True := trivial
theorem main.tw12900284412222446716 : True := trivial
theorem main.tw18395943939669218033 : True := trivial
theorem main.tw645136716886899192 : True := trivial
theorem main.tw18421580907717582127 : True := trivial
theorem main.tw2566753976717531306 : True := trivial
theorem main.tw9656510801202774680 : True := trivial
theorem main.tw1545906260438175962 : True := trivial
theorem main.tw3343439749351644125 : True := trivial
theorem main.tw48596604365144762 : True := trivial
theorem main.tw6449824600675878752 : True := trivial
theorem main.tw6112859857366181021 : True := trivial
theorem main.tw14313897822631088780 : True := trivial
theorem main.tw16193401482309157537 : True := trivial
theorem main.tw15589955886551607785 : True := trivial
theorem main.tw13402765919934010277 : True := trivial
theorem main.tw2190695567426971638 : True := trivial
theorem main.tw16959884160788844718 : True := trivial
theorem main.tw11261727412033496967 : True := trivial
theorem main.tw18403998269306519403 : True := trivial
theorem main.tw2921958311620399285 : True := trivial
theorem main.tw14909365282108701170 : True := trivial
theorem main.tw15365013842991253249 : True := trivial
theorem main.tw17665120845849184447 : True := trivial
theorem main.tw3549514262204291990 : True := trivial
theorem main.tw1157997071576566072 : True := trivial
theorem main.tw3234112476842188716 : True := trivial
theorem main.tw2702614204127132176 : True := trivial
theorem main.tw12093647306153771053 : True := trivial
theorem main.tw16480584520131690045 : True := trivial
theorem main.tw6788695710022549768 : True := trivial
theorem main.tw14439473939278146460 : True := trivial
theorem main.tw12915833801598196605 : True := trivial
theorem main.tw9756827057097773860 : True := trivial
theorem main.tw9681375758050803366 : True := trivial
theorem main.tw12057704586751987240 : True := trivial
theorem main.tw8930851030842425676 : True := trivial
theorem main.tw15079240505294077160 : True := trivial
theorem main.tw1027651156746619712 : True := trivial
theorem main.tw13350764725976880583 : True := trivial
theorem main.tw7083192437325867461 : True := trivial
theorem main.tw9274054859765456524 : True := trivial
theorem main.tw9658885295015712986 : True := trivial
theorem main.tw3626430660855392483 : True := trivial
theorem main.tw2744014450722944760 : True := trivial
theorem main.tw3848698983108048278 : True := trivial
theorem main.tw11487549891475536569 : True := trivial
theorem main.tw12670839924663504800 : True := trivial
theorem main.tw15768048840197415361 : True := trivial
theorem main.tw6877560268529008848 : True := trivial
theorem main.tw15410482203810522393 : True := trivial
theorem main.tw14662554035588321541 : True := trivial
theorem main.tw9561784451562097942 : True := trivial
theorem main.tw11251407683458634364 : True := trivial
theorem main.tw11349898740250378076 : True := trivial
theorem main.tw8905464785575363620 : True := trivial
theorem main.tw17477492558424962760 : True := trivial
theorem main.tw8947760058931562597 : True := trivial
theorem main.tw6880717277089553138 : True := trivial
theorem main.tw10199874654664476236 : True := trivial
theorem main.tw16922381011570985944 : True := trivial
theorem main.tw9272984997812220495 : True := trivial
theorem main.tw13995172100960836882 : True := trivial
theorem main.tw17725498274588495791 : True := trivial
theorem main.tw1900339198761634783 : True := trivial
theorem main.tw5665735395497279834 : True := trivial
theorem main.tw1178595665728414349 : True := trivial
theorem main.tw2110754180369666209 : True := trivial
theorem main.tw3864431920445960829 : True := trivial
theorem main.tw4839478117068044826 : True := trivial
theorem main.tw11595355409239048105 : True := trivial
theorem main.tw17201416709059790184 : True := trivial
theorem main.tw14106445559736802775 : True := trivial
theorem main.tw14097447854668400296 : True := trivial
theorem main.tw14793117695081215449 : True := trivial
theorem main.tw3557749057250611081 : True := trivial
theorem main.tw330327031418712150 : True := trivial
theorem main.tw13676971244355772609 : True := trivial
theorem main.tw9557352009045844224 : True := trivial
theorem main.tw9069182735580402390 : True := trivial
theorem main.tw1130211791997205004 : True := trivial
theorem main.tw1980160206288974728 : True := trivial
theorem main.tw11374851513655246148 : True := trivial
theorem main.tw14722489848711283861 : True := trivial
theorem main.tw6910295442248876197 : True := trivial
theorem main.tw15616401959046598769 : True := trivial
theorem main.tw14646587721710459877 : True := trivial
theorem main.tw7273056430967151046 : True := trivial
theorem main.tw7691172733374981047 : True := trivial
theorem main.tw6222487380544312443 : True := trivial
theorem main.tw14788915703135433725 : True := trivial
theorem main.tw5240536507193477226 : True := trivial
theorem main.tw14672674291997333471 : True := trivial
theorem main.tw15734200111481486640 : True := trivial
theorem main.tw5309058905264134205 : True := trivial
theorem main.tw545269030811804461 : True := trivial
theorem main.tw5532463470591059822 : True := trivial
theorem main.tw13180746182150919023 : True := trivial
theorem main.tw9670510015898674028 : True := trivial
theorem main.tw6418098437765475518 : True := trivial
theorem main.tw9189880136782149556 : True := trivial
theorem main.tw3905226178654972811 : True := trivial
theorem main.tw6657087868060814 : True := trivial
theorem main.tw16952715711813285254 : True := trivial
theorem main.tw6660377722381337597 : True := trivial
theorem main.tw5234446048077146213 : True := trivial
theorem main.tw11774690029378154688 : True := trivial
theorem main.tw792591053817303986 : True := trivial
theorem main.tw1236483940969888574 : True := trivial
theorem main.tw16320215318167395912 : True := trivial
theorem main.tw1390771862084280389 : True := trivial
theorem main.tw15965455340504712713 : True := trivial
set_option Elab.async true in
theorem main : PySem.Challenge.rw_ix0019_01.Holds := by
  w_on; o_law
  o_head (kHook Mine.k0.heap_1_39 [2, 3, 15, 17, 18, 20, 21, 29, 31, 32, 34, 35, 36, 37, 39, 40, 42, 43, 44, 46, 47, 49, 50, 51, 53, 54, 56, 57, 58, 59, 60, 61, 62, 65, 68, 73, 74, 75, 76, 78, 79, 81, 82, 83, 85, 86, 88, 89, 90, 91, 92, 93, 94, 96, 97, 99, 100, 101, 103, 104, 106, 107, 108, 110, 111, 113, 114, 115, 117, 118, 120, 121, 122, 123, 124, 126, 127, 129, 131, 132, 133, 143, 145, 146, 148, 149, 150, 151, 152, 153, 154, 164, 165, 167, 168, 170, 171, 173, 174, 175, 176, 177, 187, 188, 190, 191, 193, 194, 196, 197, 199, 200, 202, 203, 205, 206, 208, 209, 210, 211, 212, 222, 224, 225, 227, 228, 229, 230, 231, 232, 233, 243, 245, 246, 248, 249, 250, 251, 252, 253, 254, 264, 266, 267, 269, 270, 271, 272, 273, 274, 275, 285, 287, 288, 290, 291, 292, 293, 294, 295, 296, 306, 307, 309, 311, 312, 314, 315, 316, 318, 319, 321, 322, 323, 325, 326, 328, 329, 330, 332, 333, 335, 336, 337, 339, 340, 342, 343, 344, 346, 347, 349, 350, 351, 353, 354, 356, 357, 358, 360, 361, 363, 364, 365, 367, 368, 370, 371, 372, 374, 375, 377, 378, 379, 380, 381, 382, 383, 386, 388, 389, 391, 392, 393, 395, 396, 398, 399, 400, 402, 403, 405, 406, 407, 409, 410, 412, 413, 414, 416, 417, 419, 420, 421, 423, 424, 426, 427, 428, 430, 431, 433, 434, 435, 437, 438, 440, 441, 442, 444, 445, 447, 448, 449, 451, 452, 454, 455, 456, 458, 459, 461, 462, 463, 466, 467, 468, 471, 472] (fun _ => by kernel_rfl))
  (case hw => w_witness2)
  k_go0
  all_goals try k_fold
  k_steps
  all_goals (try k_data)
  all_goals (first | (exfalso; exact script_ne (by assumption) (by assumption)) | skip)
  all_goals (first | (exfalso; exact cr_neg0 (by with_reducible assumption) (by with_reducible assumption)) | (exfalso; exact cr_pos0 (by with_reducible assumption) (by with_reducible assumption)) | skip)
end
end
end Mine
theorem PySem.Challenge.cw_ix0019_01_holds : PySem.Challenge.rw_ix0019_01.Holds :=
  Mine.main
