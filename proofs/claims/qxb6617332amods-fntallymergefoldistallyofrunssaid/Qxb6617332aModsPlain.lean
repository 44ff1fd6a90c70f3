import Derived.RowKit
namespace Go.Proofs.Qxb6617332aMods
open Go.RowKit

/-- A tally's seven fields. -/
structure Tl where
  runs : Int
  viol : Int
  first : Int
  meas : Bool
  maxr : Int
  stab : Int
  pub : Int

theorem Tl.same {t u : Tl} (h0 : t.runs = u.runs) (h1 : t.viol = u.viol) (h2 : t.first = u.first) (h3 : t.meas = u.meas) (h4 : t.maxr = u.maxr) (h5 : t.stab = u.stab) (h6 : t.pub = u.pub) : t = u := by
  cases t; cases u; simp only [Tl.mk.injEq]; exact ⟨h0, h1, h2, h3, h4, h5, h6⟩

def g1 (t u : Tl) : Bool := decide (0 < u.viol ∧ (t.viol = 0 ∨ u.first < t.first))
def g2 (t u : Tl) : Bool := decide (u.meas = true ∧ (t.meas = false ∨ t.maxr < u.maxr))
def firstOf (t u : Tl) : Int := if g1 t u = true then u.first else t.first
def maxrOf (t u : Tl) : Int := if g2 t u = true then u.maxr else t.maxr
def gr (x y : Int) : Int := if y > x then y else x

/-- What (*Tally).merge leaves in its receiver. -/
def mergeT (t u : Tl) : Tl := ⟨wrap64 (t.runs + u.runs), wrap64 (t.viol + u.viol), firstOf t u, t.meas || u.meas, maxrOf t u, gr t.stab u.stab, gr t.pub u.pub⟩

def zeroT : Tl := ⟨0, 0, 0, false, 0, 0, 0⟩

theorem gr_lt {x y : Int} (h : x < y) : gr x y = y := by simp [gr, h]
theorem gr_ge {x y : Int} (h : ¬ x < y) : gr x y = x := by simp [gr, h]

/-- The form that a tally takes, with room for so many. -/
structure Dom (M : Int) (x : Tl) : Prop where
  r0 : 0 ≤ x.runs
  r1 : x.runs ≤ M
  v0 : 0 ≤ x.viol
  v1 : x.viol ≤ M
  fv : x.viol = 0 → x.first = 0
  mm : x.meas = false → x.maxr = 0
  s0 : 0 ≤ x.stab
  p0 : 0 ≤ x.pub

theorem w64 {n : Int} (h0 : 0 ≤ n) (h1 : n ≤ 9223372036854775807) : wrap64 n = n := by unfold wrap64; omega
theorem gr_comm (x y : Int) : gr x y = gr y x := by unfold gr; split <;> split <;> omega
theorem gr_assoc (x y z : Int) : gr (gr x y) z = gr x (gr y z) := by unfold gr; (repeat' split) <;> omega
theorem gr_nn {x y : Int} (h : 0 ≤ x) (_h' : 0 ≤ y) : 0 ≤ gr x y := by unfold gr; split <;> omega

theorem maxr_assoc (a b c : Tl) : maxrOf (mergeT a b) c = maxrOf a (mergeT b c) := by
  cases ha : a.meas <;> cases hb : b.meas <;> cases hc : c.meas <;> simp [maxrOf, g2, mergeT, ha, hb, hc]
  · split <;> split <;> (try split) <;> omega
theorem maxr_comm (a b : Tl) (ha : a.meas = false → a.maxr = 0) (hb : b.meas = false → b.maxr = 0) : maxrOf a b = maxrOf b a := by
  cases ea : a.meas <;> cases eb : b.meas <;> simp [maxrOf, g2, ea, eb]
  · rw [ha ea, hb eb]
  · split <;> split <;> omega

theorem first_assoc (a b c : Tl) (ha : 0 ≤ a.viol) (hb : 0 ≤ b.viol) (hc : 0 ≤ c.viol) (h : a.viol + b.viol + c.viol ≤ 9223372036854775807) : firstOf (mergeT a b) c = firstOf a (mergeT b c) := by
  have e1 : wrap64 (a.viol + b.viol) = a.viol + b.viol := w64 (by omega) (by omega)
  have e2 : wrap64 (b.viol + c.viol) = b.viol + c.viol := w64 (by omega) (by omega)
  simp only [firstOf, g1, mergeT, e1, e2, decide_eq_true_eq]
  split <;> split <;> (try split) <;> (try split) <;> omega
theorem first_comm (a b : Tl) (ha : 0 ≤ a.viol) (hb : 0 ≤ b.viol) (fa : a.viol = 0 → a.first = 0) (fb : b.viol = 0 → b.first = 0) : firstOf a b = firstOf b a := by
  simp only [firstOf, g1, decide_eq_true_eq]
  split <;> split <;> omega

theorem merge_comm {M : Int} {a b : Tl} (ha : Dom M a) (hb : Dom M b) : mergeT a b = mergeT b a := by
  refine Tl.same ?_ ?_ (first_comm a b ha.v0 hb.v0 ha.fv hb.fv) ?_ (maxr_comm a b ha.mm hb.mm) (gr_comm _ _) (gr_comm _ _)
  · show wrap64 _ = wrap64 _; rw [Int.add_comm]
  · show wrap64 _ = wrap64 _; rw [Int.add_comm]
  · show (a.meas || b.meas) = (b.meas || a.meas); rw [Bool.or_comm]
theorem merge_assoc {a b c : Tl} (ha : 0 ≤ a.viol) (hb : 0 ≤ b.viol) (hc : 0 ≤ c.viol) (h : a.viol + b.viol + c.viol ≤ 9223372036854775807) : mergeT (mergeT a b) c = mergeT a (mergeT b c) := by
  refine Tl.same ?_ ?_ (first_assoc a b c ha hb hc h) ?_ (maxr_assoc a b c) (gr_assoc _ _ _) (gr_assoc _ _ _)
  · show wrap64 (wrap64 _ + _) = wrap64 (_ + wrap64 _); unfold wrap64; omega
  · show wrap64 (wrap64 _ + _) = wrap64 (_ + wrap64 _); unfold wrap64; omega
  · show ((a.meas || b.meas) || c.meas) = (a.meas || (b.meas || c.meas)); rw [Bool.or_assoc]
theorem merge_zero {M : Int} {a : Tl} (ha : Dom M a) (hM : M ≤ 9223372036854775807) : mergeT a zeroT = a := by
  obtain ⟨r0, r1, v0, v1, fv, mm, s0, p0⟩ := ha
  refine Tl.same ?_ ?_ ?_ ?_ ?_ ?_ ?_
  · show wrap64 (a.runs + 0) = _; rw [Int.add_zero]; exact w64 r0 (by omega)
  · show wrap64 (a.viol + 0) = _; rw [Int.add_zero]; exact w64 v0 (by omega)
  · simp [mergeT, firstOf, g1, zeroT]
  · simp [mergeT, zeroT]
  · simp [mergeT, maxrOf, g2, zeroT]
  · show gr a.stab 0 = _; exact gr_ge (by omega)
  · show gr a.pub 0 = _; exact gr_ge (by omega)
theorem dom_zero {M : Int} (h : 0 ≤ M) : Dom M zeroT := ⟨by decide, h, by decide, h, fun _ => rfl, fun _ => rfl, by decide, by decide⟩
theorem zero_merge {M : Int} {a : Tl} (ha : Dom M a) (h0 : 0 ≤ M) (hM : M ≤ 9223372036854775807) : mergeT zeroT a = a := by
  rw [merge_comm (dom_zero h0) ha]; exact merge_zero ha hM

/-- What tallyInDomain answers. -/
def inDom (x : Tl) : Bool := decide ((0 ≤ x.runs ∧ x.runs ≤ 2305843009213693952 ∧ 0 ≤ x.viol ∧ x.viol ≤ 2305843009213693952) ∧ (x.viol = 0 → x.first = 0) ∧ (x.meas = false → x.maxr = 0) ∧ 0 ≤ x.stab ∧ 0 ≤ x.pub)
theorem dom_of {x : Tl} (h : inDom x = true) : Dom 2305843009213693952 x := by
  obtain ⟨⟨a, b, c, d⟩, e, f, g, i⟩ := of_decide_eq_true h
  exact ⟨a, b, c, d, e, f, g, i⟩
end Go.Proofs.Qxb6617332aMods
