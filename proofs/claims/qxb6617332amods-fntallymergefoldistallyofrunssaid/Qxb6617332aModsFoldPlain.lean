import Derived.Test.Qxb6617332aModsPlain
namespace Go.Proofs.Qxb6617332aMods
open Go.RowKit

/-- A run of a sweep. -/
structure Ru where
  seed : Int
  viol : Bool
  meas : Bool
  rounds : Int
  stab : Int

/-- What runTally answers. -/
def oneT (r : Ru) (pt : Int) : Tl := ⟨1, if r.viol = true then 1 else 0, if r.viol = true then r.seed else 0, r.meas, if r.meas = true then r.rounds else 0, r.stab, pt⟩

/-- How many of the runs violated. -/
def cv (l : List Ru) : Nat := (l.filter (·.viol)).length

/-- t is the tally of the runs l, as the documentation defines it. -/
structure IsT (pt : Int) (l : List Ru) (t : Tl) : Prop where
  runs : t.runs = l.length
  viol : t.viol = cv l
  f0 : (∀ r ∈ l, r.viol = false) → t.first = 0
  f1 : ∀ r ∈ l, r.viol = true → t.first ≤ r.seed
  f2 : (∃ r ∈ l, r.viol = true) → ∃ r ∈ l, r.viol = true ∧ r.seed = t.first
  m0 : t.meas = true ↔ ∃ r ∈ l, r.meas = true
  x0 : (∀ r ∈ l, r.meas = false) → t.maxr = 0
  x1 : ∀ r ∈ l, r.meas = true → r.rounds ≤ t.maxr
  x2 : (∃ r ∈ l, r.meas = true) → ∃ r ∈ l, r.meas = true ∧ r.rounds = t.maxr
  s0 : l = [] → t.stab = 0
  s1 : ∀ r ∈ l, r.stab ≤ t.stab
  s2 : l ≠ [] → ∃ r ∈ l, r.stab = t.stab
  p0 : l = [] → t.pub = 0
  p1 : l ≠ [] → t.pub = pt

theorem all_or_ex (l : List Ru) (p : Ru → Bool) : (∀ r ∈ l, p r = false) ∨ ∃ r ∈ l, p r = true := by
  induction l with
  | nil => exact .inl (by simp)
  | cons a l ih =>
    cases h : p a with
    | true => exact .inr ⟨a, by simp, h⟩
    | false =>
      rcases ih with ih | ⟨r, hr, e⟩
      · left; intro r hr; rcases List.mem_cons.1 hr with rfl | hr
        · exact h
        · exact ih r hr
      · exact .inr ⟨r, List.mem_cons_of_mem _ hr, e⟩
theorem cv_no {l : List Ru} (h : ∀ r ∈ l, r.viol = false) : cv l = 0 := by
  unfold cv; rw [List.length_eq_zero_iff, List.filter_eq_nil_iff]; intro r hr; simp [h r hr]
theorem cv_pos {l : List Ru} (h : ∃ r ∈ l, r.viol = true) : 0 < cv l := by
  obtain ⟨r, hr, e⟩ := h
  exact List.length_pos_of_mem (List.mem_filter.2 ⟨hr, e⟩)
theorem cv_le (l : List Ru) : cv l ≤ l.length := List.length_filter_le _ _
theorem cv_append (l l' : List Ru) : cv (l ++ l') = cv l + cv l' := by unfold cv; rw [List.filter_append, List.length_append]
theorem cv_perm {l l' : List Ru} (h : l.Perm l') : cv l = cv l' := (h.filter _).length_eq

theorem IsT.uniq {pt : Int} {l : List Ru} {t u : Tl} (a : IsT pt l t) (b : IsT pt l u) : t = u := by
  refine Tl.same (by rw [a.runs, b.runs]) (by rw [a.viol, b.viol]) ?_ ?_ ?_ ?_ ?_
  · rcases all_or_ex l (·.viol) with h | h
    · rw [a.f0 h, b.f0 h]
    · obtain ⟨r, hr, e1, e2⟩ := a.f2 h
      obtain ⟨r', hr', e1', e2'⟩ := b.f2 h
      have := a.f1 r' hr' e1'
      have := b.f1 r hr e1
      omega
  · rw [Bool.eq_iff_iff, a.m0, b.m0]
  · rcases all_or_ex l (·.meas) with h | h
    · rw [a.x0 h, b.x0 h]
    · obtain ⟨r, hr, e1, e2⟩ := a.x2 h
      obtain ⟨r', hr', e1', e2'⟩ := b.x2 h
      have := a.x1 r' hr' e1'
      have := b.x1 r hr e1
      omega
  · by_cases h : l = []
    · rw [a.s0 h, b.s0 h]
    · obtain ⟨r, hr, e⟩ := a.s2 h
      obtain ⟨r', hr', e'⟩ := b.s2 h
      have := a.s1 r' hr'
      have := b.s1 r hr
      omega
  · by_cases h : l = []
    · rw [a.p0 h, b.p0 h]
    · rw [a.p1 h, b.p1 h]

theorem IsT.perm {pt : Int} {l l' : List Ru} {t : Tl} (a : IsT pt l t) (h : l.Perm l') : IsT pt l' t := by
  have hm : ∀ r, r ∈ l' ↔ r ∈ l := fun r => h.mem_iff.symm
  have hn : l' = [] ↔ l = [] := by
    constructor
    · rintro rfl; exact h.eq_nil
    · rintro rfl; exact h.symm.eq_nil
  refine ⟨by rw [a.runs, h.length_eq], by rw [a.viol, cv_perm h], fun g => a.f0 (fun r hr => g r ((hm r).2 hr)), fun r hr => a.f1 r ((hm r).1 hr), ?_, ?_, fun g => a.x0 (fun r hr => g r ((hm r).2 hr)), fun r hr => a.x1 r ((hm r).1 hr), ?_, fun g => a.s0 (hn.1 g), fun r hr => a.s1 r ((hm r).1 hr), ?_, fun g => a.p0 (hn.1 g), fun g => a.p1 (fun e => g (hn.2 e))⟩
  · rintro ⟨r, hr, e⟩; obtain ⟨r', hr', e'⟩ := a.f2 ⟨r, (hm r).1 hr, e⟩; exact ⟨r', (hm r').2 hr', e'⟩
  · rw [a.m0]; exact ⟨fun ⟨r, hr, e⟩ => ⟨r, (hm r).2 hr, e⟩, fun ⟨r, hr, e⟩ => ⟨r, (hm r).1 hr, e⟩⟩
  · rintro ⟨r, hr, e⟩; obtain ⟨r', hr', e'⟩ := a.x2 ⟨r, (hm r).1 hr, e⟩; exact ⟨r', (hm r').2 hr', e'⟩
  · intro g; obtain ⟨r', hr', e'⟩ := a.s2 (fun e => g (hn.2 e)); exact ⟨r', (hm r').2 hr', e'⟩

theorem isT_nil (pt : Int) : IsT pt [] zeroT :=
  ⟨rfl, rfl, fun _ => rfl, by simp, by simp, by simp [zeroT], fun _ => rfl, by simp, by simp, fun _ => rfl, by simp, fun h => absurd rfl h, fun _ => rfl, fun h => absurd rfl h⟩
theorem isT_one (pt : Int) (r : Ru) : IsT pt [r] (oneT r pt) := by
  refine ⟨rfl, ?_, ?_, ?_, ?_, ?_, ?_, ?_, ?_, by simp, by simp [oneT], by simp [oneT], by simp, by simp [oneT]⟩
  · cases h : r.viol <;> simp [oneT, cv, h]
  · intro h; simp [oneT, h r (by simp)]
  · intro x hx e; simp at hx; subst hx; simp [oneT, e]
  · rintro ⟨x, hx, e⟩; simp at hx; subst hx; exact ⟨x, by simp, e, by simp [oneT, e]⟩
  · simp [oneT]
  · intro h; simp [oneT, h r (by simp)]
  · intro x hx e; simp at hx; subst hx; simp [oneT, e]
  · rintro ⟨x, hx, e⟩; simp at hx; subst hx; exact ⟨x, by simp, e, by simp [oneT, e]⟩

theorem IsT.merge {pt : Int} {l l' : List Ru} {a b : Tl} (ha : IsT pt l a) (hb : IsT pt l' b) (hs : ∀ r ∈ l, 0 ≤ r.stab) (hs' : ∀ r ∈ l', 0 ≤ r.stab) (hp : 0 ≤ pt) (hl : l.length + l'.length ≤ 8192) : IsT pt (l ++ l') (mergeT a b) := by
  have va := cv_le l
  have vb := cv_le l'
  have stabA : 0 ≤ a.stab := by
    by_cases h : l = []
    · rw [ha.s0 h]; exact Int.le_refl 0
    · obtain ⟨r, hr, e⟩ := ha.s2 h; rw [← e]; exact hs r hr
  have stabB : 0 ≤ b.stab := by
    by_cases h : l' = []
    · rw [hb.s0 h]; exact Int.le_refl 0
    · obtain ⟨r, hr, e⟩ := hb.s2 h; rw [← e]; exact hs' r hr
  have hnil : l ++ l' = [] → l = [] ∧ l' = [] := fun h => List.append_eq_nil_iff.1 h
  have av := ha.viol
  have bv := hb.viol
  refine ⟨?_, ?_, ?_, ?_, ?_, ?_, ?_, ?_, ?_, ?_, ?_, ?_, ?_, ?_⟩
  · show wrap64 (a.runs + b.runs) = _
    rw [ha.runs, hb.runs, List.length_append]; rw [w64 (by omega) (by omega)]; omega
  · show wrap64 (a.viol + b.viol) = _
    rw [ha.viol, hb.viol, cv_append]; rw [w64 (by omega) (by omega)]; omega
  · intro h
    have h1 : ∀ r ∈ l, r.viol = false := fun r hr => h r (List.mem_append_left _ hr)
    have h2 : ∀ r ∈ l', r.viol = false := fun r hr => h r (List.mem_append_right _ hr)
    show firstOf a b = 0
    have := cv_no h2
    have hb0 : ¬ 0 < b.viol := by omega
    simp [firstOf, g1, hb0, ha.f0 h1]
  · intro r hr e
    show firstOf a b ≤ r.seed
    simp only [firstOf, g1, decide_eq_true_eq]
    rcases List.mem_append.1 hr with h | h
    · have := ha.f1 r h e
      have := cv_pos ⟨r, h, e⟩
      split <;> omega
    · have := hb.f1 r h e
      have := cv_pos ⟨r, h, e⟩
      split <;> omega
  · rintro ⟨r, hr, e⟩
    show ∃ x ∈ l ++ l', x.viol = true ∧ x.seed = firstOf a b
    simp only [firstOf, g1, decide_eq_true_eq]
    rcases all_or_ex l' (·.viol) with h' | h'
    · have := cv_no h'
      rw [if_neg (by omega)]
      rcases List.mem_append.1 hr with h | h
      · obtain ⟨x, hx, e'⟩ := ha.f2 ⟨r, h, e⟩; exact ⟨x, List.mem_append_left _ hx, e'⟩
      · have := h' r h; simp [e] at this
    · have c1 := cv_pos h'
      split
      · obtain ⟨x, hx, e'⟩ := hb.f2 h'; exact ⟨x, List.mem_append_right _ hx, e'⟩
      · rename_i hn
        rcases all_or_ex l (·.viol) with h | h
        · have := cv_no h; omega
        · obtain ⟨x, hx, e'⟩ := ha.f2 h; exact ⟨x, List.mem_append_left _ hx, e'⟩
  · show (a.meas || b.meas) = true ↔ _
    rw [Bool.or_eq_true, ha.m0, hb.m0]
    constructor
    · rintro (⟨r, hr, e⟩ | ⟨r, hr, e⟩)
      · exact ⟨r, List.mem_append_left _ hr, e⟩
      · exact ⟨r, List.mem_append_right _ hr, e⟩
    · rintro ⟨r, hr, e⟩
      rcases List.mem_append.1 hr with h | h
      · exact .inl ⟨r, h, e⟩
      · exact .inr ⟨r, h, e⟩
  · intro h
    have h1 : ∀ r ∈ l, r.meas = false := fun r hr => h r (List.mem_append_left _ hr)
    have h2 : ¬ b.meas = true := by
      rw [hb.m0]; rintro ⟨r, hr, e⟩; have := h r (List.mem_append_right _ hr); simp [e] at this
    show maxrOf a b = 0
    simp only [maxrOf, g2, decide_eq_true_eq]
    rw [if_neg (fun q => h2 q.1), ha.x0 h1]
  · intro r hr e
    show r.rounds ≤ maxrOf a b
    simp only [maxrOf, g2, decide_eq_true_eq]
    rcases List.mem_append.1 hr with h | h
    · have h1 := ha.x1 r h e
      have h2 : a.meas = true := ha.m0.2 ⟨r, h, e⟩
      split
      · rename_i q; rcases q.2 with q | q
        · simp [h2] at q
        · omega
      · exact h1
    · have h1 := hb.x1 r h e
      have h2 : b.meas = true := hb.m0.2 ⟨r, h, e⟩
      split
      · exact h1
      · rename_i q
        have : ¬ a.maxr < b.maxr := fun q' => q ⟨h2, .inr q'⟩
        omega
  · rintro ⟨r, hr, e⟩
    show ∃ x ∈ l ++ l', x.meas = true ∧ x.rounds = maxrOf a b
    simp only [maxrOf, g2, decide_eq_true_eq]
    split
    · rename_i q
      obtain ⟨x, hx, e'⟩ := hb.x2 (hb.m0.1 q.1); exact ⟨x, List.mem_append_right _ hx, e'⟩
    · rename_i q
      have h2 : a.meas = true := by
        cases hm : a.meas with
        | true => rfl
        | false =>
          have hbm : ¬ b.meas = true := fun q' => q ⟨q', .inl hm⟩
          rcases List.mem_append.1 hr with h | h
          · rw [ha.m0.2 ⟨r, h, e⟩] at hm; cases hm
          · exact absurd (hb.m0.2 ⟨r, h, e⟩) hbm
      obtain ⟨x, hx, e'⟩ := ha.x2 (ha.m0.1 h2); exact ⟨x, List.mem_append_left _ hx, e'⟩
  · intro h
    show gr a.stab b.stab = 0
    rw [ha.s0 (hnil h).1, hb.s0 (hnil h).2]; rfl
  · intro r hr
    show r.stab ≤ gr a.stab b.stab
    unfold gr
    rcases List.mem_append.1 hr with h | h
    · have := ha.s1 r h; split <;> omega
    · have := hb.s1 r h; split <;> omega
  · intro h
    show ∃ x ∈ l ++ l', x.stab = gr a.stab b.stab
    unfold gr
    by_cases h1 : l = []
    · have h2 : l' ≠ [] := fun q => h (by rw [h1, q]; rfl)
      obtain ⟨x, hx, e⟩ := hb.s2 h2
      refine ⟨x, List.mem_append_right _ hx, ?_⟩
      have := ha.s0 h1
      split <;> omega
    · by_cases h2 : l' = []
      · obtain ⟨x, hx, e⟩ := ha.s2 h1
        refine ⟨x, List.mem_append_left _ hx, ?_⟩
        have := hb.s0 h2
        split <;> omega
      · split
        · obtain ⟨x, hx, e⟩ := hb.s2 h2; exact ⟨x, List.mem_append_right _ hx, e⟩
        · obtain ⟨x, hx, e⟩ := ha.s2 h1; exact ⟨x, List.mem_append_left _ hx, e⟩
  · intro h
    show gr a.pub b.pub = 0
    rw [ha.p0 (hnil h).1, hb.p0 (hnil h).2]; rfl
  · intro h
    show gr a.pub b.pub = pt
    unfold gr
    by_cases h1 : l = []
    · have h2 : l' ≠ [] := fun q => h (by rw [h1, q]; rfl)
      rw [ha.p0 h1, hb.p1 h2]; split <;> omega
    · by_cases h2 : l' = []
      · rw [ha.p1 h1, hb.p0 h2]; split <;> omega
      · rw [ha.p1 h1, hb.p1 h2]; split <;> omega
end Go.Proofs.Qxb6617332aMods
