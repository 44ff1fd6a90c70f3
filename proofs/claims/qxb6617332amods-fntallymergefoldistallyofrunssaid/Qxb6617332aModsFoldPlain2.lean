import Derived.Test.Qxb6617332aModsFold
namespace Go.Proofs.Qxb6617332aMods
open Go.RowKit

/-- The first n runs, in order. -/
def lst (R : Nat → Ru) (n : Nat) : List Ru := (List.range n).map R
theorem mem_lst {R : Nat → Ru} {n : Nat} {r : Ru} : r ∈ lst R n ↔ ∃ j, j < n ∧ R j = r := by simp [lst]
theorem lst_succ (R : Nat → Ru) (n : Nat) : lst R (n + 1) = lst R n ++ [R n] := by simp [lst, List.range_succ]
theorem lst_len (R : Nat → Ru) (n : Nat) : (lst R n).length = n := by simp [lst]
theorem lst_ne {R : Nat → Ru} {n : Nat} (h : 0 < n) : lst R n ≠ [] := by
  intro e; have := congrArg List.length e; rw [lst_len] at this; simp at this; omega

/-- The least of those that are marked. -/
theorem exMin (p : Nat → Bool) (key : Nat → Int) : ∀ n, (∃ j, j < n ∧ p j = true) → ∃ j, j < n ∧ p j = true ∧ ∀ i, i < n → p i = true → key j ≤ key i := by
  intro n
  induction n with
  | zero => rintro ⟨j, hj, _⟩; omega
  | succ n ih =>
    rintro ⟨j, hj, hp⟩
    by_cases h : ∃ j, j < n ∧ p j = true
    · obtain ⟨a, ha, pa, hmin⟩ := ih h
      by_cases hn : p n = true ∧ key n < key a
      · refine ⟨n, by omega, hn.1, fun i hi pi => ?_⟩
        rcases Nat.lt_succ_iff_lt_or_eq.1 hi with h' | h'
        · have := hmin i h' pi; omega
        · subst h'; exact Int.le_refl _
      · refine ⟨a, by omega, pa, fun i hi pi => ?_⟩
        rcases Nat.lt_succ_iff_lt_or_eq.1 hi with h' | h'
        · exact hmin i h' pi
        · subst h'
          have : ¬ key i < key a := fun q => hn ⟨pi, q⟩
          omega
    · have hjn : j = n := by
        rcases Nat.lt_succ_iff_lt_or_eq.1 hj with h' | h'
        · exact absurd ⟨j, h', hp⟩ h
        · exact h'
      subst hjn
      refine ⟨j, by omega, hp, fun i hi pi => ?_⟩
      rcases Nat.lt_succ_iff_lt_or_eq.1 hi with h' | h'
      · exact absurd ⟨i, h', pi⟩ h
      · subst h'; exact Int.le_refl _

def FirstIs (R : Nat → Ru) (n : Nat) (F : Int) : Prop := (F = 0 ∧ ∀ j, j < n → (R j).viol = false) ∨ ∃ j, j < n ∧ (R j).viol = true ∧ (R j).seed = F ∧ ∀ i, i < n → (R i).viol = true → F ≤ (R i).seed
def MaxIs (R : Nat → Ru) (n : Nat) (X : Int) : Prop := (X = 0 ∧ ∀ j, j < n → (R j).meas = false) ∨ ∃ j, j < n ∧ (R j).meas = true ∧ (R j).rounds = X ∧ ∀ i, i < n → (R i).meas = true → (R i).rounds ≤ X
def StabIs (R : Nat → Ru) (n : Nat) (S : Int) : Prop := ∃ j, j < n ∧ (R j).stab = S ∧ ∀ i, i < n → (R i).stab ≤ S

theorem noneB_of {n : Nat} {bad : Nat → Bool} (h : noneB n bad = true) : ∀ i, i < n → bad i = false := of_decide_eq_true h

theorem firstIs_hit {R : Nat → Ru} {n j : Nat} (hj : j < n) (hv : (R j).viol = true) (h : noneB n (badV R (R j).seed) = true) : FirstIs R n (R j).seed := by
  refine .inr ⟨j, hj, hv, rfl, fun i hi pi => ?_⟩
  have := noneB_of h i hi
  simp [badV, pi] at this
  omega
theorem firstIs_miss {R : Nat → Ru} {n : Nat} (h : ∀ j, j < n → ¬ ((R j).viol = true ∧ noneB n (badV R (R j).seed) = true)) : FirstIs R n 0 := by
  refine .inl ⟨rfl, fun j hj => ?_⟩
  cases hv : (R j).viol with
  | false => rfl
  | true =>
    obtain ⟨a, ha, pa, hmin⟩ := exMin (fun i => (R i).viol) (fun i => (R i).seed) n ⟨j, hj, hv⟩
    exfalso
    refine h a ha ⟨pa, noneB_yes fun i hi => ?_⟩
    cases hi' : (R i).viol with
    | false => simp [badV, hi']
    | true => have := hmin i hi hi'; simp [badV]; omega
theorem maxIs_hit {R : Nat → Ru} {n j : Nat} (hj : j < n) (hv : (R j).meas = true) (h : noneB n (badM R (R j).rounds) = true) : MaxIs R n (R j).rounds := by
  refine .inr ⟨j, hj, hv, rfl, fun i hi pi => ?_⟩
  have := noneB_of h i hi
  simp [badM, pi] at this
  omega
theorem maxIs_miss {R : Nat → Ru} {n : Nat} (h : ∀ j, j < n → ¬ ((R j).meas = true ∧ noneB n (badM R (R j).rounds) = true)) : MaxIs R n 0 := by
  refine .inl ⟨rfl, fun j hj => ?_⟩
  cases hv : (R j).meas with
  | false => rfl
  | true =>
    obtain ⟨a, ha, pa, hmin⟩ := exMin (fun i => (R i).meas) (fun i => - (R i).rounds) n ⟨j, hj, hv⟩
    exfalso
    refine h a ha ⟨pa, noneB_yes fun i hi => ?_⟩
    cases hi' : (R i).meas with
    | false => simp [badM, hi']
    | true => have := hmin i hi hi'; simp [badM]; omega
theorem stabIs_hit {R : Nat → Ru} {n j : Nat} (hj : j < n) (h : noneB n (badS R (R j).stab) = true) : StabIs R n (R j).stab := by
  refine ⟨j, hj, rfl, fun i hi => ?_⟩
  have := noneB_of h i hi
  simp [badS] at this
  omega
theorem stabIs_miss {R : Nat → Ru} {n : Nat} (hn : 0 < n) (h : ∀ j, j < n → ¬ (noneB n (badS R (R j).stab) = true)) : False := by
  obtain ⟨a, ha, _, hmin⟩ := exMin (fun _ => true) (fun i => - (R i).stab) n ⟨0, hn, rfl⟩
  refine h a ha (noneB_yes fun i hi => ?_)
  have := hmin i hi rfl; simp [badS]; omega

theorem cv_lst_succ (R : Nat → Ru) (n : Nat) : cv (lst R (n + 1)) = cv (lst R n) + if (R n).viol = true then 1 else 0 := by
  rw [lst_succ, cv_append]; congr 1
  cases h : (R n).viol <;> simp [cv, h]
theorem cv_lst_le (R : Nat → Ru) (n : Nat) : cv (lst R n) ≤ n := by have := cv_le (lst R n); rw [lst_len] at this; exact this
/-- Has one of the first n been measured? -/
def anyM (R : Nat → Ru) : Nat → Bool
  | 0 => false
  | n + 1 => anyM R n || (R n).meas
theorem anyM_iff (R : Nat → Ru) (n : Nat) : anyM R n = true ↔ ∃ r ∈ lst R n, r.meas = true := by
  induction n with
  | zero => simp [anyM, lst]
  | succ n ih =>
    rw [lst_succ, anyM, Bool.or_eq_true, ih]
    constructor
    · rintro (⟨r, hr, e⟩ | e)
      · exact ⟨r, List.mem_append_left _ hr, e⟩
      · exact ⟨R n, by simp, e⟩
    · rintro ⟨r, hr, e⟩
      rcases List.mem_append.1 hr with h | h
      · exact .inl ⟨r, h, e⟩
      · simp at h; subst h; exact .inr e

theorem isT_of {R : Nat → Ru} {n : Nat} {pt F X S : Int} (hn : 0 < n) (hF : FirstIs R n F) (hX : MaxIs R n X) (hS : StabIs R n S) :
    IsT pt (lst R n) ⟨n, cv (lst R n), F, anyM R n, X, S, pt⟩ := by
  refine ⟨by rw [lst_len], rfl, ?_, ?_, ?_, anyM_iff R n, ?_, ?_, ?_, fun h => absurd h (lst_ne hn), ?_, fun _ => ?_, fun h => absurd h (lst_ne hn), fun _ => rfl⟩
  · intro h
    rcases hF with ⟨e, _⟩ | ⟨j, hj, hv, _⟩
    · exact e
    · rw [h (R j) (mem_lst.2 ⟨j, hj, rfl⟩)] at hv; cases hv
  · intro r hr e
    obtain ⟨i, hi, rfl⟩ := mem_lst.1 hr
    rcases hF with ⟨_, h⟩ | ⟨j, hj, hv, _, h⟩
    · rw [h i hi] at e; cases e
    · exact h i hi e
  · rintro ⟨r, hr, e⟩
    obtain ⟨i, hi, rfl⟩ := mem_lst.1 hr
    rcases hF with ⟨_, h⟩ | ⟨j, hj, hv, e', h⟩
    · rw [h i hi] at e; cases e
    · exact ⟨R j, mem_lst.2 ⟨j, hj, rfl⟩, hv, e'⟩
  · intro h
    rcases hX with ⟨e, _⟩ | ⟨j, hj, hv, _⟩
    · exact e
    · rw [h (R j) (mem_lst.2 ⟨j, hj, rfl⟩)] at hv; cases hv
  · intro r hr e
    obtain ⟨i, hi, rfl⟩ := mem_lst.1 hr
    rcases hX with ⟨_, h⟩ | ⟨j, hj, hv, _, h⟩
    · rw [h i hi] at e; cases e
    · exact h i hi e
  · rintro ⟨r, hr, e⟩
    obtain ⟨i, hi, rfl⟩ := mem_lst.1 hr
    rcases hX with ⟨_, h⟩ | ⟨j, hj, hv, e', h⟩
    · rw [h i hi] at e; cases e
    · exact ⟨R j, mem_lst.2 ⟨j, hj, rfl⟩, hv, e'⟩
  · intro r hr
    obtain ⟨i, hi, rfl⟩ := mem_lst.1 hr
    obtain ⟨j, hj, e, h⟩ := hS
    exact h i hi
  · obtain ⟨j, hj, e, h⟩ := hS
    exact ⟨R j, mem_lst.2 ⟨j, hj, rfl⟩, e⟩

/-- The last k of n runs, backward. -/
def dl (R : Nat → Ru) (n : Nat) : Nat → List Ru
  | 0 => []
  | k + 1 => dl R n k ++ [R (n - 1 - k)]
theorem dl_len (R : Nat → Ru) (n k : Nat) : (dl R n k).length = k := by
  induction k with
  | zero => rfl
  | succ k ih => simp [dl, ih]
theorem lst_dl (R : Nat → Ru) (n : Nat) : ∀ k, k ≤ n → lst R n = lst R (n - k) ++ (dl R n k).reverse := by
  intro k
  induction k with
  | zero => intro _; simp [dl]
  | succ k ih =>
    intro hk
    rw [ih (by omega)]
    have e : n - k = (n - (k + 1)) + 1 := by omega
    have e' : n - 1 - k = n - (k + 1) := by omega
    rw [e, lst_succ, dl, List.reverse_append, e']
    simp
theorem dl_perm (R : Nat → Ru) (n k : Nat) (hk : k ≤ n) : (dl R n k ++ lst R (n - k)).Perm (lst R n) := by
  rw [lst_dl R n k hk]
  exact List.perm_append_comm.trans (List.Perm.append_left _ (List.reverse_perm _).symm)
theorem dl_mem {R : Nat → Ru} {n k : Nat} (hk : k ≤ n) {r : Ru} (h : r ∈ dl R n k) : ∃ j, j < n ∧ R j = r := by
  have : r ∈ lst R n := by rw [lst_dl R n k hk]; simp [h]
  exact mem_lst.1 this
end Go.Proofs.Qxb6617332aMods
