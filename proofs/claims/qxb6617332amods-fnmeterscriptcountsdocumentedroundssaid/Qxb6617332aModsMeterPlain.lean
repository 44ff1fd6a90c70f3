import Derived.RowKit
namespace Go.Proofs.Qxb6617332aMods
open Go.RowKit

/-- A meter's five fields. -/
structure Mt where
  q : Int
  m : Int
  f : Int
  s : Int
  b : Int

/-- A round of the script. -/
structure Rd where
  msg : Int
  bit : Int
  smsg : Int
  sbit : Int
  fired : Bool

def sCond (x : Mt) (k : Int) : Bool := decide (x.q = 0 ∨ k < x.q)
def fCond (x : Mt) (fired : Bool) : Bool := decide (fired = true ∧ x.f = 0)
def bCond (x : Mt) (k : Int) : Bool := decide (x.m ≤ k ∧ x.f = 0)
def stepS (x : Mt) (k msgs : Int) : Mt := if sCond x k = true then { x with s := wrap64 (x.s + msgs) } else x
def stepF (x : Mt) (k : Int) (fired : Bool) : Mt := if fCond x fired = true then { x with f := k } else x
def stepB (x : Mt) (k bits : Int) : Mt := if bCond x k = true then { x with b := wrap64 (x.b + bits) } else x
/-- What (*meter).round leaves in its receiver. -/
def roundM (x : Mt) (k msgs bits : Int) (fired : Bool) : Mt := stepB (stepF (stepS x k msgs) k fired) k bits

theorem Mt.same {t u : Mt} (h0 : t.q = u.q) (h1 : t.m = u.m) (h2 : t.f = u.f) (h3 : t.s = u.s) (h4 : t.b = u.b) : t = u := by
  cases t; cases u; simp only [Mt.mk.injEq]; exact ⟨h0, h1, h2, h3, h4⟩

theorem wrap_split (a x y : Int) : wrap64 (wrap64 (a + y) + wrap64 (x - y)) = wrap64 (a + x) := by unfold wrap64; omega
theorem wrap_split' (a x y : Int) : wrap64 (wrap64 (a + y) + (x - y)) = wrap64 (a + x) := by unfold wrap64; omega

theorem roundM_q (x : Mt) (k a b : Int) (c : Bool) : (roundM x k a b c).q = x.q := by
  unfold roundM stepB stepF stepS; (repeat' split) <;> rfl
theorem roundM_m (x : Mt) (k a b : Int) (c : Bool) : (roundM x k a b c).m = x.m := by
  unfold roundM stepB stepF stepS; (repeat' split) <;> rfl
theorem roundM_f (x : Mt) (k a b : Int) (c : Bool) : (roundM x k a b c).f = if c = true ∧ x.f = 0 then k else x.f := by
  unfold roundM stepB stepF stepS fCond
  (repeat' split) <;> simp_all
theorem roundM_s (x : Mt) (k a b : Int) (c : Bool) : (roundM x k a b c).s = if x.q = 0 ∨ k < x.q then wrap64 (x.s + a) else x.s := by
  unfold roundM stepB stepF stepS sCond
  (repeat' split) <;> simp_all
theorem roundM_b (x : Mt) (k a b : Int) (c : Bool) : (roundM x k a b c).b = if x.m ≤ k ∧ (roundM x k a b c).f = 0 then wrap64 (x.b + b) else x.b := by
  unfold roundM stepB
  have e1 : (stepF (stepS x k a) k c).m = x.m := by unfold stepF stepS; (repeat' split) <;> rfl
  have e2 : (stepF (stepS x k a) k c).b = x.b := by unfold stepF stepS; (repeat' split) <;> rfl
  have e3 : bCond (stepF (stepS x k a) k c) k = decide (x.m ≤ k ∧ (stepF (stepS x k a) k c).f = 0) := by unfold bCond; rw [e1]
  split <;> rename_i h
  · rw [e3] at h; have := of_decide_eq_true h; simp [this, e2]
  · rw [e3] at h
    have : ¬ (x.m ≤ k ∧ (stepF (stepS x k a) k c).f = 0) := fun h' => h (decide_eq_true h')
    rw [if_neg this, e2]

/-- A round handed over in two parts. -/
theorem round_split (x : Mt) (k a b sa sb : Int) (c : Bool) : roundM (roundM x k sa sb c) k (wrap64 (a - sa)) (wrap64 (b - sb)) false = roundM x k a b c := by
  have hf : (roundM (roundM x k sa sb c) k (wrap64 (a - sa)) (wrap64 (b - sb)) false).f = (roundM x k a b c).f := by
    rw [roundM_f, roundM_f, roundM_f]; simp
  have hf' : (roundM x k sa sb c).f = (roundM x k a b c).f := by rw [roundM_f, roundM_f]
  refine Mt.same ?_ ?_ hf ?_ ?_
  · rw [roundM_q, roundM_q, roundM_q]
  · rw [roundM_m, roundM_m, roundM_m]
  · rw [roundM_s, roundM_s, roundM_q, roundM_s]
    split
    · exact wrap_split _ _ _
    · rfl
  · rw [roundM_b, hf, roundM_m, roundM_b x k a b c, roundM_b x k sa sb c, hf']
    split
    · exact wrap_split _ _ _
    · rfl

section
variable (R : Nat → Rd)
/-- The meter after so many rounds of the script. -/
def runM (x : Mt) (k0 : Int) : Nat → Mt
  | 0 => x
  | n + 1 => roundM (runM x k0 n) (k0 + n) (R n).msg (R n).bit (R n).fired
/-- The signals of the rounds up to so many. -/
def sumS (a : Int) : Nat → Int
  | 0 => a
  | n + 1 => wrap64 (sumS a n + (R n).msg)
/-- The bits of the rounds from lo on, so many. -/
def sumB (a : Int) (lo : Nat) : Nat → Int
  | 0 => a
  | n + 1 => wrap64 (sumB a lo n + (R (lo + n)).bit)

/-- 'fired' after the third loop: the first index that fired, or -1. -/
def FiredIs (n : Nat) (F : Int) : Prop := (F = -1 ∧ ∀ j, j < n → (R j).fired = false) ∨ ∃ j : Nat, F = j ∧ j < n ∧ (R j).fired = true ∧ ∀ i, i < j → (R i).fired = false

def wantFire (f k0 F : Int) : Int := if f = 0 ∧ 0 ≤ F then k0 + F else f
def sHi (q k0 : Int) (n : Nat) : Int := if q = 0 then n else if q ≤ k0 then 0 else if q - k0 < n then q - k0 else n
def bLo (m k0 : Int) (n : Nat) : Int := if k0 < m then (if m - k0 < n then m - k0 else n) else 0
def bHi (f F : Int) (n : Nat) : Int := if f = 0 then (if 0 ≤ F then F else n) else 0

theorem runM_q (x : Mt) (k0 : Int) (n : Nat) : (runM R x k0 n).q = x.q := by
  induction n with
  | zero => rfl
  | succ n ih => rw [runM, roundM_q, ih]
theorem runM_m (x : Mt) (k0 : Int) (n : Nat) : (runM R x k0 n).m = x.m := by
  induction n with
  | zero => rfl
  | succ n ih => rw [runM, roundM_m, ih]

/-- While nothing fired and none is recorded. -/
theorem runM_f_none (x : Mt) (k0 : Int) (n : Nat) (h : ∀ j, j < n → (R j).fired = false) : (runM R x k0 n).f = x.f := by
  induction n with
  | zero => rfl
  | succ n ih => rw [runM, roundM_f, ih (fun j hj => h j (by omega)), h n (by omega)]; simp
theorem runM_f_set (x : Mt) (k0 : Int) (n : Nat) (h : x.f ≠ 0) : (runM R x k0 n).f = x.f := by
  induction n with
  | zero => rfl
  | succ n ih => rw [runM, roundM_f, ih]; simp [h]
theorem runM_f_at (x : Mt) (k0 : Int) (hk : 1 ≤ k0) (j : Nat) (h0 : x.f = 0) (hj : (R j).fired = true) (hb : ∀ i, i < j → (R i).fired = false) : ∀ n, j < n → (runM R x k0 n).f = k0 + j := by
  intro n hn
  induction n with
  | zero => omega
  | succ n ih =>
    rw [runM, roundM_f]
    rcases Nat.lt_or_ge j n with h | h
    · rw [ih h, if_neg]
      rintro ⟨_, h'⟩
      omega
    · have : n = j := by omega
      subst this
      rw [runM_f_none R x k0 n hb, h0, hj]
      simp

theorem runM_f (x : Mt) (k0 : Int) (hk : 1 ≤ k0) (n : Nat) (F : Int) (hF : FiredIs R n F) : (runM R x k0 n).f = wantFire x.f k0 F := by
  unfold wantFire
  by_cases h0 : x.f = 0
  · rcases hF with ⟨rfl, h⟩ | ⟨j, rfl, hj, h1, h2⟩
    · rw [runM_f_none R x k0 n h]; simp
    · rw [runM_f_at R x k0 hk j h0 h1 h2 n hj]; simp [h0]
  · rw [runM_f_set R x k0 n h0]; simp [h0]

theorem runM_s (x : Mt) (k0 : Int) : ∀ n : Nat, (runM R x k0 n).s = sumS R x.s (sHi x.q k0 n).toNat := by
  intro n
  induction n with
  | zero =>
    have : (sHi x.q k0 0).toNat = 0 := by unfold sHi; (repeat' split) <;> omega
    rw [this]; rfl
  | succ n ih =>
    rw [runM, roundM_s, runM_q, ih]
    by_cases hq : x.q = 0 ∨ k0 + n < x.q
    · rw [if_pos hq]
      have e1 : (sHi x.q k0 n).toNat = n := by unfold sHi; (repeat' split) <;> omega
      have e2 : (sHi x.q k0 ((n + 1 : Nat) : Int).toNat).toNat = n + 1 := by unfold sHi; (repeat' split) <;> omega
      simp only [Int.toNat_natCast] at e2
      rw [e1, e2, sumS]
    · rw [if_neg hq]
      have e : (sHi x.q k0 n).toNat = (sHi x.q k0 (n + 1)).toNat := by unfold sHi; (repeat' split) <;> omega
      rw [e]

theorem runM_b_none (x : Mt) (k0 : Int) (h0 : x.f = 0) (n : Nat) (h : ∀ j, j < n → (R j).fired = false) : (runM R x k0 n).b = sumB R x.b (x.m - k0).toNat (n - (x.m - k0).toNat) := by
  induction n with
  | zero => simp [runM, sumB]
  | succ n ih =>
    have hf := runM_f_none R x k0 (n + 1) h
    rw [runM] at hf
    rw [runM, roundM_b, hf, runM_m, ih (fun j hj => h j (by omega)), h0]
    by_cases hm : x.m ≤ k0 + n
    · have e : n + 1 - (x.m - k0).toNat = (n - (x.m - k0).toNat) + 1 := by omega
      have e' : (x.m - k0).toNat + (n - (x.m - k0).toNat) = n := by omega
      rw [if_pos ⟨hm, rfl⟩, e, sumB, e']
    · have e : n + 1 - (x.m - k0).toNat = n - (x.m - k0).toNat := by omega
      rw [if_neg (fun h' => hm h'.1), e]
theorem runM_b_set (x : Mt) (k0 : Int) (j : Nat) (h : (runM R x k0 j).f ≠ 0) : ∀ n, (runM R x k0 (j + n)).f = (runM R x k0 j).f ∧ (runM R x k0 (j + n)).b = (runM R x k0 j).b := by
  intro n
  induction n with
  | zero => exact ⟨rfl, rfl⟩
  | succ n ih =>
    have hf : (runM R x k0 (j + (n + 1))).f = (runM R x k0 j).f := by
      rw [← Nat.add_assoc, runM, roundM_f, ih.1, if_neg (fun h' => h h'.2)]
    refine ⟨hf, ?_⟩
    rw [← Nat.add_assoc, runM] at hf
    rw [← Nat.add_assoc, runM, roundM_b, hf, if_neg (fun h' => h h'.2), ih.2]

theorem runM_b (x : Mt) (k0 : Int) (hk : 1 ≤ k0) (n : Nat) (F : Int) (hF : FiredIs R n F) : (runM R x k0 n).b = sumB R x.b (bLo x.m k0 n).toNat ((bHi x.f F n).toNat - (bLo x.m k0 n).toNat) := by
  by_cases h0 : x.f = 0
  · -- up to the first that fired
    have key : ∀ j : Nat, j ≤ n → (runM R x k0 j).b = sumB R x.b (x.m - k0).toNat (j - (x.m - k0).toNat) → (runM R x k0 j).b = sumB R x.b (bLo x.m k0 n).toNat (j - (bLo x.m k0 n).toNat) := by
      intro j hj e
      rw [e]
      by_cases hl : (x.m - k0).toNat < n
      · have : (bLo x.m k0 n).toNat = (x.m - k0).toNat := by unfold bLo; (repeat' split) <;> omega
        rw [this]
      · have e1 : j - (x.m - k0).toNat = 0 := by omega
        have e2 : j - (bLo x.m k0 n).toNat = 0 := by unfold bLo; (repeat' split) <;> omega
        rw [e1, e2]; rfl
    rcases hF with ⟨rfl, h⟩ | ⟨j, rfl, hj, h1, h2⟩
    · have e : (bHi x.f (-1) n).toNat = n := by simp [bHi, h0]
      rw [e]
      exact key n (Nat.le_refl _) (runM_b_none R x k0 h0 n h)
    · have e : (bHi x.f (j : Int) n).toNat = j := by simp [bHi, h0]
      rw [e]
      have hkey := key j (by omega) (runM_b_none R x k0 h0 j h2)
      rw [← hkey]
      have hfj : (runM R x k0 (j + 1)).f = k0 + j := runM_f_at R x k0 hk j h0 h1 h2 (j + 1) (by omega)
      have hne : (runM R x k0 (j + 1)).f ≠ 0 := by rw [hfj]; omega
      have hb1 : (runM R x k0 (j + 1)).b = (runM R x k0 j).b := by
        have hne' := hne
        rw [runM] at hne'
        rw [runM, roundM_b, if_neg (fun h' => hne' h'.2)]
      have := (runM_b_set R x k0 (j + 1) hne (n - (j + 1))).2
      rw [show j + 1 + (n - (j + 1)) = n by omega] at this
      rw [this, hb1]
  · have e : (bHi x.f F n).toNat = 0 := by simp [bHi, h0]
    have := (runM_b_set R x k0 0 h0 n).2
    rw [Nat.zero_add] at this
    rw [this, e, Nat.zero_sub]; rfl
end
end Go.Proofs.Qxb6617332aMods
