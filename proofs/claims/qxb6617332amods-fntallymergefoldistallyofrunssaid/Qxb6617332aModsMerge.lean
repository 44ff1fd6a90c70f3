import Derived.Test.Qxb6617332aModsRows
import Derived.Test.Qxb6617332aModsPlain
import Derived.WalkKit
import Derived.WalkSpells
import Derived.WalkLawsBesides
import Derived.BigRegion
import Derived.BigQuiet
import Derived.Deep.QuietTactic
import Derived.Deep.DeepCutAuto
import Derived.RowKit3
import Derived.Below
namespace Go.Proofs.Qxb6617332aMods
open Go.RowKit

/-- Block b holds the tally t, and may be written. -/
structure At (w : World) (b : Nat) (t : Tl) : Prop where
  c0 : w.cell? ⟨b, 0, none⟩ = some (.int .i64 t.runs)
  c1 : w.cell? ⟨b, 1, none⟩ = some (.int .i64 t.viol)
  c2 : w.cell? ⟨b, 2, none⟩ = some (.int .i64 t.first)
  c3 : w.cell? ⟨b, 3, none⟩ = some (.bool t.meas)
  c4 : w.cell? ⟨b, 4, none⟩ = some (.int .i64 t.maxr)
  c5 : w.cell? ⟨b, 5, none⟩ = some (.int .i64 t.stab)
  c6 : w.cell? ⟨b, 6, none⟩ = some (.int .i64 t.pub)
  fz : ∀ i, w.frozen? ⟨b, i, none⟩ = false

/-- The tally t laid into block b (in the order in which merge writes). -/
def putT (w : World) (b : Nat) (t : Tl) : World :=
  ((((((w.setCell ⟨b, 0, none⟩ (.int .i64 t.runs)).setCell ⟨b, 2, none⟩ (.int .i64 t.first)).setCell ⟨b, 1, none⟩ (.int .i64 t.viol)).setCell ⟨b, 3, none⟩ (.bool t.meas)).setCell ⟨b, 4, none⟩ (.int .i64 t.maxr)).setCell ⟨b, 5, none⟩ (.int .i64 t.stab)).setCell ⟨b, 6, none⟩ (.int .i64 t.pub)

theorem setCell_self {w : World} {b o : Nat} {v : Value} (h : w.cell? ⟨b, o, none⟩ = some v) : w.setCell ⟨b, o, none⟩ v = w := by
  have hh : (w.setCell ⟨b, o, none⟩ v).heap = w.heap := by
    apply Array.ext_getElem?
    intro k
    simp only [World.setCell, Array.getElem?_modify]
    by_cases hk : b = k
    · subst hk
      unfold World.cell? at h
      simp only [] at h
      cases hb : w.heap[b]? with
      | none => simp [hb] at h
      | some o' =>
        cases o' with
        | cells c e f =>
          simp [hb] at h
          simp only [if_true, Option.map_some, Option.isSome_none, Bool.false_eq_true, if_false]
          congr 2
          apply Array.ext_getElem?
          intro j
          rw [Array.getElem?_setIfInBounds]
          split
          · rename_i hj; subst hj; rw [h]; simp; exact (Array.getElem?_eq_some_iff.1 h).1
          · rfl
        | _ => simp [hb] at h
    · simp [hk]
  cases w
  simp only [World.setCell] at hh ⊢
  rw [hh]

theorem setCell_drewN (w : World) (n : Nat) (a : Addr) (v : Value) : (w.drewN n).setCell a v = (w.setCell a v).drewN n := rfl
theorem g1_tt {t u : Tl} (h1 : 0 < u.viol) (h2 : t.viol = 0) : Value.bool true = .bool (g1 t u) := by simp [g1, h1, h2]
theorem g1_tf {t u : Tl} (h1 : 0 < u.viol) (h2 : ¬ t.viol = 0) : Value.bool (decide (u.first < t.first)) = .bool (g1 t u) := by simp [g1, h1, h2]
theorem g1_f {t u : Tl} (h1 : ¬ 0 < u.viol) : Value.bool false = .bool (g1 t u) := by simp [g1, h1]
theorem g2_f {t u : Tl} (h1 : u.meas = false) : Value.bool false = .bool (g2 t u) := by simp [g2, h1]
theorem g2_tt {t u : Tl} (h1 : u.meas = true) (h2 : t.meas = false) : Value.bool true = .bool (g2 t u) := by simp [g2, h1, h2]
theorem g2_tf {t u : Tl} (h1 : u.meas = true) (h2 : t.meas = true) : Value.bool (decide (t.maxr < u.maxr)) = .bool (g2 t u) := by simp [g2, h1, h2]
theorem g2_or {t u : Tl} (h : g2 t u = true) : (t.meas || u.meas) = true := by simp [g2] at h; simp [h.1]
theorem g2_no {t u : Tl} (h : g2 t u = false) : (t.meas || u.meas) = t.meas := by
  simp [g2] at h
  cases hu : u.meas <;> cases ht : t.meas <;> simp_all

set_option maxRecDepth 100000 in
set_option maxHeartbeats 800000 in
theorem merge_any (w : World) (bt bu : Nat) (_hne : bt ≠ bu) (t u : Tl)
  (ht : At w bt t) (hu : At w bu u) :
  Calls Trym.prog 17 #[.pointer (some ⟨bt, 0, none⟩), .pointer (some ⟨bu, 0, none⟩)] w fun e w' => e = .returned (.tuple #[]) ∧ ∃ n, w' = (putT w bt (mergeT t u)).drewN n := by
  obtain ⟨t0, t1, t2, t3, t4, t5, t6, f⟩ := ht
  obtain ⟨u0, u1, u2, u3, u4, u5, u6, _⟩ := hu
  go_enter Trym.func17, Trym.ntmps17
  go_wp2
  go_region
  go_wp2
  go_cut [37] (fun s wx => s = .bool (g1 t u) ∧ ∃ n, wx = (w.setCell ⟨bt, 0, none⟩ (.int .i64 (wrap64 (t.runs + u.runs)))).drewN n)
  case first =>
    by_cases h1 : 0 < u.viol
    · by_cases h2 : t.viol = 0
      · have H := g1_tt h1 h2
        have H1 : Hid (Value.bool true = .bool (g1 t u)) := H
        have h2' : (t.viol == 0) = true := by simp [h2]
        clear h2 H
        go_quiet (fail)
        go_wp2_with fail
        go_meet
        case rel => exact ⟨H1.out, _, World.drewN_drew _ _⟩
      · have H := g1_tf h1 h2
        have H1 : Hid (Value.bool (decide (u.first < t.first)) = .bool (g1 t u)) := H
        have h2' : (t.viol == 0) = false := by simp [h2]
        clear h2 H
        go_quiet (fail)
        go_wp2_with fail
        go_meet
        case rel => exact ⟨H1.out, _, World.drewN_drew _ _⟩
    · have H := g1_f (t := t) h1
      have H1 : Hid (Value.bool false = .bool (g1 t u)) := H
      have h1' : decide (0 < u.viol) = false := by simp [h1]
      clear H h1
      go_quiet (fail)
      go_wp2_with fail
      go_meet
      case rel => exact ⟨H1.out, _, World.drewN_drew _ _⟩
  case rest =>
  obtain ⟨rfl, n1, rfl⟩ := hcut
  go_upto_if 37 with fail
  go_cut [37] (fun s wx => ∃ n, wx = ((w.setCell ⟨bt, 0, none⟩ (.int .i64 (wrap64 (t.runs + u.runs)))).setCell ⟨bt, 2, none⟩ (.int .i64 (firstOf t u))).drewN n)
  case first =>
    cases hg : g1 t u with
    | true =>
      have H : Hid (firstOf t u = u.first) := by simp [Hid, firstOf, hg]
      go_wp2
      go_meet
      case rel => exact ⟨n1, by rw [H.out, setCell_drewN]⟩
    | false =>
      have H : Hid (firstOf t u = t.first) := by simp [Hid, firstOf, hg]
      have H2 : Hid ((w.setCell ⟨bt, 0, none⟩ (.int .i64 (wrap64 (t.runs + u.runs)))).cell? ⟨bt, 2, none⟩ = some (.int .i64 t.first)) := by show _ = _; go_simp
      go_wp2
      go_meet
      case rel => exact ⟨n1, by rw [H.out, setCell_self H2.out]⟩
  case rest =>
  obtain ⟨n2, rfl⟩ := hcut
  go_wp2
  go_region
  go_wp2
  go_cut [77] (fun s wx => s = .bool (g2 t u) ∧ ∃ n, wx = (((w.setCell ⟨bt, 0, none⟩ (.int .i64 (wrap64 (t.runs + u.runs)))).setCell ⟨bt, 2, none⟩ (.int .i64 (firstOf t u))).setCell ⟨bt, 1, none⟩ (.int .i64 (wrap64 (t.viol + u.viol)))).drewN n)
  case first =>
    cases h1 : u.meas with
    | true =>
      cases h2 : t.meas with
      | false =>
        have H1 : Hid (Value.bool true = .bool (g2 t u)) := g2_tt h1 h2
        go_quiet (fail)
        go_wp2_with fail
        go_meet
        case rel => exact ⟨H1.out, n2 + 1 + nq, by rw [setCell_drewN, World.drewN_drewN]⟩
      | true =>
        have H1 : Hid (Value.bool (decide (t.maxr < u.maxr)) = .bool (g2 t u)) := g2_tf h1 h2
        go_quiet (fail)
        go_wp2_with fail
        go_meet
        case rel => exact ⟨H1.out, n2 + 1 + nq, by rw [setCell_drewN, World.drewN_drewN]⟩
    | false =>
      have H1 : Hid (Value.bool false = .bool (g2 t u)) := g2_f h1
      go_quiet (fail)
      go_wp2_with fail
      go_meet
      case rel => exact ⟨H1.out, n2 + 1 + nq, by rw [setCell_drewN, World.drewN_drewN]⟩
  case rest =>
  obtain ⟨rfl, n3, rfl⟩ := hcut
  go_upto_if 77 with fail
  go_cut [77] (fun s wx => ∃ n, wx = (((((w.setCell ⟨bt, 0, none⟩ (.int .i64 (wrap64 (t.runs + u.runs)))).setCell ⟨bt, 2, none⟩ (.int .i64 (firstOf t u))).setCell ⟨bt, 1, none⟩ (.int .i64 (wrap64 (t.viol + u.viol)))).setCell ⟨bt, 3, none⟩ (.bool (t.meas || u.meas))).setCell ⟨bt, 4, none⟩ (.int .i64 (maxrOf t u))).drewN n)
  case first =>
    cases hg : g2 t u with
    | true =>
      have H : Hid (maxrOf t u = u.maxr) := by simp [Hid, maxrOf, hg]
      have H' : Hid ((t.meas || u.meas) = true) := g2_or hg
      go_wp2
      go_meet
      case rel => exact ⟨n3, by rw [H.out, H'.out, setCell_drewN, setCell_drewN]⟩
    | false =>
      have H : Hid (maxrOf t u = t.maxr) := by simp [Hid, maxrOf, hg]
      have H' : Hid ((t.meas || u.meas) = t.meas) := g2_no hg
      have H2 : Hid ((((w.setCell ⟨bt, 0, none⟩ (.int .i64 (wrap64 (t.runs + u.runs)))).setCell ⟨bt, 2, none⟩ (.int .i64 (firstOf t u))).setCell ⟨bt, 1, none⟩ (.int .i64 (wrap64 (t.viol + u.viol)))).cell? ⟨bt, 3, none⟩ = some (.bool t.meas)) := by show _ = _; go_simp
      have H3 : Hid ((((w.setCell ⟨bt, 0, none⟩ (.int .i64 (wrap64 (t.runs + u.runs)))).setCell ⟨bt, 2, none⟩ (.int .i64 (firstOf t u))).setCell ⟨bt, 1, none⟩ (.int .i64 (wrap64 (t.viol + u.viol)))).cell? ⟨bt, 4, none⟩ = some (.int .i64 t.maxr)) := by show _ = _; go_simp
      go_wp2
      go_meet
      case rel => exact ⟨n3, by rw [H.out, H'.out, setCell_self H2.out, setCell_self H3.out]⟩
  case rest =>
  obtain ⟨n4, rfl⟩ := hcut
  go_wp2
  go_cut [97] (fun _ wx => ∃ n, wx = ((((((w.setCell ⟨bt, 0, none⟩ (.int .i64 (wrap64 (t.runs + u.runs)))).setCell ⟨bt, 2, none⟩ (.int .i64 (firstOf t u))).setCell ⟨bt, 1, none⟩ (.int .i64 (wrap64 (t.viol + u.viol)))).setCell ⟨bt, 3, none⟩ (.bool (t.meas || u.meas))).setCell ⟨bt, 4, none⟩ (.int .i64 (maxrOf t u))).setCell ⟨bt, 5, none⟩ (.int .i64 (gr t.stab u.stab))).drewN n)
  case first =>
    by_cases h : t.stab < u.stab
    · have H : Hid (gr t.stab u.stab = u.stab) := gr_lt h
      go_region
      go_wp2_with fail
      go_meet
      case rel => exact ⟨n4 + 1, by rw [H.out, setCell_drewN]⟩
    · have H : Hid (gr t.stab u.stab = t.stab) := gr_ge h
      go_region
      go_wp2_with fail
      go_meet
      case rel => exact ⟨n4 + 1, by rw [H.out, setCell_drewN]⟩
  case rest =>
  obtain ⟨n5, rfl⟩ := hcut
  go_wp2
  by_cases h : t.pub < u.pub
  · have H : Hid (gr t.pub u.pub = u.pub) := gr_lt h
    go_region
    go_end0
    exact ⟨rfl, n5 + 1, by unfold putT mergeT; dsimp only; rw [H.out, setCell_drewN]⟩
  · have H : Hid (gr t.pub u.pub = t.pub) := gr_ge h
    go_region
    go_end0
    exact ⟨rfl, n5 + 1, by unfold putT mergeT; dsimp only; rw [H.out, setCell_drewN]⟩

/-- Block b alone may have turned. -/
structure Upd (b : Nat) (w w' : World) : Prop where
  os : w'.os = w.os
  tape : w'.tape = w.tape
  output : w'.output = w.output
  size : w'.heap.size = w.heap.size
  block : ∀ k, k ≠ b → w'.heap[k]? = w.heap[k]?

theorem Upd.refl (b : Nat) (w : World) : Upd b w w := ⟨rfl, rfl, rfl, rfl, fun _ _ => rfl⟩
theorem Upd.set {b : Nat} {w w' : World} (h : Upd b w w') (i : Nat) (v : Value) : Upd b w (w'.setCell ⟨b, i, none⟩ v) :=
  ⟨h.os, h.tape, h.output, by rw [← h.size]; simp [World.setCell], fun k hk => by rw [Below.heap_setCell _ _ _ _ hk]; exact h.block k hk⟩
theorem Upd.drewN {b : Nat} {w w' : World} (h : Upd b w w') (n : Nat) : Upd b w (w'.drewN n) := ⟨h.os, h.tape, h.output, h.size, h.block⟩
theorem Upd.below {B b : Nat} {w w' : World} (h : Upd b w w') (hb : B ≤ b) : Below B w w' := ⟨h.os, h.tape, h.output, by rw [h.size]; exact Nat.le_refl _, fun k hk => h.block k (by omega)⟩

theorem At.of_block {w w' : World} {b : Nat} {t : Tl} (h : At w b t) (e : w'.heap[b]? = w.heap[b]?) : At w' b t := by
  have hc : ∀ i, w'.cell? ⟨b, i, none⟩ = w.cell? ⟨b, i, none⟩ := fun i => World.cell?_of_block (w := w) (a := ⟨b, i, none⟩) e
  exact ⟨(hc 0).trans h.c0, (hc 1).trans h.c1, (hc 2).trans h.c2, (hc 3).trans h.c3, (hc 4).trans h.c4, (hc 5).trans h.c5, (hc 6).trans h.c6, fun i => (World.frozen?_of_block (w := w) (a := ⟨b, i, none⟩) e).trans (h.fz i)⟩
theorem At.upd {w w' : World} {b c : Nat} {t : Tl} (h : At w b t) (u : Upd c w w') (hn : b ≠ c) : At w' b t := h.of_block (u.block b hn)
theorem At.below {w w' : World} {b B : Nat} {t : Tl} (h : At w b t) (u : Below B w w') (hn : b < B) : At w' b t := h.of_block (u.block b hn)
theorem At.lt {w : World} {b : Nat} {t : Tl} (h : At w b t) : b < w.heap.size := by
  rcases Nat.lt_or_ge b w.heap.size with h' | h'
  · exact h'
  · have := h.c0
    simp [World.cell?, Array.getElem?_eq_none h'] at this

theorem put_upd (w : World) (b : Nat) (t : Tl) (n : Nat) : Upd b w ((putT w b t).drewN n) := by
  unfold putT
  exact ((((((((Upd.refl b w).set 0 _).set 2 _).set 1 _).set 3 _).set 4 _).set 5 _).set 6 _).drewN n
theorem put_at {w : World} {b : Nat} {s : Tl} (h : At w b s) (t : Tl) (n : Nat) : At ((putT w b t).drewN n) b t := by
  obtain ⟨t0, t1, t2, t3, t4, t5, t6, f⟩ := h
  unfold putT
  refine ⟨?_, ?_, ?_, ?_, ?_, ?_, ?_, ?_⟩ <;> (try intro i) <;> go_simp

/-- (*Tally).merge. -/
theorem merge_calls (w : World) (bt bu : Nat) (hne : bt ≠ bu) (t u : Tl) (ht : At w bt t) (hu : At w bu u) :
    Calls Trym.prog 17 #[.pointer (some ⟨bt, 0, none⟩), .pointer (some ⟨bu, 0, none⟩)] w fun e w' => e = .returned (.tuple #[]) ∧ Upd bt w w' ∧ At w' bt (mergeT t u) := by
  refine (merge_any w bt bu hne t u ht hu).mono ?_
  rintro e w' ⟨rfl, n, rfl⟩
  exact ⟨rfl, put_upd w bt _ n, put_at ht _ n⟩

/-- scenario.ZZTallyMerge. -/
theorem zzmerge_calls (w : World) (bt bu : Nat) (hne : bt ≠ bu) (t u : Tl) (ht : At w bt t) (hu : At w bu u) :
    Calls Trym.prog 8 #[.pointer (some ⟨bt, 0, none⟩), .pointer (some ⟨bu, 0, none⟩)] w fun e w' => e = .returned (.tuple #[]) ∧ Upd bt w w' ∧ At w' bt (mergeT t u) := by
  go_enter Trym.func8, Trym.ntmps8
  go_wp2_with fail
  refine (merge_calls w bt bu hne t u ht hu).mono ?_
  rintro e w' ⟨rfl, hu', ha⟩
  go_wp2
  go_end0
  exact ⟨rfl, hu', ha⟩
end Go.Proofs.Qxb6617332aMods
