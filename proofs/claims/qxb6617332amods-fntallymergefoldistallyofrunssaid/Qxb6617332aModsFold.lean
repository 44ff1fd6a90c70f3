import Derived.Test.Qxb6617332aModsMerge
import Derived.Test.Qxb6617332aModsFoldPlain
import Derived.Deep.LoopGhost
import Derived.Deep.CutBlock
import Derived.LoopTactic
namespace Go.Proofs.Qxb6617332aMods
open Go.RowKit

/-- The runs lie in memory: run i at five cells. -/
structure LiesR (w : World) (p : Option Addr) (len : Nat) (R : Nat → Ru) : Prop where
  lies : 0 < len → ∃ b off, p = some ⟨b, off, none⟩ ∧ b < w.heap.size ∧ ∀ i, i < len →
    w.cell? ⟨b, off + i * 5, none⟩ = some (.int .i64 (R i).seed) ∧ w.cell? ⟨b, off + i * 5 + 1, none⟩ = some (.bool (R i).viol) ∧ w.cell? ⟨b, off + i * 5 + 2, none⟩ = some (.bool (R i).meas) ∧
    w.cell? ⟨b, off + i * 5 + 3, none⟩ = some (.int .i64 (R i).rounds) ∧ w.cell? ⟨b, off + i * 5 + 4, none⟩ = some (.int .i64 (R i).stab)

theorem LiesR.below {w w' : World} {B : Nat} {p : Option Addr} {len : Nat} {R : Nat → Ru} (h : LiesR w p len R) (hb : Below B w w') (hB : w.heap.size ≤ B) : LiesR w' p len R := by
  refine ⟨fun hl => ?_⟩
  obtain ⟨b, off, rfl, hlt, hc⟩ := h.lies hl
  have hlt' : b < B := by omega
  refine ⟨b, off, rfl, Nat.lt_of_lt_of_le hlt hb.size, fun i hi => ?_⟩
  obtain ⟨c0, c1, c2, c3, c4⟩ := hc i hi
  exact ⟨(hb.cell (p := ⟨b, _, none⟩) hlt').trans c0, (hb.cell (p := ⟨b, _, none⟩) hlt').trans c1, (hb.cell (p := ⟨b, _, none⟩) hlt').trans c2, (hb.cell (p := ⟨b, _, none⟩) hlt').trans c3, (hb.cell (p := ⟨b, _, none⟩) hlt').trans c4⟩

/-- zzBytes_FnTallyMergeFoldIsTallyOfRuns. -/
theorem zzbytes3_any (w : World) (a0 a1 : Int) (p : Option Addr) (len cap : Nat) (hl : len ≤ 9223372036854775807) :
    Calls Trym.prog 6 #[.slice p len cap, .int .i64 a0, .int .i64 a1] w fun e w' => e = .returned (.bool (decide (len ≤ 1048576))) ∧ w' = w := by
  by_cases h : len ≤ 1048576
  · go_enter Trym.func6, Trym.ntmps6
    go_wp2
    go_ret
    exact ⟨by simp [h], rfl⟩
  · go_enter Trym.func6, Trym.ntmps6
    go_wp2
    go_ret
    exact ⟨by simp; omega, rfl⟩

set_option maxRecDepth 100000 in
/-- runTally. -/
theorem runTally_any (r : Ru) (pt : Int) (w : World) :
    Calls Trym.prog 7 #[.agg #[.int .i64 r.seed, .bool r.viol, .bool r.meas, .int .i64 r.rounds, .int .i64 r.stab], .int .i64 pt] w fun e w' =>
      e = .returned (.agg #[.int .i64 (oneT r pt).runs, .int .i64 (oneT r pt).viol, .int .i64 (oneT r pt).first, .bool (oneT r pt).meas, .int .i64 (oneT r pt).maxr, .int .i64 (oneT r pt).stab, .int .i64 (oneT r pt).pub]) ∧ Below w.heap.size w w' := by
  unfold oneT
  cases hv : r.viol <;> cases hm : r.meas
  all_goals
    go_enter Trym.func7, Trym.ntmps7
    go_wp2
  · refine bodyPost_ret (v := .agg #[.int .i64 1, .int .i64 0, .int .i64 0, .bool false, .int .i64 0, .int .i64 r.stab, .int .i64 pt]) (by simp [results, Trym.results7, go_sem]) rfl ⟨by simp, ?_⟩
    exact (((Below.refl _ _).alloc (Nat.le_refl _) _).alloc (by simp) _).alloc (by simp; omega) _
  · refine bodyPost_ret (v := .agg #[.int .i64 1, .int .i64 0, .int .i64 0, .bool true, .int .i64 r.rounds, .int .i64 r.stab, .int .i64 pt]) (by simp [results, Trym.results7, go_sem]) rfl ⟨by simp, ?_⟩
    exact (((Below.refl _ _).alloc (Nat.le_refl _) _).alloc (by simp) _).alloc (by simp; omega) _
  · refine bodyPost_ret (v := .agg #[.int .i64 1, .int .i64 1, .int .i64 r.seed, .bool false, .int .i64 0, .int .i64 r.stab, .int .i64 pt]) (by simp [results, Trym.results7, go_sem]) rfl ⟨by simp, ?_⟩
    exact (((Below.refl _ _).alloc (Nat.le_refl _) _).alloc (by simp) _).alloc (by simp; omega) _
  · refine bodyPost_ret (v := .agg #[.int .i64 1, .int .i64 1, .int .i64 r.seed, .bool true, .int .i64 r.rounds, .int .i64 r.stab, .int .i64 pt]) (by simp [results, Trym.results7, go_sem]) rfl ⟨by simp, ?_⟩
    exact (((Below.refl _ _).alloc (Nat.le_refl _) _).alloc (by simp) _).alloc (by simp; omega) _

/-- No i below n is barred. -/
def noneB (n : Nat) (bad : Nat → Bool) : Bool := decide (∀ i, i < n → bad i = false)
def badV (R : Nat → Ru) (s : Int) (i : Nat) : Bool := (R i).viol && decide ((R i).seed < s)
def badM (R : Nat → Ru) (v : Int) (i : Nat) : Bool := (R i).meas && decide (v < (R i).rounds)
def badS (R : Nat → Ru) (v : Int) (i : Nat) : Bool := decide (v < (R i).stab)
theorem noneB_no {n : Nat} {bad : Nat → Bool} {j : Nat} (hj : j < n) (h : bad j = true) : noneB n bad = false := by
  unfold noneB; rw [decide_eq_false_iff_not]; intro g; rw [g j hj] at h; cases h
theorem noneB_yes {n : Nat} {bad : Nat → Bool} (h : ∀ i, i < n → bad i = false) : noneB n bad = true := decide_eq_true h

set_option maxRecDepth 100000 in
/-- noViolatedSeedBelow. -/
theorem noV_any (R : Nat → Ru) (p : Option Addr) (len cap : Nat) (s : Int) (w : World) (hR : LiesR w p len R) (hL : len ≤ 4096) :
    Calls Trym.prog 18 #[.slice p len cap, .int .i64 s] w fun e w' => e = .returned (.bool (noneB len (badV R s))) ∧ w' = w := by
  go_enter Trym.func18, Trym.ntmps18
  go_wp2_with fail
  go_loopg [5] len (fun g i wx => ∃ j : Nat, g + j = len ∧ i = .int .i64 (j : Int) ∧ (∀ i, i < j → badV R s i = false) ∧ w = wx)
  case atStart => exact ⟨0, rfl, rfl, fun i hi => absurd hi (Nat.not_lt_zero _), rfl⟩
  case round =>
    obtain ⟨j, hg, rfl, hno, rfl⟩ := hrel
    have Hno : Hid (∀ i, i < j → badV R s i = false) := hno
    clear hno
    by_cases hlt : j < len
    · obtain ⟨bb, off, rfl, hbb, hcells⟩ := hR.lies (by omega)
      obtain ⟨c0, c1, c2, c3, c4⟩ := hcells j (by omega)
      clear hcells
      have fin : badV R s j = false → Hid (∀ i, i < j + 1 → badV R s i = false) := by
        intro h i hi
        rcases Nat.lt_succ_iff_lt_or_eq.1 hi with h' | h'
        · exact Hno.out i h'
        · rw [h']; exact h
      cases hv : (R j).viol with
      | false =>
        have HF := fin (by simp [badV, hv])
        clear fin
        go_wp2
        go_roundg (gk - 1)
        case measure => omega
        case rel => exact ⟨j + 1, by omega, by go_num, HF.out, rfl⟩
      | true =>
        by_cases hs : (R j).seed < s
        · have HF : Hid (noneB len (badV R s) = false) := noneB_no hlt (by simp [badV, hv, hs])
          clear fin
          go_wp2
          go_ret
          exact ⟨by rw [HF.out]; rfl, rfl⟩
        · have HF := fin (by simp [badV, hv]; omega)
          clear fin
          go_wp2
          go_roundg (gk - 1)
          case measure => omega
          case rel => exact ⟨j + 1, by omega, by go_num, HF.out, rfl⟩
    · have HF : Hid (noneB len (badV R s) = true) := noneB_yes (fun i hi => Hno.out i (by omega))
      go_wp2
      go_ret
      exact ⟨by rw [HF.out]; rfl, rfl⟩

set_option maxRecDepth 100000 in
/-- noMeasuredAbove. -/
theorem noM_any (R : Nat → Ru) (p : Option Addr) (len cap : Nat) (s : Int) (w : World) (hR : LiesR w p len R) (hL : len ≤ 4096) :
    Calls Trym.prog 19 #[.slice p len cap, .int .i64 s] w fun e w' => e = .returned (.bool (noneB len (badM R s))) ∧ w' = w := by
  go_enter Trym.func19, Trym.ntmps19
  go_wp2_with fail
  go_loopg [5] len (fun g i wx => ∃ j : Nat, g + j = len ∧ i = .int .i64 (j : Int) ∧ (∀ i, i < j → badM R s i = false) ∧ w = wx)
  case atStart => exact ⟨0, rfl, rfl, fun i hi => absurd hi (Nat.not_lt_zero _), rfl⟩
  case round =>
    obtain ⟨j, hg, rfl, hno, rfl⟩ := hrel
    have Hno : Hid (∀ i, i < j → badM R s i = false) := hno
    clear hno
    by_cases hlt : j < len
    · obtain ⟨bb, off, rfl, hbb, hcells⟩ := hR.lies (by omega)
      obtain ⟨c0, c1, c2, c3, c4⟩ := hcells j (by omega)
      clear hcells
      have fin : badM R s j = false → Hid (∀ i, i < j + 1 → badM R s i = false) := by
        intro h i hi
        rcases Nat.lt_succ_iff_lt_or_eq.1 hi with h' | h'
        · exact Hno.out i h'
        · rw [h']; exact h
      cases hv : (R j).meas with
      | false =>
        have HF := fin (by simp [badM, hv])
        clear fin
        go_wp2
        go_roundg (gk - 1)
        case measure => omega
        case rel => exact ⟨j + 1, by omega, by go_num, HF.out, rfl⟩
      | true =>
        by_cases hs : s < (R j).rounds
        · have HF : Hid (noneB len (badM R s) = false) := noneB_no hlt (by simp [badM, hv, hs])
          clear fin
          go_wp2
          go_ret
          exact ⟨by rw [HF.out]; rfl, rfl⟩
        · have HF := fin (by simp [badM, hv]; omega)
          clear fin
          go_wp2
          go_roundg (gk - 1)
          case measure => omega
          case rel => exact ⟨j + 1, by omega, by go_num, HF.out, rfl⟩
    · have HF : Hid (noneB len (badM R s) = true) := noneB_yes (fun i hi => Hno.out i (by omega))
      go_wp2
      go_ret
      exact ⟨by rw [HF.out]; rfl, rfl⟩

set_option maxRecDepth 100000 in
/-- noStabilizedAbove. -/
theorem noS_any (R : Nat → Ru) (p : Option Addr) (len cap : Nat) (s : Int) (w : World) (hR : LiesR w p len R) (hL : len ≤ 4096) :
    Calls Trym.prog 20 #[.slice p len cap, .int .i64 s] w fun e w' => e = .returned (.bool (noneB len (badS R s))) ∧ w' = w := by
  go_enter Trym.func20, Trym.ntmps20
  go_wp2_with fail
  go_loopg [5] len (fun g i wx => ∃ j : Nat, g + j = len ∧ i = .int .i64 (j : Int) ∧ (∀ i, i < j → badS R s i = false) ∧ w = wx)
  case atStart => exact ⟨0, rfl, rfl, fun i hi => absurd hi (Nat.not_lt_zero _), rfl⟩
  case round =>
    obtain ⟨j, hg, rfl, hno, rfl⟩ := hrel
    have Hno : Hid (∀ i, i < j → badS R s i = false) := hno
    clear hno
    by_cases hlt : j < len
    · obtain ⟨bb, off, rfl, hbb, hcells⟩ := hR.lies (by omega)
      obtain ⟨c0, c1, c2, c3, c4⟩ := hcells j (by omega)
      clear hcells
      have fin : badS R s j = false → Hid (∀ i, i < j + 1 → badS R s i = false) := by
        intro h i hi
        rcases Nat.lt_succ_iff_lt_or_eq.1 hi with h' | h'
        · exact Hno.out i h'
        · rw [h']; exact h
      by_cases hs : s < (R j).stab
      · have HF : Hid (noneB len (badS R s) = false) := noneB_no hlt (by simp [badS, hs])
        clear fin
        go_wp2
        go_ret
        exact ⟨by rw [HF.out]; rfl, rfl⟩
      · have HF := fin (by simp [badS]; omega)
        clear fin
        go_wp2
        go_roundg (gk - 1)
        case measure => omega
        case rel => exact ⟨j + 1, by omega, by go_num, HF.out, rfl⟩
    · have HF : Hid (noneB len (badS R s) = true) := noneB_yes (fun i hi => Hno.out i (by omega))
      go_wp2
      go_ret
      exact ⟨by rw [HF.out]; rfl, rfl⟩
end Go.Proofs.Qxb6617332aMods
