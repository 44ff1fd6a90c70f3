import Derived.Test.Qxb6617332aModsMerge
namespace Go.Proofs.Qxb6617332aMods
open Go.RowKit

theorem inDom_is (x : Tl) : inDom x = decide ((0 ≤ x.runs ∧ x.runs ≤ 2305843009213693952 ∧ 0 ≤ x.viol ∧ x.viol ≤ 2305843009213693952) ∧ (x.viol = 0 → x.first = 0) ∧ (x.meas = false → x.maxr = 0) ∧ 0 ≤ x.stab ∧ 0 ≤ x.pub) := rfl
theorem ret_b {a b : Bool} (h : a = b) : Ending.returned (.bool a) = .returned (.bool b) := by rw [h]

set_option maxRecDepth 100000 in
set_option maxHeartbeats 800000 in
/-- tallyInDomain. -/
theorem inDom_any (x : Tl) (w : World) :
    Calls Trym.prog 10 #[.agg #[.int .i64 x.runs, .int .i64 x.viol, .int .i64 x.first, .bool x.meas, .int .i64 x.maxr, .int .i64 x.stab, .int .i64 x.pub]] w fun e w' => e = .returned (.bool (inDom x)) ∧ Below w.heap.size w w' := by
  cases hm : x.meas
  all_goals
    go_enter Trym.func10, Trym.ntmps10
    go_wp2
  all_goals
    go_ret
    refine ⟨ret_b ?_, (Below.refl _ _).alloc (Nat.le_refl _) _⟩
    rw [inDom_is, hm]
    try simp only [bne_iff_ne, ne_eq, bne_eq_false_iff_eq] at *
    rw [Bool.eq_iff_iff]
    simp only [decide_eq_true_eq, reduceCtorEq, false_imp_iff, true_and, forall_const, false_iff]
    omega

/-- tallyOf. -/
theorem tallyOf_any (x : Tl) (w : World) :
    Calls Trym.prog 11 #[.agg #[.int .i64 x.runs, .int .i64 x.viol, .int .i64 x.first, .bool x.meas, .int .i64 x.maxr, .int .i64 x.stab, .int .i64 x.pub]] w fun e w' =>
      e = .returned (.agg #[.int .i64 x.runs, .int .i64 x.viol, .int .i64 x.first, .bool x.meas, .int .i64 x.maxr, .int .i64 x.stab, .int .i64 x.pub]) ∧ Below w.heap.size w w' := by
  go_enter Trym.func11, Trym.ntmps11
  go_wp2
  refine bodyPost_ret (v := .agg #[.int .i64 x.runs, .int .i64 x.viol, .int .i64 x.first, .bool x.meas, .int .i64 x.maxr, .int .i64 x.stab, .int .i64 x.pub]) (by simp [results, Trym.results11, go_sem]) rfl ⟨rfl, ?_⟩
  exact ((Below.refl _ _).alloc (Nat.le_refl _) _).alloc (by simp) _
end Go.Proofs.Qxb6617332aMods
