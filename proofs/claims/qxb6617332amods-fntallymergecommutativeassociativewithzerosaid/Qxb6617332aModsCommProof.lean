import Derived.Test.Qxb6617332aModsCommWalk
import Derived.ProofKit
import Derived.ChangeOld
import Derived.Carry
namespace Go.Proofs.Qxb6617332aMods
open Go.ChangeShapes Go.WideShapes Go.ChangeAt Go.RowKit

theorem Trym.own : ownKnob Trym.prog.godebug = none := by kernel_rfl
theorem Trym.laidOut : laidOutB Trym.prog = true := by kernel_rfl
theorem Trym.cells32 : Trym.prog.cellsOf 32 = 7 := by kernel_rfl
theorem Trym.cells2 : Trym.prog.cellsOf 2 = 1 := by kernel_rfl
theorem Trym.cells3 : Trym.prog.cellsOf 3 = 1 := by kernel_rfl
theorem Trym.cells4 : Trym.prog.cellsOf 4 = 1 := by kernel_rfl

theorem array7 {α : Type} {cs : Array α} (h : cs.size = 7) : ∃ c0 c1 c2 c3 c4 c5 c6, cs = #[c0, c1, c2, c3, c4, c5, c6] := by
  obtain ⟨l⟩ := cs
  match l, h with
  | [c0, c1, c2, c3, c4, c5, c6], _ => exact ⟨c0, c1, c2, c3, c4, c5, c6, rfl⟩
theorem some_of_lt {α : Type} {xs : List α} {i n : Nat} (h : xs.length = n) (hi : i < n) : ∃ y, xs[i]? = some y := ⟨xs[i], by simp⟩

/-- A TallyIn that came in. -/
theorem open_tl {H : Type} {enc : TypeId × Value → H} {W : World} {base : Nat} {v : Value} {d : DataW H} {p : List MemPlace}
    (hv : Value.okWide Trym.prog W .any base 32 v) (h : DataW.Trod enc Trym.prog W 0 (fun _ => true) true 32 v d p) :
    ∃ x : Tl, v = .agg #[.int .i64 x.runs, .int .i64 x.viol, .int .i64 x.first, .bool x.meas, .int .i64 x.maxr, .int .i64 x.stab, .int .i64 x.pub] := by
  obtain ⟨cs, rfl, hsz⟩ := okWide_struct Trym.underlying32 hv
  obtain ⟨c0, c1, c2, c3, c4, c5, c6, rfl⟩ := array7 (hsz.trans Trym.cells32)
  obtain ⟨fuel, hf⟩ := h
  obtain ⟨xs, n, _, _, _, hlen, hfs⟩ := DataW.trod_struct Trym.underlying32 hf
  obtain ⟨y0, e0⟩ := some_of_lt (i := 0) hlen (by decide)
  obtain ⟨y1, e1⟩ := some_of_lt (i := 1) hlen (by decide)
  obtain ⟨y2, e2⟩ := some_of_lt (i := 2) hlen (by decide)
  obtain ⟨y3, e3⟩ := some_of_lt (i := 3) hlen (by decide)
  obtain ⟨y4, e4⟩ := some_of_lt (i := 4) hlen (by decide)
  obtain ⟨y5, e5⟩ := some_of_lt (i := 5) hlen (by decide)
  obtain ⟨y6, e6⟩ := some_of_lt (i := 6) hlen (by decide)
  have f0 := (hfs 0 _ rfl).trans e0
  have f1 := (hfs 1 _ rfl).trans e1
  have f2 := (hfs 2 _ rfl).trans e2
  have f3 := (hfs 3 _ rfl).trans e3
  have f4 := (hfs 4 _ rfl).trans e4
  have f5 := (hfs 5 _ rfl).trans e5
  have f6 := (hfs 6 _ rfl).trans e6
  obtain ⟨a0, g0, _⟩ := DataW.trod_int Trym.underlying2 f0
  obtain ⟨a1, g1, _⟩ := DataW.trod_int Trym.underlying2 f1
  obtain ⟨a2, g2, _⟩ := DataW.trod_int Trym.underlying2 f2
  obtain ⟨a3, g3, _⟩ := DataW.trod_bool Trym.underlying4 f3
  obtain ⟨a4, g4, _⟩ := DataW.trod_int Trym.underlying3 f4
  obtain ⟨a5, g5, _⟩ := DataW.trod_int Trym.underlying3 f5
  obtain ⟨a6, g6, _⟩ := DataW.trod_int Trym.underlying3 f6
  simp [Value.cells, Trym.cells2] at g0 g1 g2
  simp [Value.cells, Trym.cells4] at g3
  simp [Value.cells, Trym.cells3] at g4 g5 g6
  subst g0 g1 g2 g3 g4 g5 g6
  exact ⟨⟨a0, a1, a2, a3, a4, a5, a6⟩, rfl⟩

set_option maxRecDepth 100000 in
theorem comm_lifted (os : Os) (started : os.Started) (H : Type) (enc : TypeId × Value → H) :
    ReturnsInHanded {} Trym.checked os 4 .any (Rows.fnTallyMergeCommutativeAssociativeWithZeroSpec.pre6 enc Trym.prog Trym.f4 Rows.fnTallyMergeCommutativeAssociativeWithZeroRow.domain false) (Rows.fnTallyMergeCommutativeAssociativeWithZeroSpec.post enc Trym.prog Trym.f4 false true false false) := by
  refine returnsInHanded_of_change (C := Trym.checked) Trym.own started (by kernel_rfl) Trym.func4
    (ChangeSpec.witness6 (enc := enc) (C := Trym.checked) false ⟨#[], #[.agg #[.int .i64 0, .int .i64 0, .int .i64 0, .bool false, .int .i64 0, .int .i64 0, .int .i64 0], .agg #[.int .i64 0, .int .i64 0, .int .i64 0, .bool false, .int .i64 0, .int .i64 0, .int .i64 0], .agg #[.int .i64 0, .int .i64 0, .int .i64 0, .bool false, .int .i64 0, .int .i64 0, .int .i64 0]], []⟩ 8 (by kernel_rfl) (by kernel_rfl) (by kernel_rfl) (by kernel_rfl)) ?_
  intro W base args ds gs before hval0 hW hcnd _
  have hval : ∀ (j : Nat) t v, Trym.f4.params[j]? = some t → args[j]? = some v → Value.okWide Trym.prog W .any base t v := hval0
  have hW' := hW
  obtain ⟨p, q, hA0, hV, rfl, hfz, hnd⟩ := hW
  have hA : DataW.TrodAll enc Trym.prog W 0 (fun _ => true) true Trym.f4.params.toList args.toList ds p := hA0
  rw [Trym.params4] at hA hval
  obtain ⟨v0, vs0, d0, ds0, p0, q0, hargs, rfl, rfl, h0, r0⟩ := trodAll_cons hA
  obtain ⟨v1, vs1, d1, ds1, p1, q1, rfl, rfl, rfl, h1, r1⟩ := trodAll_cons r0
  obtain ⟨v2, vs2, d2, ds2, p2, q2, rfl, rfl, rfl, h2, r2⟩ := trodAll_cons r1
  obtain ⟨rfl, rfl, rfl⟩ := trodAll_nil r2
  obtain rfl : args = #[v0, v1, v2] := by cases args; simp_all
  obtain ⟨rfl, rfl⟩ := trodVars_none hV
  have lt0 : ∀ x ∈ p0, x.block < W.heap.size := by obtain ⟨m, hm⟩ := h0; exact DataW.trod_lt m _ _ _ hm
  have lt1 : ∀ x ∈ p1, x.block < W.heap.size := by obtain ⟨m, hm⟩ := h1; exact DataW.trod_lt m _ _ _ hm
  have lt2 : ∀ x ∈ p2, x.block < W.heap.size := by obtain ⟨m, hm⟩ := h2; exact DataW.trod_lt m _ _ _ hm
  obtain ⟨a, rfl⟩ := open_tl (hval 0 32 v0 rfl rfl) h0
  obtain ⟨b, rfl⟩ := open_tl (hval 1 32 v1 rfl rfl) h1
  obtain ⟨c, rfl⟩ := open_tl (hval 2 32 v2 rfl rfl) h2
  clear hA0 hval0
  refine (comm_walk a b c W).mono fun e W' ⟨he, bel⟩ => ?_
  subst he
  exact ⟨_, rfl, _, _, _, [], _, [], hW', trodAll_mk1 (shut_bool Trym.underlying4 _), (trodAll_mk3 (Below.trod Trym.laidOut (by kernel_rfl) (of_decide_eq_true (by kernel_rfl)) h0 bel lt0) (Below.trod Trym.laidOut (by kernel_rfl) (of_decide_eq_true (by kernel_rfl)) h1 bel lt1) (Below.trod Trym.laidOut (by kernel_rfl) (of_decide_eq_true (by kernel_rfl)) h2 bel lt2)), rfl, bel.frame _, fun h => by cases h⟩

theorem commProved : Rows.FnTallyMergeCommutativeAssociativeWithZeroSaid :=
  OpenClaim.holds_of_wide 4 Trym.f4 rfl rfl rfl rfl rfl rfl rfl ⟨rfl, rfl, rfl, rfl, rfl⟩ rfl rfl rfl rfl rfl (by kernel_rfl) Trym.func4 (by kernel_rfl)
    (of_decide_eq_true (by kernel_rfl)) (by unfold Func.isWrapper; first | (rw [if_pos (by decide +kernel)]; kernel_rfl) | (rw [if_neg (by decide +kernel)]; exact ⟨rfl, rfl⟩))
    (fun os started H enc _ => comm_lifted os started H enc)
end Go.Proofs.Qxb6617332aMods
