import Derived.Test.Qxb6617332aModsFoldWalk
import Derived.ChangeOld
import Derived.Carry
import Derived.ProofKit
import Derived.Deep.Slices
namespace Go.Proofs.Qxb6617332aMods
open Go.ChangeShapes Go.WideShapes Go.ChangeAt Go.RowKit Go.Deep

theorem Trym.cells25 : Trym.prog.cellsOf 25 = 5 := by kernel_rfl
theorem Trym.one2 : Trym.prog.cellsOf 2 = 1 := by kernel_rfl
theorem Trym.one3 : Trym.prog.cellsOf 3 = 1 := by kernel_rfl
theorem Trym.one4 : Trym.prog.cellsOf 4 = 1 := by kernel_rfl

theorem list5 {α : Type} {cs : List α} (h : cs.length = 5) : ∃ c0 c1 c2 c3 c4, cs = [c0, c1, c2, c3, c4] := by
  match cs, h with
  | [c0, c1, c2, c3, c4], _ => exact ⟨c0, c1, c2, c3, c4, rfl⟩
theorem got {α : Type} {xs : List α} {i n : Nat} (h : xs.length = n) (hi : i < n) : ∃ y, xs[i]? = some y := ⟨xs[i], by simp⟩

/-- Where a cell is read the address is a plain one. -/
theorem plain_addr {w : World} {a : Addr} {v : Value} (h : w.cell? a = some v) : ∃ b off, a = ⟨b, off, none⟩ ∧ b < w.heap.size := by
  obtain ⟨b, off, sp⟩ := a
  unfold World.cell? at h
  simp only [] at h
  cases hb : w.heap[b]? with
  | none => simp [hb] at h
  | some o =>
    cases sp with
    | none => exact ⟨b, off, rfl, (Array.getElem?_eq_some_iff.1 hb).1⟩
    | some s => cases o <;> simp [hb] at h
theorem add_plain (b off n : Nat) : (⟨b, off, none⟩ : Addr).add n = ⟨b, off + n, none⟩ := by
  unfold Addr.add; split
  · rename_i h; subst h; rfl
  · rfl

theorem open_runs {H : Type} {enc : TypeId × Value → H} {W : World} {a : Option Addr} {len cap : Nat} {d : DataW H} {p : List MemPlace}
    (h : DataW.Trod enc Trym.prog W 0 (fun _ => true) true 22 (.slice a len cap) d p) : len ≤ maxLen ∧ ∃ R : Nat → Ru, LiesR W a len R := by
  obtain ⟨fuel, hf⟩ := h
  rcases open_slice Trym.underlying22 hf with ⟨hcs, _⟩ | ⟨x, len', cap', m, n, D, Pl, hcs, _, hl, hm, hmm, _, hx⟩
  · simp [Value.cells] at hcs
    obtain ⟨rfl, rfl, rfl⟩ := hcs
    exact ⟨Nat.zero_le _, fun _ => ⟨0, false, false, 0, 0⟩, ⟨fun h => absurd h (Nat.lt_irrefl _)⟩⟩
  · simp [Value.cells] at hcs
    obtain ⟨rfl, rfl, rfl⟩ := hcs
    refine ⟨Nat.le_trans hl hm, ?_⟩
    have hlm : len ≤ m := by rw [hmm]; simp; exact hl
    rw [Trym.cells25] at hx
    have each : ∀ i, i < len → ∃ r : Ru, W.cell? (x.add (i * 5)) = some (.int .i64 r.seed) ∧ W.cell? (x.add (i * 5 + 1)) = some (.bool r.viol) ∧ W.cell? (x.add (i * 5 + 2)) = some (.bool r.meas) ∧
        W.cell? (x.add (i * 5 + 3)) = some (.int .i64 r.rounds) ∧ W.cell? (x.add (i * 5 + 4)) = some (.int .i64 r.stab) := by
      intro i hi
      obtain ⟨cs', h1, h2⟩ := hx i (by omega)
      obtain ⟨_, hlen, hcell⟩ := World.cells?_some h1
      obtain ⟨c0, c1, c2, c3, c4, rfl⟩ := list5 hlen
      obtain ⟨xs, k, _, _, _, hxl, hfs⟩ := DataW.trod_struct Trym.underlying25 h2
      obtain ⟨y0, e0⟩ := got (i := 0) hxl (by decide)
      obtain ⟨y1, e1⟩ := got (i := 1) hxl (by decide)
      obtain ⟨y2, e2⟩ := got (i := 2) hxl (by decide)
      obtain ⟨y3, e3⟩ := got (i := 3) hxl (by decide)
      obtain ⟨y4, e4⟩ := got (i := 4) hxl (by decide)
      have f0 := (hfs 0 _ rfl).trans e0
      have f1 := (hfs 1 _ rfl).trans e1
      have f2 := (hfs 2 _ rfl).trans e2
      have f3 := (hfs 3 _ rfl).trans e3
      have f4 := (hfs 4 _ rfl).trans e4
      obtain ⟨a0, g0, _⟩ := DataW.trod_int Trym.underlying2 f0
      obtain ⟨a1, g1, _⟩ := DataW.trod_bool Trym.underlying4 f1
      obtain ⟨a2, g2, _⟩ := DataW.trod_bool Trym.underlying4 f2
      obtain ⟨a3, g3, _⟩ := DataW.trod_int Trym.underlying3 f3
      obtain ⟨a4, g4, _⟩ := DataW.trod_int Trym.underlying3 f4
      simp [Trym.one2] at g0
      simp [Trym.one4] at g1 g2
      simp [Trym.one3] at g3 g4
      subst g0 g1 g2 g3 g4
      have k0 := hcell 0 (by omega)
      have k1 := hcell 1 (by omega)
      have k2 := hcell 2 (by omega)
      have k3 := hcell 3 (by omega)
      have k4 := hcell 4 (by omega)
      rw [add_add] at k0 k1 k2 k3 k4
      exact ⟨⟨a0, a1, a2, a3, a4⟩, by simpa using k0, by simpa using k1, by simpa using k2, by simpa using k3, by simpa using k4⟩
    have : Inhabited Ru := ⟨⟨0, false, false, 0, 0⟩⟩
    obtain ⟨R, hR⟩ := choose_lt each
    refine ⟨R, ⟨fun hpos => ?_⟩⟩
    have h0 := (hR 0 hpos).1
    rw [Nat.zero_mul] at h0
    obtain ⟨b, off, e, hb⟩ := plain_addr h0
    have ex : x = ⟨b, off, none⟩ := by simpa [Addr.add] using e
    subst ex
    refine ⟨b, off, rfl, hb, fun i hi => ?_⟩
    have := hR i hi
    simpa only [add_plain, Nat.add_assoc] using this

theorem Trym.ownF : ownKnob Trym.prog.godebug = none := by kernel_rfl
theorem Trym.laidOutF : laidOutB Trym.prog = true := by kernel_rfl

set_option maxRecDepth 100000 in
theorem fold_lifted (os : Os) (started : os.Started) (H : Type) (enc : TypeId × Value → H) :
    ReturnsInHanded {} Trym.checked os 3 .any (Rows.fnTallyMergeFoldIsTallyOfRunsSpec.pre6 enc Trym.prog Trym.f3 Rows.fnTallyMergeFoldIsTallyOfRunsRow.domain false) (Rows.fnTallyMergeFoldIsTallyOfRunsSpec.post enc Trym.prog Trym.f3 false true false false) := by
  refine returnsInHanded_of_change (C := Trym.checked) Trym.ownF started (by kernel_rfl) Trym.func3
    (ChangeSpec.witness6 (enc := enc) (C := Trym.checked) false ⟨#[], #[.slice none 0 0, .int .i64 0, .int .i64 0], []⟩ 8 (by kernel_rfl) (by kernel_rfl) (by kernel_rfl) (by kernel_rfl)) ?_
  intro W base args ds gs before hval0 hW hcnd _
  have hval : ∀ (j : Nat) t v, Trym.f3.params[j]? = some t → args[j]? = some v → Value.okWide Trym.prog W .any base t v := hval0
  have hW' := hW
  obtain ⟨p, q, hA0, hV, rfl, hfz, hnd⟩ := hW
  have hA : DataW.TrodAll enc Trym.prog W 0 (fun _ => true) true Trym.f3.params.toList args.toList ds p := hA0
  rw [Trym.params3] at hA hval
  obtain ⟨v0, vs0, d0, ds0, p0, q0, hargs, rfl, rfl, h0, r0⟩ := trodAll_cons hA
  obtain ⟨v1, vs1, d1, ds1, p1, q1, rfl, rfl, rfl, h1, r1⟩ := trodAll_cons r0
  obtain ⟨v2, vs2, d2, ds2, p2, q2, rfl, rfl, rfl, h2, r2⟩ := trodAll_cons r1
  obtain ⟨rfl, rfl, rfl⟩ := trodAll_nil r2
  obtain rfl : args = #[v0, v1, v2] := by cases args; simp_all
  obtain ⟨rfl, rfl⟩ := trodVars_none hV
  obtain ⟨a0, len, cap, rfl⟩ := okWide_slice Trym.underlying22 (hval 0 22 v0 rfl rfl)
  obtain ⟨a1, rfl, rfl, rfl, w1⟩ := open_int Trym.underlying3 (hval 1 3 v1 rfl rfl) h1
  obtain ⟨a2, rfl, rfl, rfl, w2⟩ := open_int Trym.underlying3 (hval 2 3 v2 rfl rfl) h2
  have lt0 : ∀ x ∈ p0, x.block < W.heap.size := by obtain ⟨m, hm⟩ := h0; exact DataW.trod_lt m _ _ _ hm
  obtain ⟨hlen, R, hR⟩ := open_runs h0
  unfold maxLen at hlen
  clear hA0 hval0
  refine (fold_walk R a0 len cap a1 a2 W (by omega) hR).mono fun e W' ⟨he, bel⟩ => ?_
  subst he
  exact ⟨_, rfl, _, _, _, [], _, [], hW', trodAll_mk1 (shut_bool Trym.underlying4 _), (trodAll_mk3 (Below.trod Trym.laidOutF (by kernel_rfl) (of_decide_eq_true (by kernel_rfl)) h0 bel lt0) (shut_int Trym.underlying3 w1) (shut_int Trym.underlying3 w2)), rfl, bel.frame _, fun h => by cases h⟩

theorem foldProved : Rows.FnTallyMergeFoldIsTallyOfRunsSaid :=
  OpenClaim.holds_of_wide 3 Trym.f3 rfl rfl rfl rfl rfl rfl rfl ⟨rfl, rfl, rfl, rfl, rfl⟩ rfl rfl rfl rfl rfl (by kernel_rfl) Trym.func3 (by kernel_rfl)
    (of_decide_eq_true (by kernel_rfl)) (by unfold Func.isWrapper; first | (rw [if_pos (by decide +kernel)]; kernel_rfl) | (rw [if_neg (by decide +kernel)]; exact ⟨rfl, rfl⟩))
    (fun os started H enc _ => fold_lifted os started H enc)
end Go.Proofs.Qxb6617332aMods
