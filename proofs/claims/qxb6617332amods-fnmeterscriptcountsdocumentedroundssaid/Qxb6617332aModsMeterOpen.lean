import Derived.Test.Qxb6617332aModsMeterF
import Derived.ProofKit
import Derived.Deep.Slices
namespace Go.Proofs.Qxb6617332aMods
open Go.ChangeShapes Go.WideShapes Go.ChangeAt Go.RowKit Go.Deep

theorem Trym.cells39 : Trym.prog.cellsOf 39 = 5 := by kernel_rfl
theorem Trym.one3 : Trym.prog.cellsOf 3 = 1 := by kernel_rfl
theorem Trym.one4 : Trym.prog.cellsOf 4 = 1 := by kernel_rfl

theorem list5 {α : Type} {cs : List α} (h : cs.length = 5) : ∃ c0 c1 c2 c3 c4, cs = [c0, c1, c2, c3, c4] := by
  match cs, h with
  | [c0, c1, c2, c3, c4], _ => exact ⟨c0, c1, c2, c3, c4, rfl⟩
theorem got {α : Type} {xs : List α} {i n : Nat} (h : xs.length = n) (hi : i < n) : ∃ y, xs[i]? = some y := ⟨xs[i], by simp⟩

/-- Where a cell is read the address is a plain one. -/
theorem plain_addr {w : World} {a : Addr} {v : Value} (h : w.cell? a = some v) : ∃ b off, a = ⟨b, off, none⟩ ∧ b < w.heap.size := by
  obtain ⟨b, off, sp⟩ := a
  unfold World.cell? at h
  simp only [] at h
  cases hb : w.heap[b]? with
  | none => simp [hb] at h
  | some o =>
    cases sp with
    | none => exact ⟨b, off, rfl, (Array.getElem?_eq_some_iff.1 hb).1⟩
    | some s => cases o <;> simp [hb] at h
theorem add_plain (b off n : Nat) : (⟨b, off, none⟩ : Addr).add n = ⟨b, off + n, none⟩ := by
  unfold Addr.add; split
  · rename_i h; subst h; rfl
  · rfl

theorem open_rounds {H : Type} {enc : TypeId × Value → H} {W : World} {a : Option Addr} {len cap : Nat} {d : DataW H} {p : List MemPlace}
    (h : DataW.Trod enc Trym.prog W 0 (fun _ => true) true 36 (.slice a len cap) d p) : len ≤ maxLen ∧ ∃ R : Nat → Rd, Lies W a len R := by
  obtain ⟨fuel, hf⟩ := h
  rcases open_slice Trym.underlying36 hf with ⟨hcs, _⟩ | ⟨x, len', cap', m, n, D, Pl, hcs, _, hl, hm, hmm, _, hx⟩
  · simp [Value.cells] at hcs
    obtain ⟨rfl, rfl, rfl⟩ := hcs
    exact ⟨Nat.zero_le _, fun _ => ⟨0, 0, 0, 0, false⟩, ⟨fun h => absurd h (Nat.lt_irrefl _)⟩⟩
  · simp [Value.cells] at hcs
    obtain ⟨rfl, rfl, rfl⟩ := hcs
    refine ⟨Nat.le_trans hl hm, ?_⟩
    have hlm : len ≤ m := by rw [hmm]; simp; exact hl
    rw [Trym.cells39] at hx
    have each : ∀ i, i < len → ∃ r : Rd, W.cell? (x.add (i * 5)) = some (.int .i64 r.msg) ∧ W.cell? (x.add (i * 5 + 1)) = some (.int .i64 r.bit) ∧ W.cell? (x.add (i * 5 + 2)) = some (.int .i64 r.smsg) ∧
        W.cell? (x.add (i * 5 + 3)) = some (.int .i64 r.sbit) ∧ W.cell? (x.add (i * 5 + 4)) = some (.bool r.fired) := by
      intro i hi
      obtain ⟨cs', h1, h2⟩ := hx i (by omega)
      obtain ⟨_, hlen, hcell⟩ := World.cells?_some h1
      obtain ⟨c0, c1, c2, c3, c4, rfl⟩ := list5 hlen
      obtain ⟨xs, k, _, _, _, hxl, hfs⟩ := DataW.trod_struct Trym.underlying39 h2
      obtain ⟨y0, e0⟩ := got (i := 0) hxl (by decide)
      obtain ⟨y1, e1⟩ := got (i := 1) hxl (by decide)
      obtain ⟨y2, e2⟩ := got (i := 2) hxl (by decide)
      obtain ⟨y3, e3⟩ := got (i := 3) hxl (by decide)
      obtain ⟨y4, e4⟩ := got (i := 4) hxl (by decide)
      have f0 := (hfs 0 _ rfl).trans e0
      have f1 := (hfs 1 _ rfl).trans e1
      have f2 := (hfs 2 _ rfl).trans e2
      have f3 := (hfs 3 _ rfl).trans e3
      have f4 := (hfs 4 _ rfl).trans e4
      obtain ⟨a0, g0, _⟩ := DataW.trod_int Trym.underlying3 f0
      obtain ⟨a1, g1, _⟩ := DataW.trod_int Trym.underlying3 f1
      obtain ⟨a2, g2, _⟩ := DataW.trod_int Trym.underlying3 f2
      obtain ⟨a3, g3, _⟩ := DataW.trod_int Trym.underlying3 f3
      obtain ⟨a4, g4, _⟩ := DataW.trod_bool Trym.underlying4 f4
      simp [Trym.one3] at g0 g1 g2 g3
      simp [Trym.one4] at g4
      subst g0 g1 g2 g3 g4
      have k0 := hcell 0 (by omega)
      have k1 := hcell 1 (by omega)
      have k2 := hcell 2 (by omega)
      have k3 := hcell 3 (by omega)
      have k4 := hcell 4 (by omega)
      rw [add_add] at k0 k1 k2 k3 k4
      exact ⟨⟨a0, a1, a2, a3, a4⟩, by simpa using k0, by simpa using k1, by simpa using k2, by simpa using k3, by simpa using k4⟩
    have : Inhabited Rd := ⟨⟨0, 0, 0, 0, false⟩⟩
    obtain ⟨R, hR⟩ := choose_lt each
    refine ⟨R, ⟨fun hpos => ?_⟩⟩
    have h0 := (hR 0 hpos).1
    rw [Nat.zero_mul] at h0
    obtain ⟨b, off, e, hb⟩ := plain_addr h0
    have ex : x = ⟨b, off, none⟩ := by simpa [Addr.add] using e
    subst ex
    refine ⟨b, off, rfl, hb, fun i hi => ?_⟩
    have := hR i hi
    simpa only [add_plain, Nat.add_assoc] using this
end Go.Proofs.Qxb6617332aMods
