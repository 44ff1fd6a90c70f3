import Derived.Test.Qxb6617332aModsRows
import Derived.Test.Qxb6617332aModsMeterPlain
import Derived.WalkKit
import Derived.WalkSpells
import Derived.WalkLawsBesides
import Derived.BigRegion
import Derived.BigQuiet
import Derived.Deep.QuietTactic
import Derived.Deep.DeepCutAuto
import Derived.RowKit3
import Derived.Below
namespace Go.Proofs.Qxb6617332aMods
open Go.RowKit

/-- Block b holds the meter x, and may be written. -/
structure Am (w : World) (b : Nat) (x : Mt) : Prop where
  c0 : w.cell? ⟨b, 0, none⟩ = some (.int .i64 x.q)
  c1 : w.cell? ⟨b, 1, none⟩ = some (.int .i64 x.m)
  c2 : w.cell? ⟨b, 2, none⟩ = some (.int .i64 x.f)
  c3 : w.cell? ⟨b, 3, none⟩ = some (.int .i64 x.s)
  c4 : w.cell? ⟨b, 4, none⟩ = some (.int .i64 x.b)
  fz : ∀ i, w.frozen? ⟨b, i, none⟩ = false

/-- Of what was there block b alone may have turned. -/
structure Turn (b : Nat) (w w' : World) : Prop where
  os : w'.os = w.os
  tape : w'.tape = w.tape
  output : w'.output = w.output
  size : w.heap.size ≤ w'.heap.size
  block : ∀ k, k < w.heap.size → k ≠ b → w'.heap[k]? = w.heap[k]?

theorem Turn.refl (b : Nat) (w : World) : Turn b w w := ⟨rfl, rfl, rfl, Nat.le_refl _, fun _ _ _ => rfl⟩
theorem Turn.set {b : Nat} {w w' : World} (h : Turn b w w') (i : Nat) (v : Value) : Turn b w (w'.setCell ⟨b, i, none⟩ v) :=
  ⟨h.os, h.tape, h.output, by have := h.size; simp [World.setCell]; exact this, fun k hk hb => by rw [Below.heap_setCell _ _ _ _ hb]; exact h.block k hk hb⟩
theorem Turn.drew {b : Nat} {w w' : World} (h : Turn b w w') : Turn b w w'.drew := ⟨h.os, h.tape, h.output, h.size, h.block⟩
theorem Turn.drewN {b : Nat} {w w' : World} (h : Turn b w w') (n : Nat) : Turn b w (w'.drewN n) := ⟨h.os, h.tape, h.output, h.size, h.block⟩
theorem Turn.alloc {b : Nat} {w w' : World} (h : Turn b w w') (o : Obj) : Turn b w (w'.alloc o) :=
  ⟨h.os, h.tape, h.output, by have := h.size; simp; omega, fun k hk hb => by rw [Below.heap_alloc _ _ _ (by have := h.size; omega)]; exact h.block k hk hb⟩
theorem Turn.below {B b : Nat} {w w' : World} (h : Turn b w w') (hb : B ≤ b) (hs : B ≤ w.heap.size) : Below B w w' := ⟨h.os, h.tape, h.output, h.size, fun k hk => h.block k (by omega) (by omega)⟩

theorem Am.of_block {w w' : World} {b : Nat} {x : Mt} (h : Am w b x) (e : w'.heap[b]? = w.heap[b]?) : Am w' b x := by
  have hc : ∀ i, w'.cell? ⟨b, i, none⟩ = w.cell? ⟨b, i, none⟩ := fun i => World.cell?_of_block (w := w) (a := ⟨b, i, none⟩) e
  exact ⟨(hc 0).trans h.c0, (hc 1).trans h.c1, (hc 2).trans h.c2, (hc 3).trans h.c3, (hc 4).trans h.c4, fun i => (World.frozen?_of_block (w := w) (a := ⟨b, i, none⟩) e).trans (h.fz i)⟩
theorem Am.lt {w : World} {b : Nat} {x : Mt} (h : Am w b x) : b < w.heap.size := by
  rcases Nat.lt_or_ge b w.heap.size with h' | h'
  · exact h'
  · have := h.c0
    simp [World.cell?, Array.getElem?_eq_none h'] at this
theorem Am.turn {w w' : World} {b c : Nat} {x : Mt} (h : Am w b x) (t : Turn c w w') (hn : b ≠ c) : Am w' b x := h.of_block (t.block b h.lt hn)
theorem Am.below {w w' : World} {b B : Nat} {x : Mt} (h : Am w b x) (t : Below B w w') (hn : b < B) : Am w' b x := h.of_block (t.block b hn)

theorem am_set3 {w : World} {b : Nat} {x : Mt} (h : Am w b x) (v : Int) : Am (w.setCell ⟨b, 3, none⟩ (.int .i64 v)) b { x with s := v } := by
  obtain ⟨c0, c1, c2, c3, c4, f⟩ := h
  refine ⟨?_, ?_, ?_, ?_, ?_, ?_⟩ <;> (try intro i) <;> go_simp
theorem am_set2 {w : World} {b : Nat} {x : Mt} (h : Am w b x) (v : Int) : Am (w.setCell ⟨b, 2, none⟩ (.int .i64 v)) b { x with f := v } := by
  obtain ⟨c0, c1, c2, c3, c4, f⟩ := h
  refine ⟨?_, ?_, ?_, ?_, ?_, ?_⟩ <;> (try intro i) <;> go_simp
theorem am_set4 {w : World} {b : Nat} {x : Mt} (h : Am w b x) (v : Int) : Am (w.setCell ⟨b, 4, none⟩ (.int .i64 v)) b { x with b := v } := by
  obtain ⟨c0, c1, c2, c3, c4, f⟩ := h
  refine ⟨?_, ?_, ?_, ?_, ?_, ?_⟩ <;> (try intro i) <;> go_simp
theorem am_drew {w : World} {b : Nat} {x : Mt} (h : Am w b x) : Am w.drew b x := h.of_block rfl

/-- Inside a call of round: the meter so far, the traffic's box. -/
structure Rin (w : World) (mb : Nat) (msgs bits : Int) (wx : World) (x : Mt) : Prop where
  am : Am wx mb x
  turn : Turn mb w wx
  t0 : wx.cell? ⟨w.heap.size, 0, none⟩ = some (.int .i64 msgs)
  t1 : wx.cell? ⟨w.heap.size, 1, none⟩ = some (.int .i64 bits)

theorem Rin.start {w : World} {mb : Nat} {x : Mt} (h : Am w mb x) (msgs bits : Int) : Rin w mb msgs bits (w.alloc (.cells #[.int .i64 msgs, .int .i64 bits] 53)) x :=
  ⟨h.of_block (Below.heap_alloc _ _ _ h.lt), (Turn.refl _ _).alloc _, by go_simp, by go_simp⟩
theorem Rin.set {w wx : World} {mb : Nat} {msgs bits : Int} {x : Mt} (h : Rin w mb msgs bits wx x) (hl : mb < w.heap.size) (i : Nat) (v : Value) {y : Mt} (hy : Am (wx.setCell ⟨mb, i, none⟩ v) mb y) : Rin w mb msgs bits (wx.setCell ⟨mb, i, none⟩ v) y :=
  ⟨hy, h.turn.set i v, by rw [World.cell?_of_block (w := wx) (a := ⟨w.heap.size, 0, none⟩) (Below.heap_setCell _ _ _ _ (by show w.heap.size ≠ mb; omega))]; exact h.t0, by rw [World.cell?_of_block (w := wx) (a := ⟨w.heap.size, 1, none⟩) (Below.heap_setCell _ _ _ _ (by show w.heap.size ≠ mb; omega))]; exact h.t1⟩
theorem Rin.drew {w wx : World} {mb : Nat} {msgs bits : Int} {x : Mt} (h : Rin w mb msgs bits wx x) : Rin w mb msgs bits wx.drew x := ⟨am_drew h.am, h.turn.drew, h.t0, h.t1⟩

theorem stepS_t {x : Mt} {k msgs : Int} (h : sCond x k = true) : stepS x k msgs = { x with s := wrap64 (x.s + msgs) } := by simp [stepS, h]
theorem stepS_f {x : Mt} {k msgs : Int} (h : sCond x k = false) : stepS x k msgs = x := by simp [stepS, h]
theorem stepF_t {x : Mt} {k : Int} {c : Bool} (h : fCond x c = true) : stepF x k c = { x with f := k } := by simp [stepF, h]
theorem stepF_f {x : Mt} {k : Int} {c : Bool} (h : fCond x c = false) : stepF x k c = x := by simp [stepF, h]
theorem stepB_t {x : Mt} {k bits : Int} (h : bCond x k = true) : stepB x k bits = { x with b := wrap64 (x.b + bits) } := by simp [stepB, h]
theorem stepB_f {x : Mt} {k bits : Int} (h : bCond x k = false) : stepB x k bits = x := by simp [stepB, h]

set_option maxRecDepth 100000 in
set_option maxHeartbeats 1000000 in
/-- (*meter).round. -/
theorem round_any (w : World) (mb : Nat) (x : Mt) (k msgs bits : Int) (fired : Bool) (hm : Am w mb x) :
    Calls Trym.prog 21 #[.pointer (some ⟨mb, 0, none⟩), .int .i64 k, .agg #[.int .i64 msgs, .int .i64 bits], .bool fired] w fun e w' => e = .returned (.tuple #[]) ∧ Turn mb w w' ∧ Am w' mb (roundM x k msgs bits fired) := by
  have hl := hm.lt
  have h0 := Rin.start hm msgs bits
  clear hm
  go_enter Trym.func21, Trym.ntmps21
  go_upto_region 1 with fail
  go_cut [20] (fun s wx => s = .bool (sCond x k) ∧ Rin w mb msgs bits wx x)
  case first =>
    have H : Hid (sCond x k = decide (x.q = 0 ∨ k < x.q)) := rfl
    have H0 : Hid (Rin w mb msgs bits (w.alloc (.cells #[.int .i64 msgs, .int .i64 bits] 53)) x) := h0
    obtain ⟨⟨c0, c1, c2, c3, c4, f⟩, _, t0, t1⟩ := h0
    by_cases hq : x.q = 0
    · have hq' : (x.q == 0) = true := by simp [hq]
      have E : Hid (sCond x k = true) := by rw [Hid, H.out]; simp [hq]
      clear hq
      go_wp2_with fail
      go_meet
      case rel => exact ⟨by rw [E.out], H0.out⟩
    · have hq' : (x.q == 0) = false := by simp [hq]
      have E : Hid (sCond x k = decide (k < x.q)) := by rw [Hid, H.out]; simp [hq]
      clear hq
      go_wp2_with fail
      go_meet
      case rel => exact ⟨by rw [E.out], H0.out⟩
  case rest =>
  clear h0
  obtain ⟨rfl, h1⟩ := hcut
  go_upto_if 20 with fail
  go_cut [20] (fun s wx => Rin w mb msgs bits wx (stepS x k msgs))
  case first =>
    cases hg : sCond x k with
    | true =>
      have h2 := (h1.set hl 3 _ (am_set3 h1.am (wrap64 (x.s + msgs)))).drew
      rw [← stepS_t (msgs := msgs) hg] at h2
      have hz := h1.turn.size
      have H2 : Hid (Rin w mb msgs bits ((wc.setCell ⟨mb, 3, none⟩ (.int .i64 (wrap64 (x.s + msgs)))).drew) (stepS x k msgs)) := h2
      clear h2
      obtain ⟨⟨c0, c1, c2, c3, c4, f⟩, _, t0, t1⟩ := h1
      go_wp2
      go_region
      go_wp2_with fail
      go_meet
      case rel => exact H2.out
    | false =>
      have h2 := h1
      rw [← stepS_f (msgs := msgs) hg] at h2
      go_wp2_with fail
      go_meet
      case rel => exact h2
  case rest =>
  clear h1
  have h1 := hcut
  clear hcut
  generalize hx1 : stepS x k msgs = x1 at h1
  have Hx1 : Hid (stepS x k msgs = x1) := hx1
  clear hx1
  go_upto_region 3 with fail
  go_cut [3, 37] (fun s3 s wx => s3 = .bool fired ∧ s = .bool (fCond x1 fired) ∧ Rin w mb msgs bits wx x1)
  case first =>
    have H : Hid (fCond x1 fired = decide (fired = true ∧ x1.f = 0)) := rfl
    have H0 : Hid (Rin w mb msgs bits wc x1) := h1
    obtain ⟨⟨c0, c1, c2, c3, c4, f⟩, _, t0, t1⟩ := h1
    cases hf : fired with
    | true =>
      have E : Hid (fCond x1 true = (x1.f == 0)) := by rw [Hid, ← hf, H.out]; simp [hf]; rfl
      go_wp2_with fail
      go_meet
      case rel => exact ⟨by rw [hf], by rw [hf, E.out], H0.out⟩
    | false =>
      have E : Hid (fCond x1 false = false) := by rw [Hid, ← hf, H.out]; simp [hf]
      go_wp2_with fail
      go_meet
      case rel => exact ⟨by rw [hf], by rw [hf, E.out], H0.out⟩
  case rest =>
  clear h1
  obtain ⟨rfl, rfl, h1⟩ := hcut
  go_upto_if 37 with fail
  go_cut [37] (fun s wx => Rin w mb msgs bits wx (stepF x1 k fired))
  case first =>
    cases hg : fCond x1 fired with
    | true =>
      have h2 := h1.set hl 2 _ (am_set2 h1.am k)
      rw [← stepF_t (k := k) hg] at h2
      have H2 : Hid (Rin w mb msgs bits (wc.setCell ⟨mb, 2, none⟩ (.int .i64 k)) (stepF x1 k fired)) := h2
      clear h2
      obtain ⟨⟨c0, c1, c2, c3, c4, f⟩, _, t0, t1⟩ := h1
      go_wp2
      go_meet
      case rel => exact H2.out
    | false =>
      have h2 := h1
      rw [← stepF_f (k := k) hg] at h2
      go_wp2_with fail
      go_meet
      case rel => exact h2
  case rest =>
  clear h1
  have h1 := hcut
  clear hcut
  generalize hx2 : stepF x1 k fired = x2 at h1
  have Hx2 : Hid (stepF x1 k fired = x2) := hx2
  clear hx2
  go_upto_region 5 with fail
  go_cut [54] (fun s wx => s = .bool (bCond x2 k) ∧ Rin w mb msgs bits wx x2)
  case first =>
    have H : Hid (bCond x2 k = decide (x2.m ≤ k ∧ x2.f = 0)) := rfl
    have H0 : Hid (Rin w mb msgs bits wc x2) := h1
    obtain ⟨⟨c0, c1, c2, c3, c4, f⟩, _, t0, t1⟩ := h1
    by_cases hk : x2.m ≤ k
    · have E : Hid (bCond x2 k = (x2.f == 0)) := by rw [Hid, H.out]; simp [hk]; rfl
      go_wp2_with fail
      go_meet
      case rel => exact ⟨by rw [E.out], H0.out⟩
    · have E : Hid (bCond x2 k = false) := by rw [Hid, H.out]; simp [hk]
      go_wp2_with fail
      go_meet
      case rel => exact ⟨by rw [E.out], H0.out⟩
  case rest =>
  clear h1
  obtain ⟨rfl, h1⟩ := hcut
  go_upto_if 54 with fail
  have hfin : Hid (roundM x k msgs bits fired = stepB x2 k bits) := by rw [Hid, roundM, Hx1.out, Hx2.out]
  cases hg : bCond x2 k with
  | true =>
    have h2 := (h1.set hl 4 _ (am_set4 h1.am (wrap64 (x2.b + bits)))).drew
    rw [← stepB_t (bits := bits) hg, ← hfin.out] at h2
    have hz := h1.turn.size
    have H2 : Hid (Rin w mb msgs bits ((wc.setCell ⟨mb, 4, none⟩ (.int .i64 (wrap64 (x2.b + bits)))).drew) (roundM x k msgs bits fired)) := h2
    clear h2
    obtain ⟨⟨c0, c1, c2, c3, c4, f⟩, _, t0, t1⟩ := h1
    go_wp2
    go_region
    go_wp2_with fail
    go_end0
    exact ⟨rfl, H2.out.turn, H2.out.am⟩
  | false =>
    have h2 := h1
    rw [← stepB_f (bits := bits) hg, ← hfin.out] at h2
    go_wp2_with fail
    go_end0
    exact ⟨rfl, h2.turn, h2.am⟩

/-- scenario.ZZMeterRound. -/
theorem zzround_any (w : World) (mb : Nat) (x : Mt) (k msgs bits : Int) (fired : Bool) (hm : Am w mb x) :
    Calls Trym.prog 15 #[.pointer (some ⟨mb, 0, none⟩), .int .i64 k, .int .i64 msgs, .int .i64 bits, .bool fired] w fun e w' => e = .returned (.tuple #[]) ∧ Turn mb w w' ∧ Am w' mb (roundM x k msgs bits fired) := by
  go_enter Trym.func15, Trym.ntmps15
  go_wp2_with fail
  refine (round_any w mb x k msgs bits fired hm).mono ?_
  rintro e w' ⟨rfl, h1, h2⟩
  go_wp2_with fail
  go_end0
  exact ⟨rfl, h1, h2⟩

/-- scenario.ZZNewMeter. -/
theorem zznew_any (w : World) (q m f s b : Int) :
    Calls Trym.prog 14 #[.int .i64 q, .int .i64 m, .int .i64 f, .int .i64 s, .int .i64 b] w fun e w' => e = .returned (.pointer (some ⟨w.heap.size, 0, none⟩)) ∧ w' = w.alloc (.cells #[.int .i64 q, .int .i64 m, .int .i64 f, .int .i64 s, .int .i64 b] 50) := by
  go_enter Trym.func14, Trym.ntmps14
  go_wp2
  go_ret
  exact ⟨rfl, rfl⟩

/-- scenario.ZZMeterState. -/
theorem zzstate_any (w : World) (mb : Nat) (x : Mt) (hm : Am w mb x) :
    Calls Trym.prog 16 #[.pointer (some ⟨mb, 0, none⟩)] w fun e w' => e = .returned (.tuple #[.int .i64 x.q, .int .i64 x.m, .int .i64 x.f, .int .i64 x.s, .int .i64 x.b]) ∧ ∃ n, w' = w.drewN n := by
  obtain ⟨c0, c1, c2, c3, c4, f⟩ := hm
  go_enter Trym.func16, Trym.ntmps16
  go_wp2
  go_quiet (fail)
  go_wp2
  refine bodyPost_ret (v := .tuple #[.int .i64 x.q, .int .i64 x.m, .int .i64 x.f, .int .i64 x.s, .int .i64 x.b]) (by simp [results, Trym.results16, go_sem]) rfl ⟨rfl, _, rfl⟩

def w40 (v : Int) : Bool := decide (-1099511627776 ≤ v ∧ v ≤ 1099511627776)
/-- within40. -/
theorem within_any (w : World) (v : Int) : Calls Trym.prog 13 #[.int .i64 v] w fun e w' => e = .returned (.bool (w40 v)) ∧ w' = w := by
  unfold w40
  by_cases h : -1099511627776 ≤ v
  · go_enter Trym.func13, Trym.ntmps13
    go_wp2
    go_ret
    exact ⟨by simp [h], rfl⟩
  · go_enter Trym.func13, Trym.ntmps13
    go_wp2
    go_ret
    exact ⟨by simp; omega, rfl⟩
/-- zzBytes_FnMeterScriptCountsDocumentedRounds. -/
theorem zzbytes5_any (w : World) (a0 a1 a2 a3 a4 a5 : Int) (p : Option Addr) (len cap : Nat) (hl : len ≤ 9223372036854775807) :
    Calls Trym.prog 12 #[.int .i64 a0, .int .i64 a1, .int .i64 a2, .int .i64 a3, .int .i64 a4, .int .i64 a5, .slice p len cap] w fun e w' => e = .returned (.bool (decide (len ≤ 1048576))) ∧ w' = w := by
  by_cases h : len ≤ 1048576
  · go_enter Trym.func12, Trym.ntmps12
    go_wp2
    go_ret
    exact ⟨by simp [h], rfl⟩
  · go_enter Trym.func12, Trym.ntmps12
    go_wp2
    go_ret
    exact ⟨by simp; omega, rfl⟩
end Go.Proofs.Qxb6617332aMods
