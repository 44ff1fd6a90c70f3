import Derived.Test.Qxb6618153aModsRows
import Derived.WalkKit
import Derived.WalkSpells
import Derived.WalkLawsBesides
import Derived.BigRegion
import Derived.BigQuiet
import Derived.Deep.QuietTactic
import Derived.Deep.DeepCutAuto
import Derived.Deep.LoopGhost
import Derived.Deep.CutBlock
import Derived.RowKit3
import Derived.Below
namespace Go.Proofs.Qxb6618153aMods
open Go.RowKit

/-- A slice of integers: its elements lie in memory. -/
structure Ls (k : IntKind) (w : World) (p : Option Addr) (len : Nat) (z : Nat → Int) : Prop where
  lies : 0 < len → ∃ b off, p = some ⟨b, off, none⟩ ∧ b < w.heap.size ∧ ∀ i, i < len → w.cell? ⟨b, off + i, none⟩ = some (.int k (z i))

theorem Ls.below {k : IntKind} {w w' : World} {B : Nat} {p : Option Addr} {len : Nat} {z : Nat → Int} (h : Ls k w p len z) (hb : Below B w w') (hB : w.heap.size ≤ B) : Ls k w' p len z := by
  refine ⟨fun hl => ?_⟩
  obtain ⟨b, off, rfl, hlt, hc⟩ := h.lies hl
  have hlt' : b < B := by omega
  exact ⟨b, off, rfl, Nat.lt_of_lt_of_le hlt hb.size, fun i hi => (hb.cell (p := ⟨b, _, none⟩) hlt').trans (hc i hi)⟩

/-- A column in block cb. -/
structure Col (w : World) (cb : Nat) (p : Option Addr) (len cap : Nat) (pe : Option Addr) (le ce : Nat) : Prop where
  c0 : w.cell? ⟨cb, 0, none⟩ = some (.slice p len cap)
  c1 : w.cell? ⟨cb, 1, none⟩ = some (.slice pe le ce)

theorem add_plain (b off n : Nat) : (⟨b, off, none⟩ : Addr).add n = ⟨b, off + n, none⟩ := by
  unfold Addr.add; split
  · rename_i h; subst h; rfl
  · rfl
/-- A part of a slice. -/
theorem Ls.sub {k : IntKind} {w : World} {p : Option Addr} {len : Nat} {z : Nat → Int} (h : Ls k w p len z) (s e cap : Nat) (h2 : e ≤ len) (h3 : len ≤ cap) :
    Ls k w (if cap = s then p else p.map (·.add s)) (e - s) (fun i => z (s + i)) := by
  refine ⟨fun hp => ?_⟩
  obtain ⟨b, off, rfl, hb, hc⟩ := h.lies (by omega)
  rw [if_neg (by omega)]
  refine ⟨b, off + s, by rw [Option.map_some, add_plain], hb, fun i hi => ?_⟩
  rw [Nat.add_assoc]
  exact hc (s + i) (by omega)

set_option maxRecDepth 100000 in
theorem value_pos (w : World) (cb : Nat) (p : Option Addr) (len cap : Nat) (be oe le ce r s e : Nat) (hC : Col w cb p len cap (some ⟨be, oe, none⟩) le ce) (hr : 0 < r) (hr2 : r < le)
    (k1 : w.cell? ⟨be, oe + (r - 1), none⟩ = some (.int .i64 s)) (k2 : w.cell? ⟨be, oe + r, none⟩ = some (.int .i64 e)) (b2 : s ≤ e) (b3 : e ≤ len) (b4 : len ≤ cap) (b5 : le ≤ 70000) :
    Calls Trym.prog 6 #[.pointer (some ⟨cb, 0, none⟩), .int .i64 r] w fun x w' => x = .returned (.slice (if cap = s then p else p.map (·.add s)) (e - s) (cap - s)) ∧ ∃ n, w' = w.drewN n := by
  obtain ⟨c0, c1⟩ := hC
  by_cases hcs : cap = s
  · go_enter Trym.func6, Trym.ntmps6
    go_wp2
    go_quiet (fail)
    go_wp2
    go_ret
    exact ⟨by simp, _, rfl⟩
  · go_enter Trym.func6, Trym.ntmps6
    go_wp2
    go_quiet (fail)
    go_wp2
    go_ret
    exact ⟨by simp, _, rfl⟩

set_option maxRecDepth 100000 in
theorem value_zero (w : World) (cb : Nat) (p : Option Addr) (len cap : Nat) (be oe le ce e : Nat) (hC : Col w cb p len cap (some ⟨be, oe, none⟩) le ce) (hr2 : 0 < le)
    (k2 : w.cell? ⟨be, oe, none⟩ = some (.int .i64 e)) (b3 : e ≤ len) (b4 : len ≤ cap) (_b5 : le ≤ 70000) :
    Calls Trym.prog 6 #[.pointer (some ⟨cb, 0, none⟩), .int .i64 0] w fun x w' => x = .returned (.slice p e cap) ∧ ∃ n, w' = w.drewN n := by
  obtain ⟨c0, c1⟩ := hC
  by_cases hcs : cap = 0
  · go_enter Trym.func6, Trym.ntmps6
    go_wp2
    go_quiet (fail)
    go_wp2
    go_ret
    exact ⟨by simp [hcs], _, rfl⟩
  · go_enter Trym.func6, Trym.ntmps6
    go_wp2
    go_quiet (fail)
    go_wp2
    go_ret
    exact ⟨by simp, _, rfl⟩

/-- Where row r begins. -/
def st (E : Nat → Nat) (r : Nat) : Nat := if r = 0 then 0 else E (r - 1)

/-- (*Strings).Value. -/
theorem value_any (w : World) (cb : Nat) (p : Option Addr) (len cap : Nat) (pe : Option Addr) (le ce r : Nat) (z ze : Nat → Int) (E : Nat → Nat) (hC : Col w cb p len cap pe le ce) (he : Ls .i64 w pe le ze)
    (hr : r < le) (hE : ∀ i, i ≤ r → ze i = E i) (b2 : st E r ≤ E r) (b3 : E r ≤ len) (b4 : len ≤ cap) (b5 : le ≤ 70000) :
    Calls Trym.prog 6 #[.pointer (some ⟨cb, 0, none⟩), .int .i64 r] w fun x w' => ∃ p' cap', x = .returned (.slice p' (E r - st E r) cap') ∧ (∀ w0, Ls .u8 w0 p len z → Ls .u8 w0 p' (E r - st E r) (fun i => z (st E r + i))) ∧ ∃ n, w' = w.drewN n := by
  obtain ⟨be, oe, rfl, _, hc⟩ := he.lies (by omega)
  rcases Nat.eq_zero_or_pos r with h | h
  · subst h
    have k2 := hc 0 hr
    rw [hE 0 (Nat.le_refl _)] at k2
    refine (value_zero w cb p len cap be oe le ce (E 0) hC hr k2 b3 b4 b5).mono ?_
    rintro x w' ⟨rfl, n, rfl⟩
    refine ⟨p, cap, rfl, fun w0 hz => ⟨fun hp => ?_⟩, n, rfl⟩
    obtain ⟨b, off, rfl, hb, hc'⟩ := hz.lies (by simp [st] at hp; omega)
    exact ⟨b, off, rfl, hb, fun i hi => by simp [st] at hi ⊢; exact hc' i (by omega)⟩
  · have k2 := hc r hr
    have k1 := hc (r - 1) (by omega)
    rw [hE r (Nat.le_refl _)] at k2
    rw [hE (r - 1) (by omega)] at k1
    have es : E (r - 1) = st E r := by unfold st; rw [if_neg (by omega)]
    rw [es] at k1
    refine (value_pos w cb p len cap be oe le ce r (st E r) (E r) hC h hr k1 k2 b2 b3 b4 b5).mono ?_
    rintro x w' ⟨rfl, n, rfl⟩
    exact ⟨_, _, rfl, fun w0 hz => hz.sub (st E r) (E r) cap b3 b4, n, rfl⟩

/-- The first n elements, as cells. -/
def bts (z : Nat → Int) (n : Nat) : List Value := (List.range n).map (fun i => Value.int .u8 (z i))
theorem bts_len (z : Nat → Int) (n : Nat) : (bts z n).length = n := by simp [bts]
theorem bts_succ (z : Nat → Int) (n : Nat) : bts z (n + 1) = bts z n ++ [.int .u8 (z n)] := by simp [bts, List.range_succ]
theorem own_slice {w : World} {base n size : Nat} {e : TypeId} {v : Value} {xs : List Value} (h : w.ownsRow base e size v n xs) : ∃ q c, v = .slice q n c := by
  rcases h.2 with ⟨hv, h0⟩ | ⟨g, cap, _, hv, _⟩
  · exact ⟨none, 0, by rw [hv, h0]⟩
  · exact ⟨_, cap, hv⟩
theorem own_ls {w : World} {base n c : Nat} {e : TypeId} {q : Option Addr} {z : Nat → Int} (h : w.ownsRow base e 1 (.slice q n c) n (bts z n)) : Ls .u8 w q n z := by
  refine ⟨fun hp => ?_⟩
  rcases h.2 with ⟨_, h0⟩ | ⟨g, cap, cur, hv, _, hh, h1, _, h3, h4⟩
  · omega
  · simp only [Value.slice.injEq] at hv
    obtain ⟨rfl, _, rfl⟩ := hv
    refine ⟨g, 0, rfl, (Array.getElem?_eq_some_iff.1 hh).1, fun i hi => ?_⟩
    have e1 : w.cell? ⟨g, 0 + i, none⟩ = cur[i]? := by simp [World.cell?, hh]
    rw [e1]
    have e2 : (cur.toList.take (n * 1))[i]? = some (.int .u8 (z i)) := by rw [h4]; simp [bts, hi]
    rw [List.getElem?_take] at e2
    split at e2
    · simpa using e2
    · cases e2
end Go.Proofs.Qxb6618153aMods
