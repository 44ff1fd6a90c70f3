import Derived.Test.Qxb6618153aModsValue
namespace Go.Proofs.Qxb6618153aMods
open Go.RowKit

theorem Trym.info5 : (Trym.prog.info? 5).map (fun i => (i.zero, i.size, i.bytes)) = some (some (.int .u8 0), 1, 1) := by kernel_rfl

/-- What zzBytes answers. -/
def zz (lb le : Nat) : Bool := decide (lb ≤ 1048576 ∧ le ≤ 1048576 ∧ lb + le ≤ 1048576)

/-- prev ahead of row i. -/
def pv (ze : Nat → Int) (i : Nat) : Int := if i = 0 then 0 else ze (i - 1)
theorem pv_succ (ze : Nat → Int) (k : Nat) : pv ze (k + 1) = ze k := by simp [pv]
/-- The ends of the first n rows climb within lb. -/
def Good (ze : Nat → Int) (lb : Nat) (n : Nat) : Prop := ∀ i, i < n → pv ze i ≤ ze i ∧ ze i ≤ lb
theorem good_nn {ze : Nat → Int} {lb n : Nat} (h : Good ze lb n) : ∀ i, i < n → 0 ≤ ze i := by
  intro i
  induction i with
  | zero => intro hi; have := (h 0 hi).1; simpa [pv] using this
  | succ i ih => intro hi; have := (h (i + 1) hi).1; rw [pv_succ] at this; have := ih (by omega); omega
/-- The ends as plain numbers. -/
def ends (ze : Nat → Int) (i : Nat) : Nat := (ze i).toNat
theorem ends_is {ze : Nat → Int} {lb n : Nat} (h : Good ze lb n) {i : Nat} (hi : i < n) : ze i = ends ze i := by
  have := good_nn h i hi; unfold ends; omega
theorem ends_le {ze : Nat → Int} {lb n : Nat} (h : Good ze lb n) {i : Nat} (hi : i < n) : ends ze i ≤ lb := by
  have := (h i hi).2; unfold ends; omega
theorem ends_mono {ze : Nat → Int} {lb n : Nat} (h : Good ze lb n) {i : Nat} (hi : i < n) : st (ends ze) i ≤ ends ze i := by
  have h1 := (h i hi).1
  unfold st
  split
  · omega
  · rename_i hne
    have e : pv ze i = ze (i - 1) := by simp [pv, hne]
    rw [e] at h1
    unfold ends; omega


set_option maxRecDepth 100000 in
/-- zzBytes_FnStringsValueLiesBackToBack. -/
theorem zzbytes_any (w : World) (p pe : Option Addr) (lb cb le ce : Nat) (row : Int) (h1 : lb ≤ 9223372036854775807) (h2 : le ≤ 9223372036854775807) :
    Calls Trym.prog 5 #[.slice p lb cb, .slice pe le ce, .int .i64 row] w fun e w' => e = .returned (.bool (zz lb le)) ∧ w' = w := by
  by_cases a : lb ≤ 1048576
  · by_cases b : le ≤ 1048576
    · by_cases c : lb + le ≤ 1048576
      · have hz : Hid (zz lb le = true) := by simp [Hid, zz]; omega
        go_enter Trym.func5, Trym.ntmps5
        go_wp2
        go_ret
        exact ⟨by rw [hz.out]; rfl, rfl⟩
      · have hz : Hid (zz lb le = false) := by simp [Hid, zz]; omega
        go_enter Trym.func5, Trym.ntmps5
        go_wp2
        go_ret
        exact ⟨by rw [hz.out]; rfl, rfl⟩
    · have hz : Hid (zz lb le = false) := by simp [Hid, zz]; omega
      go_enter Trym.func5, Trym.ntmps5
      go_wp2
      go_ret
      exact ⟨by rw [hz.out]; rfl, rfl⟩
  · have hz : Hid (zz lb le = false) := by simp [Hid, zz]; omega
    go_enter Trym.func5, Trym.ntmps5
    go_wp2
    go_ret
    exact ⟨by rw [hz.out]; rfl, rfl⟩

set_option maxRecDepth 100000 in
set_option maxHeartbeats 4000000 in
theorem early1 (p pe : Option Addr) (lb cb le ce : Nat) (row : Int) (w : World) (g1 : lb ≤ 9223372036854775807) (g2 : le ≤ 9223372036854775807) (hd : zz lb le = false) :
    Calls Trym.prog 3 #[.slice p lb cb, .slice pe le ce, .int .i64 row] w fun e w' => e = .returned (.bool true) ∧ Below w.heap.size w w' := by
  go_enter Trym.func3, Trym.ntmps3
  go_wp2_with fail
  refine (zzbytes_any w p pe lb cb le ce row g1 g2).mono ?_
  rintro e w' ⟨rfl, rfl⟩
  rw [hd]
  go_wp2_with fail
  go_ret
  exact ⟨rfl, Below.refl _ _⟩

set_option maxRecDepth 100000 in
set_option maxHeartbeats 4000000 in
theorem early2 (p pe : Option Addr) (lb cb le ce : Nat) (row : Int) (w : World) (g1 : lb ≤ 9223372036854775807) (g2 : le ≤ 9223372036854775807) (hd : zz lb le = true) (h2 : ¬ lb ≤ 524288) :
    Calls Trym.prog 3 #[.slice p lb cb, .slice pe le ce, .int .i64 row] w fun e w' => e = .returned (.bool true) ∧ Below w.heap.size w w' := by
  go_enter Trym.func3, Trym.ntmps3
  go_wp2_with fail
  refine (zzbytes_any w p pe lb cb le ce row g1 g2).mono ?_
  rintro e w' ⟨rfl, rfl⟩
  rw [hd]
  go_wp2_with fail
  go_ret
  exact ⟨rfl, Below.refl _ _⟩

set_option maxRecDepth 100000 in
set_option maxHeartbeats 4000000 in
theorem early3 (p pe : Option Addr) (lb cb le ce : Nat) (row : Int) (w : World) (g1 : lb ≤ 9223372036854775807) (g2 : le ≤ 9223372036854775807) (hd : zz lb le = true) (h2 : lb ≤ 524288) (h3 : ¬ le ≤ 65536) :
    Calls Trym.prog 3 #[.slice p lb cb, .slice pe le ce, .int .i64 row] w fun e w' => e = .returned (.bool true) ∧ Below w.heap.size w w' := by
  go_enter Trym.func3, Trym.ntmps3
  go_wp2_with fail
  refine (zzbytes_any w p pe lb cb le ce row g1 g2).mono ?_
  rintro e w' ⟨rfl, rfl⟩
  rw [hd]
  go_wp2_with fail
  go_ret
  exact ⟨rfl, Below.refl _ _⟩

set_option maxRecDepth 100000 in
set_option maxHeartbeats 4000000 in
theorem early4 (p pe : Option Addr) (lb cb le ce : Nat) (row : Int) (w : World) (g1 : lb ≤ 9223372036854775807) (g2 : le ≤ 9223372036854775807) (hd : zz lb le = true) (h2 : lb ≤ 524288) (h3 : le ≤ 65536) (h4 : row < 0) :
    Calls Trym.prog 3 #[.slice p lb cb, .slice pe le ce, .int .i64 row] w fun e w' => e = .returned (.bool true) ∧ Below w.heap.size w w' := by
  go_enter Trym.func3, Trym.ntmps3
  go_wp2_with fail
  refine (zzbytes_any w p pe lb cb le ce row g1 g2).mono ?_
  rintro e w' ⟨rfl, rfl⟩
  rw [hd]
  go_wp2_with fail
  go_ret
  exact ⟨rfl, Below.refl _ _⟩

set_option maxRecDepth 100000 in
set_option maxHeartbeats 4000000 in
theorem early5 (p pe : Option Addr) (lb cb le ce : Nat) (row : Int) (w : World) (g1 : lb ≤ 9223372036854775807) (g2 : le ≤ 9223372036854775807) (hd : zz lb le = true) (h2 : lb ≤ 524288) (h3 : le ≤ 65536) (h4 : 0 ≤ row) (h5 : (le : Int) ≤ row) :
    Calls Trym.prog 3 #[.slice p lb cb, .slice pe le ce, .int .i64 row] w fun e w' => e = .returned (.bool true) ∧ Below w.heap.size w w' := by
  go_enter Trym.func3, Trym.ntmps3
  go_wp2_with fail
  refine (zzbytes_any w p pe lb cb le ce row g1 g2).mono ?_
  rintro e w' ⟨rfl, rfl⟩
  rw [hd]
  go_wp2_with fail
  go_ret
  exact ⟨rfl, Below.refl _ _⟩

/-- Inside the second loop: the column, what has been joined. -/
structure Jn (w : World) (p : Option Addr) (lb cb : Nat) (pe : Option Addr) (le ce : Nat) (z : Nat → Int) (wx : World) (v : Value) (n : Nat) : Prop where
  below : Below w.heap.size w wx
  col : Col wx w.heap.size p lb cb pe le ce
  big : w.heap.size + 1 ≤ wx.heap.size
  own : wx.ownsRow (w.heap.size + 1) 5 1 v n (bts z n)

theorem Jn.start {w : World} {p : Option Addr} {lb cb : Nat} {pe : Option Addr} {le ce : Nat} {z : Nat → Int} :
    Jn w p lb cb pe le ce z (w.alloc (.cells #[.slice p lb cb, .slice pe le ce] 27)) (.slice none 0 0) 0 :=
  ⟨(Below.refl _ _).alloc (Nat.le_refl _) _, ⟨by go_simp, by go_simp⟩, by simp, World.ownsRow_nil _ _ _ _⟩
theorem Col.of_block {w w' : World} {cb : Nat} {p : Option Addr} {len cap : Nat} {pe : Option Addr} {le ce : Nat} (h : Col w cb p len cap pe le ce) (e : w'.heap[cb]? = w.heap[cb]?) : Col w' cb p len cap pe le ce :=
  ⟨(World.cell?_of_block (w := w) (a := ⟨cb, 0, none⟩) e).trans h.c0, (World.cell?_of_block (w := w) (a := ⟨cb, 1, none⟩) e).trans h.c1⟩
theorem Jn.drewN {w : World} {p : Option Addr} {lb cb : Nat} {pe : Option Addr} {le ce : Nat} {z : Nat → Int} {wx : World} {v : Value} {n : Nat} (h : Jn w p lb cb pe le ce z wx v n) (m : Nat) : Jn w p lb cb pe le ce z (wx.drewN m) v n :=
  ⟨⟨h.below.os, h.below.tape, h.below.output, h.below.size, h.below.block⟩, h.col.of_block rfl, h.big, h.own⟩
theorem Jn.grow {w : World} {p : Option Addr} {lb cb : Nat} {pe : Option Addr} {le ce : Nat} {z : Nat → Int} {wx w1 : World} {v v' : Value} {n : Nat} {o : Obj} (h : Jn w p lb cb pe le ce z wx v n)
    (hown : w1.ownsRow (w.heap.size + 1) 5 1 v' (n + 1) (bts z n ++ [.int .u8 (z n)])) (hg : (wx.alloc o).grownBy w1 v.ownBlock) : Jn w p lb cb pe le ce z w1 v' (n + 1) := by
  have hb := h.big
  have hz := hg.size
  have hz2 := h.below.size
  simp at hz
  have hr : ∀ k, v.ownBlock = some k → w.heap.size + 1 ≤ k := by
    intro k hk
    rcases h.own.2 with ⟨hv, _⟩ | ⟨g, cap, cur, hv, hbg, _⟩
    · rw [hv] at hk; cases hk
    · rw [hv] at hk; simp [Value.ownBlock] at hk; omega
  refine ⟨(h.below.alloc h.below.size o).grown hg (by simp; omega) (fun k hk => by have := hr k hk; omega), ?_, by omega, by rw [bts_succ]; exact hown⟩
  refine h.col.of_block ?_
  rw [hg.block w.heap.size (by simp; omega) (fun e => by have := hr _ e.symm; omega)]
  exact Below.heap_alloc _ _ _ (by omega)

set_option maxRecDepth 100000 in
set_option maxHeartbeats 4000000 in
theorem lies_main (z ze : Nat → Int) (p pe : Option Addr) (lb cb le ce row : Nat) (w : World) (hz : Ls .u8 w p lb z) (he : Ls .i64 w pe le ze) (hcap : lb ≤ cb) (hd : zz lb le = true) (hlb : lb ≤ 524288) (hle : le ≤ 65536) (hrow : row < le) :
    Calls Trym.prog 3 #[.slice p lb cb, .slice pe le ce, .int .i64 (row : Int)] w fun e w' => e = .returned (.bool true) ∧ Below w.heap.size w w' := by
  have b1 : decide ((524288 : Int) < (lb : Int)) = false := by simp; omega
  have b2 : decide ((65536 : Int) < (le : Int)) = false := by simp; omega
  have b3 : decide ((row : Int) < 0) = false := by simp
  have b4 : decide (le ≤ row) = false := by simp; omega
  obtain ⟨i0, hi, hz0, hz1, hz2⟩ := info_parts Trym.info5
  go_enter Trym.func3, Trym.ntmps3
  go_wp2_with fail
  refine (zzbytes_any w p pe lb cb le ce row (by omega) (by omega)).mono ?_
  rintro e w' ⟨rfl, hw⟩
  obtain rfl : w = w' := hw.symm
  rw [hd]
  clear hd
  go_upto_block 0 with fail
  go_cut [7, 8] (fun _ _ wx => Good ze lb (row + 1) ∧ w = wx)
  case first => as_aux_lemma =>
    go_wp2_with fail
    go_loopg [7, 8] (row + 1) (fun g a i wx => ∃ k : Nat, g + k = row + 1 ∧ i = .int .i64 (k : Int) ∧ a = .int .i64 (pv ze k) ∧ Good ze lb k ∧ w = wx)
    case atStart => exact ⟨0, rfl, rfl, rfl, fun i hi => absurd hi (Nat.not_lt_zero _), rfl⟩
    case round =>
      obtain ⟨k, hg, rfl, rfl, hG, rfl⟩ := hrel
      by_cases hlt : k ≤ row
      · obtain ⟨be, oe, rfl, hbe, hcells⟩ := he.lies (by omega)
        have c0 := hcells k (by omega)
        clear hcells
        have hkle : k < le := by omega
        by_cases h1 : ze k < pv ze k
        · go_wp2
          go_ret
          exact ⟨rfl, Below.refl _ _⟩
        · by_cases h2 : (lb : Int) < ze k
          · go_wp2
            go_ret
            exact ⟨rfl, Below.refl _ _⟩
          · have HG : Hid (Good ze lb (k + 1)) := by
              intro i hi
              rcases Nat.lt_succ_iff_lt_or_eq.1 hi with h' | h'
              · exact hG i h'
              · rw [h']; omega
            have HP : Hid (pv ze (k + 1) = ze k) := pv_succ ze k
            clear hG
            go_wp2
            go_roundg (gk - 1)
            case measure => omega
            case rel => exact ⟨k + 1, by omega, by go_num, by rw [HP.out], HG.out, rfl⟩
      · have HG : Hid (Good ze lb (row + 1)) := by rw [show row + 1 = k by omega]; exact hG
        go_wp2
        go_meet
        case rel => exact ⟨HG.out, rfl⟩
  case rest =>
  obtain ⟨hG, rfl⟩ := hcut
  have h0 := Jn.start (w := w) (p := p) (lb := lb) (cb := cb) (pe := pe) (le := le) (ce := ce) (z := z)
  go_upto_block 2 with fail
  go_cut [10, 11, 12, 13] (fun v _ _ _ wx => ∃ q c, v = .slice q (ends ze row) c ∧ Jn w p lb cb pe le ce z wx (.slice q (ends ze row) c) (ends ze row))
  case first => as_aux_lemma =>
    go_wp2_with fail
    go_loopg [10, 11, 12, 13] (row + 1) (fun g v i _ _ wx => ∃ (k : Nat) (q : Option Addr) (c : Nat), g + k = row + 1 ∧ i = .int .i64 (k : Int) ∧ v = .slice q (st (ends ze) k) c ∧ Jn w p lb cb pe le ce z wx (.slice q (st (ends ze) k) c) (st (ends ze) k))
    case atStart => exact ⟨0, none, 0, rfl, rfl, rfl, h0⟩
    case round =>
      obtain ⟨k, q, c, hg, rfl, rfl, hJ⟩ := hrel
      clear h0
      by_cases hlt : k ≤ row
      · have hsE := ends_mono hG (show k < row + 1 by omega)
        have hEl := ends_le hG (show k < row + 1 by omega)
        have Hek : Hid (ze k = ends ze k) := ends_is hG (by omega)
        have Hst1 : Hid (st (ends ze) (k + 1) = ends ze k) := by simp [Hid, st]
        have heR := he.below hJ.below (Nat.le_refl _)
        go_wp2_with fail
        refine (value_any wr w.heap.size p lb cb pe le ce k z ze (ends ze) hJ.col heR (by omega) (fun i hi => ends_is hG (by omega)) hsE hEl hcap (by omega)).mono ?_
        rintro e w1 ⟨p', cap', rfl, hsub, n1, rfl⟩
        have hJ1 := hJ.drewN n1
        clear hJ heR hG
        generalize ends ze k = L at *
        generalize st (ends ze) k = S at *
        obtain ⟨wo, hwo⟩ : ∃ wo, wo = wr.drewN n1 := ⟨_, rfl⟩
        rw [← hwo] at hJ1 ⊢
        clear hwo
        go_upto_block 4 with fail
        go_cut [10, 13] (fun v _ wx => ∃ q c, v = .slice q L c ∧ Jn w p lb cb pe le ce z wx (.slice q L c) L)
        case first => as_aux_lemma =>
          go_wp2_with fail
          go_loopg [10, 13] (L - S) (fun g v i wx => ∃ (m : Nat) (q : Option Addr) (c : Nat), g + m = L - S ∧ i = .int .i64 (m : Int) ∧ v = .slice q (S + m) c ∧ Jn w p lb cb pe le ce z wx (.slice q (S + m) c) (S + m))
          case atStart => exact ⟨0, q, c, rfl, rfl, rfl, hJ1⟩
          case round =>
            obtain ⟨m, q', c', hg', rfl, rfl, hJ⟩ := hrel
            clear hJ1
            by_cases hm : m < L - S
            · have hv := hsub wr (hz.below hJ.below (Nat.le_refl _))
              obtain ⟨bv, ov, rfl, hbv, hcells⟩ := hv.lies (by omega)
              have c0 := hcells m hm
              clear hcells hv hsub
              have hbig := hJ.big
              go_wp2_with (at_builtin; refine wpList_append_own _ rfl (.tmp 76) (.tmp 81) 22 rfl (w.heap.size + 1) 5 i0 (.int .u8 0) 1 1 Trym.underlying22 hi hz0 hz1 hz2 rfl (by decide) _ _ _ rfl (hJ.own.alloc _) ⟨wr.heap.size, 0, none⟩ 1 1 [.int .u8 (z (S + m))] rfl rfl ?c1 ?c2 ?c3 ?c4 ?c5 ?_)
              case c1 =>
                intro j u hj
                match j, hj with
                | 0, hj => simp at hj; subst hj; simp [Addr.add]
              case c2 => intro u hu; simp at hu; subst hu; rfl
              case c3 => unfold maxLen; omega
              case c4 => omega
              case c5 => simp; omega
              · intro v' w1 hown' hgrow _
                have hJ' := hJ.grow hown' hgrow
                obtain ⟨q2, c2, hv2⟩ := own_slice hJ'.own
                rw [hv2] at hJ'
                rw [hv2]
                clear hown' hgrow hJ c0 hv2
                go_wp2_with fail
                go_roundg (gk - 1)
                case measure => omega
                case rel => exact ⟨m + 1, q2, c2, by omega, by go_num, rfl, hJ'⟩
            · have HK : Hid (S + m = L) := by show S + m = L; omega
              go_wp2_with fail
              go_meet
              case rel => rw [HK.out] at hJ; rw [HK.out]; exact ⟨q', c', rfl, hJ⟩
        case rest =>
        obtain ⟨q2, c2, rfl, hJ⟩ := hcut
        clear hJ1 hsub
        have heR := he.below hJ.below (Nat.le_refl _)
        obtain ⟨be, oe, rfl, hbe, hcells⟩ := heR.lies (by omega)
        have c0 := hcells k (by omega)
        rw [Hek.out] at c0
        clear hcells heR
        have hkle : k < le := by omega
        go_wp2_with fail
        go_roundg (gk - 1)
        case measure => omega
        case rel => exact ⟨k + 1, q2, c2, by omega, by go_num, by rw [Hst1.out], by rw [Hst1.out]; exact hJ⟩
      · have HK : Hid (st (ends ze) k = ends ze row) := by
          have : k = row + 1 := by omega
          rw [Hid, this]; simp [st]
        go_wp2_with fail
        go_meet
        case rel => rw [HK.out] at hJ; rw [HK.out]; exact ⟨q, c, rfl, hJ⟩
  case rest =>
  clear h0
  obtain ⟨q, c, rfl, hJ⟩ := hcut
  have hEl := ends_le hG (show row < row + 1 by omega)
  clear hG
  generalize ends ze row = L at *
  have hq := own_ls hJ.own
  have hbel := hJ.below
  clear hJ
  go_upto_block 6 with fail
  go_cut [14] (fun _ wx => Below w.heap.size w wx)
  case first => as_aux_lemma =>
    go_wp2_with fail
    go_loopg [14] L (fun g i wx => ∃ k : Nat, g + k = L ∧ i = .int .i64 (k : Int) ∧ Below w.heap.size w wx ∧ Ls .u8 wx q L z)
    case atStart => exact ⟨0, rfl, rfl, hbel, hq⟩
    case round =>
      obtain ⟨k, hg, rfl, hbel', hq'⟩ := hrel
      clear hbel hq
      by_cases hlt : k < L
      · obtain ⟨bq, oq, rfl, hbq, hcq⟩ := hq'.lies (by omega)
        have c0 := hcq k hlt
        obtain ⟨bb, ob, rfl, hbb, hcb⟩ := (hz.below hbel' (Nat.le_refl _)).lies (by omega)
        have c1 := hcb k (by omega)
        clear hcq hcb
        have hkl : k < lb := by omega
        go_wp2_with fail
        go_quiet (fail)
        go_wp2_with fail
        go_roundg (gk - 1)
        case measure => omega
        case rel => exact ⟨k + 1, by omega, by go_num, ⟨hbel'.os, hbel'.tape, hbel'.output, hbel'.size, hbel'.block⟩, ⟨hq'.lies⟩⟩
      · go_wp2_with fail
        go_meet
        case rel => exact hbel'
  case rest =>
  go_wp2_with fail
  go_ret
  exact ⟨rfl, hcut⟩

theorem lies_walk (z ze : Nat → Int) (p pe : Option Addr) (lb cb le ce : Nat) (row : Int) (w : World) (hz : Ls .u8 w p lb z) (he : Ls .i64 w pe le ze) (hcap : lb ≤ cb) (g1 : lb ≤ 9223372036854775807) (g2 : le ≤ 9223372036854775807) :
    Calls Trym.prog 3 #[.slice p lb cb, .slice pe le ce, .int .i64 row] w fun e w' => e = .returned (.bool true) ∧ Below w.heap.size w w' := by
  cases hd : zz lb le with
  | false => exact early1 p pe lb cb le ce row w g1 g2 hd
  | true =>
  by_cases h2 : lb ≤ 524288
  · by_cases h3 : le ≤ 65536
    · by_cases h4 : 0 ≤ row
      · by_cases h5 : (le : Int) ≤ row
        · exact early5 p pe lb cb le ce row w g1 g2 hd h2 h3 h4 h5
        · obtain ⟨r, rfl⟩ := Int.eq_ofNat_of_zero_le h4
          exact lies_main z ze p pe lb cb le ce r w hz he hcap hd h2 h3 (by omega)
      · exact early4 p pe lb cb le ce row w g1 g2 hd h2 h3 (by omega)
    · exact early3 p pe lb cb le ce row w g1 g2 hd h2 h3
  · exact early2 p pe lb cb le ce row w g1 g2 hd h2
end Go.Proofs.Qxb6618153aMods
