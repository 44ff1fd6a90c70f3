import Derived.Test.Qxb6618153aModsKept
namespace Go.Proofs.Qxb6618153aMods
open Go.RowKit

theorem good_mono {ze : Nat → Int} {lb n : Nat} (h : Good ze lb n) : ∀ j i, i ≤ j → j < n → ze i ≤ ze j := by
  intro j
  induction j with
  | zero => intro i hi _; have : i = 0 := by omega
            subst this; exact Int.le_refl _
  | succ j ih =>
    intro i hi hj
    rcases Nat.lt_or_ge i (j + 1) with h' | h'
    · have := ih i (by omega) (by omega)
      have h1 := (h (j + 1) hj).1
      rw [pv_succ] at h1
      omega
    · have : i = j + 1 := by omega
      subst this; exact Int.le_refl _
theorem pv_st {ze : Nat → Int} {lb n : Nat} (h : Good ze lb n) : pv ze n = st (ends ze) n := by
  unfold pv st
  split
  · rfl
  · exact ends_is h (by omega)
theorem st_le {ze : Nat → Int} {lb n : Nat} (h : Good ze lb n) : st (ends ze) n ≤ lb := by
  unfold st
  split
  · omega
  · exact ends_le h (by omega)
theorem ends_le_st {ze : Nat → Int} {lb n : Nat} (h : Good ze lb n) {i : Nat} (hi : i < n) : ends ze i ≤ st (ends ze) n := by
  unfold st
  rw [if_neg (by omega)]
  have := good_mono h (n - 1) i (by omega) (by omega)
  unfold ends; omega

/-- The grown column's bytes and ends. -/
def z2 (z x : Nat → Int) (L : Nat) (i : Nat) : Int := if i < L then z i else x (i - L)
def E2 (E : Nat → Nat) (le T : Nat) (i : Nat) : Nat := if i < le then E i else T
theorem E2_lt {E : Nat → Nat} {le T i : Nat} (h : i < le) : E2 E le T i = E i := by simp [E2, h]
theorem E2_at (E : Nat → Nat) (le T : Nat) : E2 E le T le = T := by simp [E2]
theorem st_E2 {E : Nat → Nat} {le T i : Nat} (h : i ≤ le) : st (E2 E le T) i = st E i := by
  unfold st; split
  · rfl
  · rw [E2_lt (by omega)]

/-- Memory behind the first make: b2's row, so far. -/
structure M1 (w wx : World) (n : Nat) (f : Nat → Int) : Prop where
  below : Below w.heap.size w wx
  row : wx.rowIs w.heap.size 5 n (fun i => .int .u8 (f i))
  size : wx.heap.size = w.heap.size + 1
theorem M1.start (w : World) (n : Nat) : M1 w (w.alloc (.cells (madeCells #[.int .u8 0] n) 5)) n (fun _ => 0) :=
  ⟨(Below.refl _ _).alloc (Nat.le_refl _) _, World.rowIs_made w (.int .u8 0) n 5, by simp⟩
theorem M1.set {w wx : World} {n : Nat} {f : Nat → Int} (h : M1 w wx n f) (i : Nat) (v : Int) : M1 w (wx.setCell ⟨w.heap.size, i, none⟩ (.int .u8 v)) n (fun j => if j = i then v else f j) := by
  refine ⟨h.below.setCell (p := ⟨w.heap.size, i, none⟩) (Nat.le_refl _) _, (h.row.set i (.int .u8 v)).congr (fun j _ => ?_), by rw [← h.size]; simp [World.setCell]⟩
  split <;> rfl
theorem M1.congr {w wx : World} {n : Nat} {f g : Nat → Int} (h : M1 w wx n f) (e : ∀ i, i < n → f i = g i) : M1 w wx n g :=
  ⟨h.below, h.row.congr (fun i hi => by rw [e i hi]), h.size⟩
/-- Behind the second make: e2's row too. -/
structure M2 (w wx : World) (n : Nat) (f : Nat → Int) (m : Nat) (g : Nat → Int) : Prop where
  below : Below w.heap.size w wx
  row : wx.rowIs w.heap.size 5 n (fun i => .int .u8 (f i))
  ends : wx.rowIs (w.heap.size + 1) 3 m (fun i => .int .i64 (g i))
  size : wx.heap.size = w.heap.size + 2
theorem M2.start {w wx : World} {n : Nat} {f : Nat → Int} (h : M1 w wx n f) (m : Nat) : M2 w (wx.alloc (.cells (madeCells #[.int .i64 0] m) 3)) n f m (fun _ => 0) := by
  have := World.rowIs_made wx (.int .i64 0) m 3
  rw [h.size] at this
  exact ⟨h.below.alloc h.below.size _, h.row.alloc _, this, by simp [h.size]⟩
theorem M2.set {w wx : World} {n m : Nat} {f g : Nat → Int} (h : M2 w wx n f m g) (i : Nat) (v : Int) : M2 w (wx.setCell ⟨w.heap.size + 1, i, none⟩ (.int .i64 v)) n f m (fun j => if j = i then v else g j) := by
  refine ⟨h.below.setCell (p := ⟨w.heap.size + 1, i, none⟩) (by show w.heap.size ≤ w.heap.size + 1; omega) _, h.row.setOther (a := ⟨w.heap.size + 1, i, none⟩) (by show w.heap.size ≠ w.heap.size + 1; omega) _, (h.ends.set i (.int .i64 v)).congr (fun j _ => ?_), by rw [← h.size]; simp [World.setCell]⟩
  split <;> rfl
theorem M2.congr {w wx : World} {n m : Nat} {f g g' : Nat → Int} (h : M2 w wx n f m g) (e : ∀ i, i < m → g i = g' i) : M2 w wx n f m g' :=
  ⟨h.below, h.row, h.ends.congr (fun i hi => by rw [e i hi]), h.size⟩
theorem ls_row {w : World} {b n : Nat} {t : TypeId} {k : IntKind} {f : Nat → Int} (h : w.rowIs b t n (fun i => .int k (f i))) : Ls k w (some ⟨b, 0, none⟩) n f :=
  ⟨fun _ => ⟨b, 0, rfl, h.lt, fun i hi => by rw [Nat.zero_add]; exact h.cell hi⟩⟩
/-- The grown column stands. -/
structure Gr (w wx : World) (n m : Nat) (f g : Nat → Int) : Prop where
  below : Below w.heap.size w wx
  col : Col wx (w.heap.size + 2) (some ⟨w.heap.size, 0, none⟩) n n (some ⟨w.heap.size + 1, 0, none⟩) m m
  bytes : Ls .u8 wx (some ⟨w.heap.size, 0, none⟩) n f
  ends : Ls .i64 wx (some ⟨w.heap.size + 1, 0, none⟩) m g
  size : wx.heap.size = w.heap.size + 3
theorem col_new (w : World) (p : Option Addr) (len cap : Nat) (pe : Option Addr) (le ce : Nat) : Col (w.alloc (.cells #[.slice p len cap, .slice pe le ce] 27)) w.heap.size p len cap pe le ce := ⟨by go_simp, by go_simp⟩
theorem Gr.start {w wx : World} {n m : Nat} {f g : Nat → Int} (h : M2 w wx n f m g) : Gr w (wx.alloc (.cells #[.slice (some ⟨w.heap.size, 0, none⟩) n n, .slice (some ⟨w.heap.size + 1, 0, none⟩) m m] 27)) n m f g := by
  have hc := col_new wx (some ⟨w.heap.size, 0, none⟩) n n (some ⟨w.heap.size + 1, 0, none⟩) m m
  rw [h.size] at hc
  exact ⟨h.below.alloc h.below.size _, hc, ls_row (h.row.alloc _), ls_row (h.ends.alloc _), by simp [h.size]⟩
theorem Gr.drewN {w wx : World} {n m : Nat} {f g : Nat → Int} (h : Gr w wx n m f g) (k : Nat) : Gr w (wx.drewN k) n m f g :=
  ⟨⟨h.below.os, h.below.tape, h.below.output, h.below.size, h.below.block⟩, h.col.of_block rfl, h.bytes.drewN k, h.ends.drewN k, h.size⟩

set_option maxRecDepth 100000 in
set_option maxHeartbeats 4000000 in
theorem k_early1 (p pe px : Option Addr) (lb cb le ce lx cx : Nat) (row : Int) (w : World) (g1 : lb ≤ 9223372036854775807) (g2 : le ≤ 9223372036854775807) (g3 : lx ≤ 9223372036854775807) (hd : zz3 lb le lx = false) :
    Calls Trym.prog 4 #[.slice p lb cb, .slice pe le ce, .int .i64 row, .slice px lx cx] w fun e w' => e = .returned (.bool true) ∧ Below w.heap.size w w' := by
  go_enter Trym.func4, Trym.ntmps4
  go_wp2_with fail
  refine (zzbytes3_any w p pe px lb cb le ce lx cx row g1 g2 g3).mono ?_
  rintro e w' ⟨rfl, rfl⟩
  rw [hd]
  go_wp2_with fail
  go_ret
  exact ⟨rfl, Below.refl _ _⟩

set_option maxRecDepth 100000 in
set_option maxHeartbeats 4000000 in
theorem k_early2 (p pe px : Option Addr) (lb cb le ce lx cx : Nat) (row : Int) (w : World) (g1 : lb ≤ 9223372036854775807) (g2 : le ≤ 9223372036854775807) (g3 : lx ≤ 9223372036854775807) (hd : zz3 lb le lx = true) (h2 : ¬ lb ≤ 262144) :
    Calls Trym.prog 4 #[.slice p lb cb, .slice pe le ce, .int .i64 row, .slice px lx cx] w fun e w' => e = .returned (.bool true) ∧ Below w.heap.size w w' := by
  go_enter Trym.func4, Trym.ntmps4
  go_wp2_with fail
  refine (zzbytes3_any w p pe px lb cb le ce lx cx row g1 g2 g3).mono ?_
  rintro e w' ⟨rfl, rfl⟩
  rw [hd]
  go_wp2_with fail
  go_ret
  exact ⟨rfl, Below.refl _ _⟩

set_option maxRecDepth 100000 in
set_option maxHeartbeats 4000000 in
theorem k_early3 (p pe px : Option Addr) (lb cb le ce lx cx : Nat) (row : Int) (w : World) (g1 : lb ≤ 9223372036854775807) (g2 : le ≤ 9223372036854775807) (g3 : lx ≤ 9223372036854775807) (hd : zz3 lb le lx = true) (h2 : lb ≤ 262144) (h3 : ¬ le ≤ 65536) :
    Calls Trym.prog 4 #[.slice p lb cb, .slice pe le ce, .int .i64 row, .slice px lx cx] w fun e w' => e = .returned (.bool true) ∧ Below w.heap.size w w' := by
  go_enter Trym.func4, Trym.ntmps4
  go_wp2_with fail
  refine (zzbytes3_any w p pe px lb cb le ce lx cx row g1 g2 g3).mono ?_
  rintro e w' ⟨rfl, rfl⟩
  rw [hd]
  go_wp2_with fail
  go_ret
  exact ⟨rfl, Below.refl _ _⟩

set_option maxRecDepth 100000 in
set_option maxHeartbeats 4000000 in
theorem k_early4 (p pe px : Option Addr) (lb cb le ce lx cx : Nat) (row : Int) (w : World) (g1 : lb ≤ 9223372036854775807) (g2 : le ≤ 9223372036854775807) (g3 : lx ≤ 9223372036854775807) (hd : zz3 lb le lx = true) (h2 : lb ≤ 262144) (h3 : le ≤ 65536) (h4 : ¬ lx ≤ 262144) :
    Calls Trym.prog 4 #[.slice p lb cb, .slice pe le ce, .int .i64 row, .slice px lx cx] w fun e w' => e = .returned (.bool true) ∧ Below w.heap.size w w' := by
  go_enter Trym.func4, Trym.ntmps4
  go_wp2_with fail
  refine (zzbytes3_any w p pe px lb cb le ce lx cx row g1 g2 g3).mono ?_
  rintro e w' ⟨rfl, rfl⟩
  rw [hd]
  go_wp2_with fail
  go_ret
  exact ⟨rfl, Below.refl _ _⟩

set_option maxRecDepth 100000 in
set_option maxHeartbeats 4000000 in
theorem k_early5 (p pe px : Option Addr) (lb cb le ce lx cx : Nat) (row : Int) (w : World) (g1 : lb ≤ 9223372036854775807) (g2 : le ≤ 9223372036854775807) (g3 : lx ≤ 9223372036854775807) (hd : zz3 lb le lx = true) (h2 : lb ≤ 262144) (h3 : le ≤ 65536) (h4 : lx ≤ 262144) (h5 : row < 0) :
    Calls Trym.prog 4 #[.slice p lb cb, .slice pe le ce, .int .i64 row, .slice px lx cx] w fun e w' => e = .returned (.bool true) ∧ Below w.heap.size w w' := by
  go_enter Trym.func4, Trym.ntmps4
  go_wp2_with fail
  refine (zzbytes3_any w p pe px lb cb le ce lx cx row g1 g2 g3).mono ?_
  rintro e w' ⟨rfl, rfl⟩
  rw [hd]
  go_wp2_with fail
  go_ret
  exact ⟨rfl, Below.refl _ _⟩

set_option maxRecDepth 100000 in
set_option maxHeartbeats 4000000 in
theorem k_early6 (p pe px : Option Addr) (lb cb le ce lx cx : Nat) (row : Int) (w : World) (g1 : lb ≤ 9223372036854775807) (g2 : le ≤ 9223372036854775807) (g3 : lx ≤ 9223372036854775807) (hd : zz3 lb le lx = true) (h2 : lb ≤ 262144) (h3 : le ≤ 65536) (h4 : lx ≤ 262144) (h5 : 0 ≤ row) (h6 : (le : Int) < row) :
    Calls Trym.prog 4 #[.slice p lb cb, .slice pe le ce, .int .i64 row, .slice px lx cx] w fun e w' => e = .returned (.bool true) ∧ Below w.heap.size w w' := by
  go_enter Trym.func4, Trym.ntmps4
  go_wp2_with fail
  refine (zzbytes3_any w p pe px lb cb le ce lx cx row g1 g2 g3).mono ?_
  rintro e w' ⟨rfl, rfl⟩
  rw [hd]
  go_wp2_with fail
  go_ret
  exact ⟨rfl, Below.refl _ _⟩

set_option maxRecDepth 100000 in
set_option maxHeartbeats 4000000 in
theorem kept_main (z ze x : Nat → Int) (p pe px : Option Addr) (lb cb le ce row lx cx : Nat) (w : World) (hz : Ls .u8 w p lb z) (he : Ls .i64 w pe le ze) (hx : Ls .u8 w px lx x) (hcap : lb ≤ cb) (hd : zz3 lb le lx = true) (hlb : lb ≤ 262144) (hle : le ≤ 65536) (hlx : lx ≤ 262144) (hrow : row ≤ le) :
    Calls Trym.prog 4 #[.slice p lb cb, .slice pe le ce, .int .i64 (row : Int), .slice px lx cx] w fun e w' => e = .returned (.bool true) ∧ Below w.heap.size w w' := by
  have b1 : decide ((262144 : Int) < (lb : Int)) = false := by simp; omega
  have b2 : decide ((65536 : Int) < (le : Int)) = false := by simp; omega
  have b3 : decide ((row : Int) < 0) = false := by simp
  have b4 : decide (le < row) = false := by simp; omega
  have b5 : decide ((262144 : Int) < (lx : Int)) = false := by simp; omega
  go_enter Trym.func4, Trym.ntmps4
  go_wp2_with fail
  refine (zzbytes3_any w p pe px lb cb le ce lx cx row (by omega) (by omega) (by omega)).mono ?_
  rintro e w' ⟨rfl, hw⟩
  obtain rfl : w = w' := hw.symm
  rw [hd]
  clear hd
  go_upto_block 0 with fail
  go_cut [9, 10] (fun a _ wx => Good ze lb le ∧ a = .int .i64 (pv ze le) ∧ w = wx)
  case first => as_aux_lemma =>
    go_wp2_with fail
    go_loopg [9, 10] le (fun g a i wx => ∃ k : Nat, g + k = le ∧ i = .int .i64 (k : Int) ∧ a = .int .i64 (pv ze k) ∧ Good ze lb k ∧ w = wx)
    case atStart => exact ⟨0, rfl, rfl, rfl, fun i hi => absurd hi (Nat.not_lt_zero _), rfl⟩
    case round =>
      obtain ⟨k, hg, rfl, rfl, hG, rfl⟩ := hrel
      by_cases hlt : k < le
      · obtain ⟨be, oe, rfl, hbe, hcells⟩ := he.lies (by omega)
        have c0 := hcells k (by omega)
        clear hcells
        by_cases h1 : ze k < pv ze k
        · go_wp2
          go_ret
          exact ⟨rfl, Below.refl _ _⟩
        · by_cases h2 : (lb : Int) < ze k
          · go_wp2
            go_ret
            exact ⟨rfl, Below.refl _ _⟩
          · have HG : Hid (Good ze lb (k + 1)) := by
              intro i hi
              rcases Nat.lt_succ_iff_lt_or_eq.1 hi with h' | h'
              · exact hG i h'
              · rw [h']; omega
            have HP : Hid (pv ze (k + 1) = ze k) := pv_succ ze k
            clear hG
            go_wp2
            go_roundg (gk - 1)
            case measure => omega
            case rel => exact ⟨k + 1, by omega, by go_num, by rw [HP.out], HG.out, rfl⟩
      · have HK : Hid (k = le) := by show k = le; omega
        go_wp2
        go_meet
        case rel => rw [HK.out] at hG; rw [HK.out]; exact ⟨hG, rfl, rfl⟩
  case rest =>
  obtain ⟨hG, rfl, rfl⟩ := hcut
  rw [pv_st hG]
  have hLb := st_le hG
  have HL : Hid (∀ i, i < le → ends ze i ≤ st (ends ze) le) := fun i hi => ends_le_st hG hi
  have HS : Hid (st (ends ze) le = st (ends ze) le) := rfl
  generalize hLdef : st (ends ze) le = L at *
  have HLd : Hid (st (ends ze) le = L) := hLdef
  clear hLdef HS
  have ec : ((L + lx : Nat) : Int) = (L : Int) + lx := by omega
  have hmk := run_make_row' (P := Trym.prog) 22 5 (.int .u8 0) 1 Trym.underlying22 Trym.info5 rfl .i64 .i64 (L + lx) (by omega) (by omega)
  rw [ec] at hmk
  clear ec
  have h0 := M1.start w (L + lx)
  go_upto_block 2 with fail
  go_cut [12] (fun _ wx => M1 w wx (L + lx) (fun i => if i < L then z i else 0))
  case first => as_aux_lemma =>
    clear hmk
    go_wp2_with fail
    go_loopg [12] L (fun g i wx => ∃ k : Nat, g + k = L ∧ i = .int .i64 (k : Int) ∧ M1 w wx (L + lx) (fun i => if i < k then z i else 0))
    case atStart => exact ⟨0, rfl, rfl, h0.congr (fun i _ => by simp)⟩
    case round =>
      obtain ⟨k, hg, rfl, hM⟩ := hrel
      clear h0
      by_cases hlt : k < L
      · obtain ⟨bb, ob, rfl, hbb, hcb⟩ := (hz.below hM.below (Nat.le_refl _)).lies (by omega)
        have c0 := hcb k (by omega)
        have c1 := hM.row.cell (i := k) (by omega)
        have f1 := hM.row.frozen k
        have HM : Hid (M1 w (wr.setCell ⟨w.heap.size, k, none⟩ (.int .u8 (z k))) (L + lx) (fun i => if i < k + 1 then z i else 0)) := by
          refine (hM.set k (z k)).congr (fun i _ => ?_)
          by_cases h1 : i = k
          · subst h1; simp
          · by_cases h2 : i < k
            · simp [h1, h2, show i < k + 1 by omega]
            · simp [h1, h2, show ¬ i < k + 1 by omega]
        have hkl : k < lb := by omega
        clear hcb hM
        go_wp2_with fail
        go_roundg (gk - 1)
        case measure => omega
        case rel => exact ⟨k + 1, by omega, by go_num, HM.out⟩
      · have HK : Hid (k = L) := by show k = L; omega
        go_wp2_with fail
        go_meet
        case rel => rw [HK.out] at hM; exact hM
  case rest =>
  clear h0 hmk
  have h0 := hcut
  clear hcut
  go_upto_block 4 with fail
  go_cut [13] (fun _ wx => M1 w wx (L + lx) (z2 z x L))
  case first => as_aux_lemma =>
    go_wp2_with fail
    go_loopg [13] lx (fun g i wx => ∃ k : Nat, g + k = lx ∧ i = .int .i64 (k : Int) ∧ M1 w wx (L + lx) (fun i => if i < L + k then z2 z x L i else 0))
    case atStart => exact ⟨0, rfl, rfl, h0.congr (fun i _ => by simp [z2]; split <;> simp_all)⟩
    case round =>
      obtain ⟨k, hg, rfl, hM⟩ := hrel
      clear h0
      by_cases hlt : k < lx
      · obtain ⟨bb, ob, rfl, hbb, hcb⟩ := (hx.below hM.below (Nat.le_refl _)).lies (by omega)
        have c0 := hcb k (by omega)
        have c1 := hM.row.cell (i := L + k) (by omega)
        have f1 := hM.row.frozen (L + k)
        have HM : Hid (M1 w (wr.setCell ⟨w.heap.size, L + k, none⟩ (.int .u8 (x k))) (L + lx) (fun i => if i < L + (k + 1) then z2 z x L i else 0)) := by
          refine (hM.set (L + k) (x k)).congr (fun i _ => ?_)
          by_cases h1 : i = L + k
          · subst h1; simp [z2]; intro h; omega
          · by_cases h2 : i < L + k
            · simp [h1, h2, show i < L + (k + 1) by omega]
            · simp [h1, h2, show ¬ i < L + (k + 1) by omega]
        clear hcb hM
        go_wp2_with fail
        go_roundg (gk - 1)
        case measure => omega
        case rel => exact ⟨k + 1, by omega, by go_num, HM.out⟩
      · have HK : Hid (k = lx) := by show k = lx; omega
        go_wp2_with fail
        go_meet
        case rel => rw [HK.out] at hM; exact hM.congr (fun i hi => by simp [hi])
  case rest =>
  clear h0
  have hM := hcut
  clear hcut
  have hsz := hM.size
  have ec : ((le + 1 : Nat) : Int) = (le : Int) + 1 := by omega
  have hmk := run_make_row' (P := Trym.prog) 23 3 (.int .i64 0) 8 Trym.underlying23 Trym.info3 rfl .i64 .i64 (le + 1) (by omega) (by omega)
  rw [ec] at hmk
  clear ec
  have h0 := M2.start hM (le + 1)
  go_upto_block 6 with fail
  go_cut [15] (fun _ wx => M2 w wx (L + lx) (z2 z x L) (le + 1) (fun i => if i < le then ze i else 0))
  case first => as_aux_lemma =>
    clear hmk
    go_wp2_with fail
    go_loopg [15] le (fun g i wx => ∃ k : Nat, g + k = le ∧ i = .int .i64 (k : Int) ∧ M2 w wx (L + lx) (z2 z x L) (le + 1) (fun i => if i < k then ze i else 0))
    case atStart => exact ⟨0, rfl, rfl, h0.congr (fun i _ => by simp)⟩
    case round =>
      obtain ⟨k, hg, rfl, hM'⟩ := hrel
      clear h0 hM
      by_cases hlt : k < le
      · obtain ⟨bb, ob, rfl, hbb, hcb⟩ := (he.below hM'.below (Nat.le_refl _)).lies (by omega)
        have c0 := hcb k (by omega)
        have c1 := hM'.ends.cell (i := k) (by omega)
        have f1 := hM'.ends.frozen k
        have HM : Hid (M2 w (wr.setCell ⟨w.heap.size + 1, k, none⟩ (.int .i64 (ze k))) (L + lx) (z2 z x L) (le + 1) (fun i => if i < k + 1 then ze i else 0)) := by
          refine (hM'.set k (ze k)).congr (fun i _ => ?_)
          by_cases h1 : i = k
          · subst h1; simp
          · by_cases h2 : i < k
            · simp [h1, h2, show i < k + 1 by omega]
            · simp [h1, h2, show ¬ i < k + 1 by omega]
        clear hcb hM'
        go_wp2_with fail
        go_roundg (gk - 1)
        case measure => omega
        case rel => exact ⟨k + 1, by omega, by go_num, HM.out⟩
      · have HK : Hid (k = le) := by show k = le; omega
        go_wp2_with fail
        go_meet
        case rel => rw [HK.out] at hM'; exact hM'
  case rest =>
  clear h0 hM hmk hsz
  have hM := hcut
  clear hcut
  have hsz := hM.size
  have c1 := hM.ends.cell (i := le) (by omega)
  have f1 := hM.ends.frozen le
  have hM3 : M2 w (wc.setCell ⟨w.heap.size + 1, le, none⟩ (.int .i64 ((L : Int) + lx))) (L + lx) (z2 z x L) (le + 1) (fun i => (E2 (ends ze) le (L + lx) i : Nat)) := by
    refine (hM.set le ((L : Int) + lx)).congr (fun i hi => ?_)
    by_cases h1 : i = le
    · subst h1; simp [E2]
    · have h2 : i < le := by omega
      simp [h1, h2, E2]; exact ends_is hG h2
  go_wp2_with fail
  obtain ⟨wg, hwg⟩ : ∃ wg, wg = (wc.setCell ⟨w.heap.size + 1, le, none⟩ (.int .i64 ((L : Int) + lx))).alloc (.cells #[.slice (some ⟨w.heap.size, 0, none⟩) (L + lx) (L + lx), .slice (some ⟨w.heap.size + 1, 0, none⟩) (le + 1) (le + 1)] 27) := ⟨_, rfl⟩
  rw [← hwg]
  have hGr : Gr w wg (L + lx) (le + 1) (z2 z x L) (fun i => (E2 (ends ze) le (L + lx) i : Nat)) := by rw [hwg]; exact Gr.start hM3
  clear hM hM3 hsz c1 f1 hwg
  have es : st (E2 (ends ze) le (L + lx)) le = L := by rw [st_E2 (Nat.le_refl _)]; exact HLd.out
  have ea : E2 (ends ze) le (L + lx) le = L + lx := E2_at _ _ _
  refine (value_any wg (w.heap.size + 2) (some ⟨w.heap.size, 0, none⟩) (L + lx) (L + lx) (some ⟨w.heap.size + 1, 0, none⟩) (le + 1) (le + 1) le (z2 z x L) _ (E2 (ends ze) le (L + lx)) hGr.col hGr.ends (by omega) (fun i _ => rfl) (by rw [es, ea]; omega) (by rw [ea]; omega) (Nat.le_refl _) (by omega)).mono ?_
  rintro e w1 ⟨p1, cap1, rfl, hsub1, n1, rfl⟩
  rw [es, ea, show L + lx - L = lx by omega] at hsub1
  rw [es, ea, show L + lx - L = lx by omega]
  have hG1 := hGr.drewN n1
  clear hGr es ea
  have hp1 := hsub1 (wg.drewN n1) hG1.bytes
  have hx1 := hx.below hG1.below (Nat.le_refl _)
  clear hsub1
  go_wp2_with fail
  refine (same_any (wg.drewN n1) p1 px lx cap1 cx _ x hp1 hx1 (fun i hi => by simp [z2]; intro h; omega) (by omega)).mono ?_
  rintro e w2 ⟨rfl, n2, rfl⟩
  have hG2 := hG1.drewN n2
  rw [World.drewN_drewN] at hG2
  clear hG1 hp1 hx1
  have hgs : wg.heap.size = w.heap.size + 3 := hG2.size
  by_cases hr : row = le
  · subst hr
    go_wp2_with fail
    go_ret
    exact ⟨rfl, hG2.below⟩
  · have hrb : (row == le) = false := by simp [hr]
    go_wp2_with fail
    obtain ⟨wh, hwh⟩ : ∃ wh, wh = (wg.drewN (n1 + n2)).alloc (.cells #[.slice p lb cb, .slice pe le ce] 27) := ⟨_, rfl⟩
    rw [← hwh]
    have hb3 : Below w.heap.size w wh := by rw [hwh]; exact hG2.below.alloc hG2.below.size _
    have hbb : Below (wg.drewN (n1 + n2)).heap.size (wg.drewN (n1 + n2)) wh := by rw [hwh]; exact (Below.refl _ _).alloc (Nat.le_refl _) _
    have hco : Col wh (w.heap.size + 3) p lb cb pe le ce := by
      have := col_new (wg.drewN (n1 + n2)) p lb cb pe le ce
      rw [hG2.size] at this
      rw [hwh]; exact this
    have hcg := hG2.col.of_block (hbb.block (w.heap.size + 2) (by rw [hG2.size]; omega))
    have hbg := hG2.bytes.below hbb (Nat.le_refl _)
    have heg := hG2.ends.below hbb (Nat.le_refl _)
    clear hG2 hbb hwh hgs
    have hrl : row < le := by omega
    have es : st (E2 (ends ze) le (L + lx)) row = st (ends ze) row := st_E2 hrow
    have ea : E2 (ends ze) le (L + lx) row = ends ze row := E2_lt hrl
    have hmo := ends_mono hG hrl
    have hel := HL.out row hrl
    have hel2 := ends_le hG hrl
    refine (value_any wh (w.heap.size + 2) (some ⟨w.heap.size, 0, none⟩) (L + lx) (L + lx) (some ⟨w.heap.size + 1, 0, none⟩) (le + 1) (le + 1) row (z2 z x L) _ (E2 (ends ze) le (L + lx)) hcg heg (by omega) (fun i _ => rfl) (by rw [es, ea]; exact hmo) (by rw [ea]; omega) (Nat.le_refl _) (by omega)).mono ?_
    rintro e w1 ⟨p1, cap1, rfl, hsub1, n3, rfl⟩
    rw [es, ea] at hsub1
    rw [es, ea]
    clear es ea
    go_wp2_with fail
    refine (value_any (wh.drewN n3) (w.heap.size + 3) p lb cb pe le ce row z ze (ends ze) (hco.of_block rfl) ((he.below hb3 (Nat.le_refl _)).drewN n3) hrl (fun i hi => ends_is hG (by omega)) hmo hel2 hcap (by omega)).mono ?_
    rintro e w2 ⟨p2, cap2, rfl, hsub2, n4, rfl⟩
    have hp1 := hsub1 ((wh.drewN n3).drewN n4) ((hbg.drewN n3).drewN n4)
    have hp2 := hsub2 ((wh.drewN n3).drewN n4) (((hz.below hb3 (Nat.le_refl _)).drewN n3).drewN n4)
    rw [World.drewN_drewN] at hp1 hp2
    clear hsub1 hsub2 hbg heg hcg hco
    have HZ : Hid (∀ i, i < ends ze row - st (ends ze) row → z2 z x L (st (ends ze) row + i) = z (st (ends ze) row + i)) := by
      intro i hi
      unfold z2
      rw [if_pos (by omega)]
    generalize st (ends ze) row = S at *
    generalize ends ze row = T at *
    go_wp2_with fail
    refine (same_any (wh.drewN (n3 + n4)) p1 p2 (T - S) cap1 cap2 _ _ hp1 hp2 HZ.out (by omega)).mono ?_
    rintro e w3 ⟨rfl, n5, rfl⟩
    go_wp2_with fail
    go_ret
    exact ⟨rfl, hb3.os, hb3.tape, hb3.output, hb3.size, hb3.block⟩

theorem kept_walk (z ze x : Nat → Int) (p pe px : Option Addr) (lb cb le ce lx cx : Nat) (row : Int) (w : World) (hz : Ls .u8 w p lb z) (he : Ls .i64 w pe le ze) (hx : Ls .u8 w px lx x) (hcap : lb ≤ cb) (g1 : lb ≤ 9223372036854775807) (g2 : le ≤ 9223372036854775807) (g3 : lx ≤ 9223372036854775807) :
    Calls Trym.prog 4 #[.slice p lb cb, .slice pe le ce, .int .i64 row, .slice px lx cx] w fun e w' => e = .returned (.bool true) ∧ Below w.heap.size w w' := by
  cases hd : zz3 lb le lx with
  | false => exact k_early1 p pe px lb cb le ce lx cx row w g1 g2 g3 hd
  | true =>
  by_cases h2 : lb ≤ 262144
  · by_cases h3 : le ≤ 65536
    · by_cases h4 : lx ≤ 262144
      · by_cases h5 : 0 ≤ row
        · by_cases h6 : (le : Int) < row
          · exact k_early6 p pe px lb cb le ce lx cx row w g1 g2 g3 hd h2 h3 h4 h5 h6
          · obtain ⟨r, rfl⟩ := Int.eq_ofNat_of_zero_le h5
            exact kept_main z ze x p pe px lb cb le ce r lx cx w hz he hx hcap hd h2 h3 h4 (by omega)
        · exact k_early5 p pe px lb cb le ce lx cx row w g1 g2 g3 hd h2 h3 h4 (by omega)
      · exact k_early4 p pe px lb cb le ce lx cx row w g1 g2 g3 hd h2 h3 h4
    · exact k_early3 p pe px lb cb le ce lx cx row w g1 g2 g3 hd h2 h3
  · exact k_early2 p pe px lb cb le ce lx cx row w g1 g2 g3 hd h2
end Go.Proofs.Qxb6618153aMods
