import Derived.Test.Qxb6617332aModsFoldPlain2
namespace Go.Proofs.Qxb6617332aMods
open Go.RowKit

theorem at_new (w : World) (t : TypeId) (x : Tl) : At (w.alloc (.cells #[.int .i64 x.runs, .int .i64 x.viol, .int .i64 x.first, .bool x.meas, .int .i64 x.maxr, .int .i64 x.stab, .int .i64 x.pub] t)) w.heap.size x := by
  refine ⟨?_, ?_, ?_, ?_, ?_, ?_, ?_, ?_⟩ <;> (try intro i) <;> go_simp
theorem at_set1 {w : World} {b : Nat} {x : Tl} (h : At w b x) (v : Int) : At (w.setCell ⟨b, 1, none⟩ (.int .i64 v)) b { x with viol := v } := by
  obtain ⟨t0, t1, t2, t3, t4, t5, t6, f⟩ := h
  refine ⟨?_, ?_, ?_, ?_, ?_, ?_, ?_, ?_⟩ <;> (try intro i) <;> go_simp
theorem at_set2 {w : World} {b : Nat} {x : Tl} (h : At w b x) (v : Int) : At (w.setCell ⟨b, 2, none⟩ (.int .i64 v)) b { x with first := v } := by
  obtain ⟨t0, t1, t2, t3, t4, t5, t6, f⟩ := h
  refine ⟨?_, ?_, ?_, ?_, ?_, ?_, ?_, ?_⟩ <;> (try intro i) <;> go_simp
theorem at_set3 {w : World} {b : Nat} {x : Tl} (h : At w b x) (v : Bool) : At (w.setCell ⟨b, 3, none⟩ (.bool v)) b { x with meas := v } := by
  obtain ⟨t0, t1, t2, t3, t4, t5, t6, f⟩ := h
  refine ⟨?_, ?_, ?_, ?_, ?_, ?_, ?_, ?_⟩ <;> (try intro i) <;> go_simp
theorem at_set4 {w : World} {b : Nat} {x : Tl} (h : At w b x) (v : Int) : At (w.setCell ⟨b, 4, none⟩ (.int .i64 v)) b { x with maxr := v } := by
  obtain ⟨t0, t1, t2, t3, t4, t5, t6, f⟩ := h
  refine ⟨?_, ?_, ?_, ?_, ?_, ?_, ?_, ?_⟩ <;> (try intro i) <;> go_simp
theorem at_set5 {w : World} {b : Nat} {x : Tl} (h : At w b x) (v : Int) : At (w.setCell ⟨b, 5, none⟩ (.int .i64 v)) b { x with stab := v } := by
  obtain ⟨t0, t1, t2, t3, t4, t5, t6, f⟩ := h
  refine ⟨?_, ?_, ?_, ?_, ?_, ?_, ?_, ?_⟩ <;> (try intro i) <;> go_simp

/-- Inside expectedTally: the result's box, the box of 'want'. -/
structure Ex (w wx : World) (t : Tl) : Prop where
  below : Below w.heap.size w wx
  res : At wx w.heap.size zeroT
  want : At wx (w.heap.size + 1) t

theorem ex_start (w : World) (t : Tl) : Ex w ((w.alloc (.cells #[.int .i64 0, .int .i64 0, .int .i64 0, .bool false, .int .i64 0, .int .i64 0, .int .i64 0] 27)).alloc (.cells #[.int .i64 t.runs, .int .i64 t.viol, .int .i64 t.first, .bool t.meas, .int .i64 t.maxr, .int .i64 t.stab, .int .i64 t.pub] 27)) t := by
  have h1 := at_new w 27 zeroT
  have h2 := at_new (w.alloc (.cells #[.int .i64 0, .int .i64 0, .int .i64 0, .bool false, .int .i64 0, .int .i64 0, .int .i64 0] 27)) 27 t
  exact ⟨((Below.refl _ _).alloc (Nat.le_refl _) _).alloc (by simp) _, h1.of_block (Below.heap_alloc _ _ _ (by simp)), by simpa using h2⟩
theorem Ex.set {w wx : World} {t u : Tl} (h : Ex w wx t) (i : Nat) (v : Value) (hu : At (wx.setCell ⟨w.heap.size + 1, i, none⟩ v) (w.heap.size + 1) u) : Ex w (wx.setCell ⟨w.heap.size + 1, i, none⟩ v) u :=
  ⟨h.below.setCell (p := ⟨w.heap.size + 1, i, none⟩) (by show w.heap.size ≤ w.heap.size + 1; omega) v, h.res.of_block (Below.heap_setCell _ _ _ _ (by show w.heap.size ≠ w.heap.size + 1; omega)), hu⟩

/-- The first loop's next round. -/
def nextA (R : Nat → Ru) (len : Nat) (pt : Int) (j : Nat) : Tl := ⟨len, cv (lst R j), 0, anyM R j, 0, 0, pt⟩
theorem nextA_tt {R : Nat → Ru} {len j : Nat} {pt : Int} (hv : (R j).viol = true) (hm : (R j).meas = true) : nextA R len pt (j + 1) = ⟨len, (cv (lst R j) : Int) + 1, 0, true, 0, 0, pt⟩ := by
  unfold nextA; rw [cv_lst_succ, anyM]; simp [hv, hm]
theorem nextA_tf {R : Nat → Ru} {len j : Nat} {pt : Int} (hv : (R j).viol = true) (hm : (R j).meas = false) : nextA R len pt (j + 1) = ⟨len, (cv (lst R j) : Int) + 1, 0, anyM R j, 0, 0, pt⟩ := by
  unfold nextA; rw [cv_lst_succ, anyM]; simp [hv, hm]
theorem nextA_ft {R : Nat → Ru} {len j : Nat} {pt : Int} (hv : (R j).viol = false) (hm : (R j).meas = true) : nextA R len pt (j + 1) = ⟨len, cv (lst R j), 0, true, 0, 0, pt⟩ := by
  unfold nextA; rw [cv_lst_succ, anyM]; simp [hv, hm]
theorem nextA_ff {R : Nat → Ru} {len j : Nat} {pt : Int} (hv : (R j).viol = false) (hm : (R j).meas = false) : nextA R len pt (j + 1) = nextA R len pt j := by
  unfold nextA; rw [cv_lst_succ, anyM]; simp [hv, hm]

set_option maxRecDepth 100000 in
set_option maxHeartbeats 4000000 in
theorem exp_zero (R : Nat → Ru) (p : Option Addr) (cap : Nat) (pt : Int) (w : World) :
    Calls Trym.prog 9 #[.slice p 0 cap, .int .i64 pt] w fun e w' => ∃ E : Tl, e = .returned (.agg #[.int .i64 E.runs, .int .i64 E.viol, .int .i64 E.first, .bool E.meas, .int .i64 E.maxr, .int .i64 E.stab, .int .i64 E.pub]) ∧ IsT pt (lst R 0) E ∧ Below w.heap.size w w' := by
  go_enter Trym.func9, Trym.ntmps9
  go_wp2
  refine bodyPost_ret (v := .agg #[.int .i64 0, .int .i64 0, .int .i64 0, .bool false, .int .i64 0, .int .i64 0, .int .i64 0]) (by simp [results, Trym.results9, go_sem]) rfl ⟨zeroT, rfl, isT_nil pt, ?_⟩
  exact ((Below.refl _ _).alloc (Nat.le_refl _) _).alloc (by simp) _

set_option maxRecDepth 100000 in
set_option maxHeartbeats 4000000 in
theorem exp_pos (R : Nat → Ru) (p : Option Addr) (len cap : Nat) (pt : Int) (w : World) (hR : LiesR w p len R) (hL : len ≤ 4096) (hn : 0 < len) :
    Calls Trym.prog 9 #[.slice p len cap, .int .i64 pt] w fun e w' => ∃ E : Tl, e = .returned (.agg #[.int .i64 E.runs, .int .i64 E.viol, .int .i64 E.first, .bool E.meas, .int .i64 E.maxr, .int .i64 E.stab, .int .i64 E.pub]) ∧ IsT pt (lst R len) E ∧ Below w.heap.size w w' := by
  have h0 := ex_start w (nextA R len pt 0)
  have hlen0 : ((len : Int) == 0) = false := by simp; omega
  go_enter Trym.func9, Trym.ntmps9
  go_upto_block 0 with fail
  go_cut [7] (fun _ wx => Ex w wx (nextA R len pt len))
  case first => as_aux_lemma =>
    go_wp2_with fail
    go_loopg [7] len (fun g i wx => ∃ j : Nat, g + j = len ∧ i = .int .i64 (j : Int) ∧ Ex w wx (nextA R len pt j))
    case atStart => exact ⟨0, rfl, rfl, h0⟩
    case round =>
      obtain ⟨j, hg, rfl, hx⟩ := hrel
      clear h0
      by_cases hlt : j < len
      · obtain ⟨bb, off, rfl, hbb, hcells⟩ := (hR.below hx.below (Nat.le_refl _)).lies (by omega)
        obtain ⟨c0, c1, c2, c3, c4⟩ := hcells j (by omega)
        obtain ⟨b2, off2, e2, hbb2, _⟩ := hR.lies (by omega)
        obtain ⟨rfl, rfl⟩ : bb = b2 ∧ off = off2 := by simpa using e2
        clear hcells hR e2
        have hcv := cv_lst_le R j
        cases hv : (R j).viol <;> cases hm : (R j).meas
        · have HX : Hid (Ex w wr (nextA R len pt (j + 1))) := by rw [Hid, nextA_ff hv hm]; exact hx
          clear hx
          go_wp2
          go_roundg (gk - 1)
          case measure => omega
          case rel => exact ⟨j + 1, by omega, by go_num, HX.out⟩
        · have HX : Hid (Ex w (wr.setCell ⟨w.heap.size + 1, 3, none⟩ (.bool true)) (nextA R len pt (j + 1))) := by rw [Hid, nextA_ft hv hm]; exact hx.set 3 _ (at_set3 hx.want true)
          obtain ⟨_, _, t0, t1, t2, t3, t4, t5, t6, fz⟩ := hx
          go_wp2
          go_roundg (gk - 1)
          case measure => omega
          case rel => exact ⟨j + 1, by omega, by go_num, HX.out⟩
        · have HX : Hid (Ex w (wr.setCell ⟨w.heap.size + 1, 1, none⟩ (.int .i64 ((cv (lst R j) : Int) + 1))) (nextA R len pt (j + 1))) := by rw [Hid, nextA_tf hv hm]; exact hx.set 1 _ (at_set1 hx.want _)
          obtain ⟨_, _, t0, t1, t2, t3, t4, t5, t6, fz⟩ := hx
          unfold nextA at t1
          go_wp2
          go_roundg (gk - 1)
          case measure => omega
          case rel => exact ⟨j + 1, by omega, by go_num, HX.out⟩
        · have hy := hx.set 1 _ (at_set1 hx.want ((cv (lst R j) : Int) + 1))
          have HX : Hid (Ex w ((wr.setCell ⟨w.heap.size + 1, 1, none⟩ (.int .i64 ((cv (lst R j) : Int) + 1))).setCell ⟨w.heap.size + 1, 3, none⟩ (.bool true)) (nextA R len pt (j + 1))) := by rw [Hid, nextA_tt hv hm]; exact hy.set 3 _ (at_set3 hy.want true)
          clear hy
          obtain ⟨_, _, t0, t1, t2, t3, t4, t5, t6, fz⟩ := hx
          unfold nextA at t1
          go_wp2
          go_roundg (gk - 1)
          case measure => omega
          case rel => exact ⟨j + 1, by omega, by go_num, HX.out⟩
      · have HK : Hid (j = len) := by show j = len; omega
        go_wp2
        go_meet
        case rel => rw [HK.out] at hx; exact hx
  case rest =>
  clear h0
  have h0 := hcut
  clear hcut
  go_upto_block 2 with fail
  go_cut [8] (fun _ wx => ∃ F : Int, FirstIs R len F ∧ Ex w wx ⟨len, cv (lst R len), F, anyM R len, 0, 0, pt⟩)
  case first => as_aux_lemma =>
    go_wp2_with fail
    go_loopg [8] len (fun g i wx => ∃ j : Nat, g + j = len ∧ i = .int .i64 (j : Int) ∧ Ex w wx (nextA R len pt len) ∧ ∀ i, i < j → ¬ ((R i).viol = true ∧ noneB len (badV R (R i).seed) = true))
    case atStart => exact ⟨0, rfl, rfl, h0, fun i hi => absurd hi (Nat.not_lt_zero _)⟩
    case round =>
      obtain ⟨j, hg, rfl, hx, hno⟩ := hrel
      have Hno : Hid (∀ i, i < j → ¬ ((R i).viol = true ∧ noneB len (badV R (R i).seed) = true)) := hno
      clear hno h0
      by_cases hlt : j < len
      · have hRr := hR.below hx.below (Nat.le_refl _)
        obtain ⟨bb, off, rfl, hbb, hcells⟩ := hRr.lies (by omega)
        obtain ⟨c0, c1, c2, c3, c4⟩ := hcells j (by omega)
        obtain ⟨b2, off2, e2, hbb2, _⟩ := hR.lies (by omega)
        obtain ⟨rfl, rfl⟩ : bb = b2 ∧ off = off2 := by simpa using e2
        clear hcells e2 hR
        have fin : ¬ ((R j).viol = true ∧ noneB len (badV R (R j).seed) = true) → Hid (∀ i, i < j + 1 → ¬ ((R i).viol = true ∧ noneB len (badV R (R i).seed) = true)) := by
          intro h i hi
          rcases Nat.lt_succ_iff_lt_or_eq.1 hi with h' | h'
          · exact Hno.out i h'
          · rw [h']; exact h
        cases hv : (R j).viol with
        | false =>
          have HF := fin (by simp [hv])
          clear fin
          go_wp2_with fail
          go_roundg (gk - 1)
          case measure => omega
          case rel => exact ⟨j + 1, by omega, by go_num, hx, HF.out⟩
        | true =>
          cases hq : noneB len (badV R (R j).seed) with
          | false =>
            have HF := fin (by simp [hq])
            clear fin
            go_wp2_with fail
            refine (noV_any R _ len cap (R j).seed wr hRr hL).mono ?_
            rintro e w' ⟨rfl, hw'⟩
            obtain rfl : wr = w' := hw'.symm
            rw [hq]
            go_wp2_with fail
            go_roundg (gk - 1)
            case measure => omega
            case rel => exact ⟨j + 1, by omega, by go_num, hx, HF.out⟩
          | true =>
            have HX : Hid (Ex w (wr.setCell ⟨w.heap.size + 1, 2, none⟩ (.int .i64 (R j).seed)) ⟨len, cv (lst R len), (R j).seed, anyM R len, 0, 0, pt⟩) := hx.set 2 _ (at_set2 hx.want _)
            have HI : Hid (FirstIs R len (R j).seed) := firstIs_hit hlt hv hq
            clear fin
            obtain ⟨_, _, t0, t1, t2, t3, t4, t5, t6, fz⟩ := hx
            go_wp2_with fail
            refine (noV_any R _ len cap (R j).seed wr hRr hL).mono ?_
            rintro e w' ⟨rfl, hw'⟩
            obtain rfl : wr = w' := hw'.symm
            rw [hq]
            go_wp2_with fail
            go_meet
            case rel => exact ⟨(R j).seed, HI.out, HX.out⟩
      · have HI : Hid (FirstIs R len 0) := firstIs_miss (fun i hi => Hno.out i (by omega))
        go_wp2_with fail
        go_meet
        case rel => exact ⟨0, HI.out, hx⟩
  case rest =>
  obtain ⟨F, hF, hcut⟩ := hcut
  clear h0
  have h0 := hcut
  clear hcut
  go_upto_block 4 with fail
  go_cut [9] (fun _ wx => ∃ X : Int, MaxIs R len X ∧ Ex w wx ⟨len, cv (lst R len), F, anyM R len, X, 0, pt⟩)
  case first => as_aux_lemma =>
    go_wp2_with fail
    go_loopg [9] len (fun g i wx => ∃ j : Nat, g + j = len ∧ i = .int .i64 (j : Int) ∧ Ex w wx ⟨len, cv (lst R len), F, anyM R len, 0, 0, pt⟩ ∧ ∀ i, i < j → ¬ ((R i).meas = true ∧ noneB len (badM R (R i).rounds) = true))
    case atStart => exact ⟨0, rfl, rfl, h0, fun i hi => absurd hi (Nat.not_lt_zero _)⟩
    case round =>
      obtain ⟨j, hg, rfl, hx, hno⟩ := hrel
      have Hno : Hid (∀ i, i < j → ¬ ((R i).meas = true ∧ noneB len (badM R (R i).rounds) = true)) := hno
      clear hno h0
      by_cases hlt : j < len
      · have hRr := hR.below hx.below (Nat.le_refl _)
        obtain ⟨bb, off, rfl, hbb, hcells⟩ := hRr.lies (by omega)
        obtain ⟨c0, c1, c2, c3, c4⟩ := hcells j (by omega)
        obtain ⟨b2, off2, e2, hbb2, _⟩ := hR.lies (by omega)
        obtain ⟨rfl, rfl⟩ : bb = b2 ∧ off = off2 := by simpa using e2
        clear hcells e2 hR
        have fin : ¬ ((R j).meas = true ∧ noneB len (badM R (R j).rounds) = true) → Hid (∀ i, i < j + 1 → ¬ ((R i).meas = true ∧ noneB len (badM R (R i).rounds) = true)) := by
          intro h i hi
          rcases Nat.lt_succ_iff_lt_or_eq.1 hi with h' | h'
          · exact Hno.out i h'
          · rw [h']; exact h
        cases hv : (R j).meas with
        | false =>
          have HF := fin (by simp [hv])
          clear fin
          go_wp2_with fail
          go_roundg (gk - 1)
          case measure => omega
          case rel => exact ⟨j + 1, by omega, by go_num, hx, HF.out⟩
        | true =>
          cases hq : noneB len (badM R (R j).rounds) with
          | false =>
            have HF := fin (by simp [hq])
            clear fin
            go_wp2_with fail
            refine (noM_any R _ len cap (R j).rounds wr hRr hL).mono ?_
            rintro e w' ⟨rfl, hw'⟩
            obtain rfl : wr = w' := hw'.symm
            rw [hq]
            go_wp2_with fail
            go_roundg (gk - 1)
            case measure => omega
            case rel => exact ⟨j + 1, by omega, by go_num, hx, HF.out⟩
          | true =>
            have HX : Hid (Ex w (wr.setCell ⟨w.heap.size + 1, 4, none⟩ (.int .i64 (R j).rounds)) ⟨len, cv (lst R len), F, anyM R len, (R j).rounds, 0, pt⟩) := hx.set 4 _ (at_set4 hx.want _)
            have HI : Hid (MaxIs R len (R j).rounds) := maxIs_hit hlt hv hq
            clear fin
            obtain ⟨_, _, t0, t1, t2, t3, t4, t5, t6, fz⟩ := hx
            go_wp2_with fail
            refine (noM_any R _ len cap (R j).rounds wr hRr hL).mono ?_
            rintro e w' ⟨rfl, hw'⟩
            obtain rfl : wr = w' := hw'.symm
            rw [hq]
            go_wp2_with fail
            go_meet
            case rel => exact ⟨(R j).rounds, HI.out, HX.out⟩
      · have HI : Hid (MaxIs R len 0) := maxIs_miss (fun i hi => Hno.out i (by omega))
        go_wp2_with fail
        go_meet
        case rel => exact ⟨0, HI.out, hx⟩
  case rest =>
  obtain ⟨X, hX, hcut⟩ := hcut
  clear h0
  have h0 := hcut
  clear hcut
  go_upto_block 6 with fail
  go_cut [10] (fun _ wx => ∃ S : Int, StabIs R len S ∧ Ex w wx ⟨len, cv (lst R len), F, anyM R len, X, S, pt⟩)
  case first => as_aux_lemma =>
    go_wp2_with fail
    go_loopg [10] len (fun g i wx => ∃ j : Nat, g + j = len ∧ i = .int .i64 (j : Int) ∧ Ex w wx ⟨len, cv (lst R len), F, anyM R len, X, 0, pt⟩ ∧ ∀ i, i < j → ¬ (noneB len (badS R (R i).stab) = true))
    case atStart => exact ⟨0, rfl, rfl, h0, fun i hi => absurd hi (Nat.not_lt_zero _)⟩
    case round =>
      obtain ⟨j, hg, rfl, hx, hno⟩ := hrel
      have Hno : Hid (∀ i, i < j → ¬ (noneB len (badS R (R i).stab) = true)) := hno
      clear hno h0
      by_cases hlt : j < len
      · have hRr := hR.below hx.below (Nat.le_refl _)
        obtain ⟨bb, off, rfl, hbb, hcells⟩ := hRr.lies (by omega)
        obtain ⟨c0, c1, c2, c3, c4⟩ := hcells j (by omega)
        obtain ⟨b2, off2, e2, hbb2, _⟩ := hR.lies (by omega)
        obtain ⟨rfl, rfl⟩ : bb = b2 ∧ off = off2 := by simpa using e2
        clear hcells e2 hR
        have fin : ¬ (noneB len (badS R (R j).stab) = true) → Hid (∀ i, i < j + 1 → ¬ (noneB len (badS R (R i).stab) = true)) := by
          intro h i hi
          rcases Nat.lt_succ_iff_lt_or_eq.1 hi with h' | h'
          · exact Hno.out i h'
          · rw [h']; exact h
        cases hq : noneB len (badS R (R j).stab) with
        | false =>
          have HF := fin (by simp [hq])
          clear fin
          go_wp2_with fail
          refine (noS_any R _ len cap (R j).stab wr hRr hL).mono ?_
          rintro e w' ⟨rfl, hw'⟩
          obtain rfl : wr = w' := hw'.symm
          rw [hq]
          go_wp2_with fail
          go_roundg (gk - 1)
          case measure => omega
          case rel => exact ⟨j + 1, by omega, by go_num, hx, HF.out⟩
        | true =>
          have HX : Hid (Ex w (wr.setCell ⟨w.heap.size + 1, 5, none⟩ (.int .i64 (R j).stab)) ⟨len, cv (lst R len), F, anyM R len, X, (R j).stab, pt⟩) := hx.set 5 _ (at_set5 hx.want _)
          have HI : Hid (StabIs R len (R j).stab) := stabIs_hit hlt hq
          clear fin
          obtain ⟨_, _, t0, t1, t2, t3, t4, t5, t6, fz⟩ := hx
          go_wp2_with fail
          refine (noS_any R _ len cap (R j).stab wr hRr hL).mono ?_
          rintro e w' ⟨rfl, hw'⟩
          obtain rfl : wr = w' := hw'.symm
          rw [hq]
          go_wp2_with fail
          go_meet
          case rel => exact ⟨(R j).stab, HI.out, HX.out⟩
      · exact (stabIs_miss hn (fun i hi => Hno.out i (by omega))).elim
  case rest =>
  obtain ⟨S, hS, hx⟩ := hcut
  clear h0
  have HT : Hid (IsT pt (lst R len) ⟨len, cv (lst R len), F, anyM R len, X, S, pt⟩) := isT_of hn hF hX hS
  have HB : Hid (Below w.heap.size w wc) := hx.below
  obtain ⟨_, ⟨r0, r1, r2, r3, r4, r5, r6, rf⟩, t0, t1, t2, t3, t4, t5, t6, fz⟩ := hx
  go_wp2_with fail
  refine bodyPost_ret (v := .agg #[.int .i64 len, .int .i64 (cv (lst R len)), .int .i64 F, .bool (anyM R len), .int .i64 X, .int .i64 S, .int .i64 pt]) ?_ rfl ⟨⟨len, cv (lst R len), F, anyM R len, X, S, pt⟩, rfl, HT.out, ?_⟩
  · simp [results, Trym.results9, go_sem, r0, r1, r2, r3, r4, r5, r6]
  · exact ((((((HB.out.setCell (p := ⟨w.heap.size, 0, none⟩) (Nat.le_refl _) _).setCell (p := ⟨w.heap.size, 1, none⟩) (Nat.le_refl _) _).setCell (p := ⟨w.heap.size, 2, none⟩) (Nat.le_refl _) _).setCell (p := ⟨w.heap.size, 3, none⟩) (Nat.le_refl _) _).setCell (p := ⟨w.heap.size, 4, none⟩) (Nat.le_refl _) _).setCell (p := ⟨w.heap.size, 5, none⟩) (Nat.le_refl _) _).setCell (p := ⟨w.heap.size, 6, none⟩) (Nat.le_refl _) _
end Go.Proofs.Qxb6617332aMods
