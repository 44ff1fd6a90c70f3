import Derived.Test.Qxb6617332aModsFoldExp
namespace Go.Proofs.Qxb6617332aMods
open Go.RowKit

/-- The state of a run that began in w: its own blocks, each its tally, all apart. -/
structure Sf (w wx : World) (l : List (Nat × Tl)) : Prop where
  below : Below w.heap.size w wx
  at_ : ∀ p ∈ l, At wx p.1 p.2
  own : ∀ p ∈ l, w.heap.size ≤ p.1
  apart : (l.map Prod.fst).Nodup

theorem Sf.get {w wx : World} {l : List (Nat × Tl)} (h : Sf w wx l) (i : Nat) {b : Nat} {x : Tl} (e : l[i]? = some (b, x)) : At wx b x := h.at_ _ (List.mem_of_getElem? e)
theorem Sf.ne {w wx : World} {l : List (Nat × Tl)} (h : Sf w wx l) (i j : Nat) (hij : i < j) {b c : Nat} {x y : Tl} (e : l[i]? = some (b, x)) (f : l[j]? = some (c, y)) : b ≠ c := by
  obtain ⟨hi, e'⟩ := List.getElem?_eq_some_iff.1 e
  obtain ⟨hj, f'⟩ := List.getElem?_eq_some_iff.1 f
  have := List.pairwise_iff_getElem.1 h.apart i j (by simpa using hi) (by simpa using hj) hij
  simpa [e', f'] using this
theorem Sf.call {w wx w' : World} {l : List (Nat × Tl)} (h : Sf w wx l) (hb : Below wx.heap.size wx w') : Sf w w' l :=
  ⟨h.below.trans (hb.mono h.below.size), fun p hp => (h.at_ p hp).below hb (h.at_ p hp).lt, h.own, h.apart⟩
theorem Sf.new {w wx : World} {l : List (Nat × Tl)} (h : Sf w wx l) (t : TypeId) (x : Tl) : Sf w (wx.alloc (.cells #[.int .i64 x.runs, .int .i64 x.viol, .int .i64 x.first, .bool x.meas, .int .i64 x.maxr, .int .i64 x.stab, .int .i64 x.pub] t)) (l ++ [(wx.heap.size, x)]) := by
  have hb : Below wx.heap.size wx (wx.alloc (.cells #[.int .i64 x.runs, .int .i64 x.viol, .int .i64 x.first, .bool x.meas, .int .i64 x.maxr, .int .i64 x.stab, .int .i64 x.pub] t)) := (Below.refl _ _).alloc (Nat.le_refl _) _
  refine ⟨h.below.alloc h.below.size _, ?_, ?_, ?_⟩
  · intro p hp
    rcases List.mem_append.1 hp with hp | hp
    · exact (h.at_ p hp).below hb (h.at_ p hp).lt
    · simp at hp; subst hp; exact at_new wx t x
  · intro p hp
    rcases List.mem_append.1 hp with hp | hp
    · exact h.own p hp
    · simp at hp; subst hp; exact h.below.size
  · rw [List.map_append, List.nodup_append]
    refine ⟨h.apart, by simp, ?_⟩
    intro a ha b hb'
    simp only [List.map_cons, List.map_nil, List.mem_singleton] at hb'
    subst hb'
    obtain ⟨p, hp, rfl⟩ := List.mem_map.1 ha
    have := (h.at_ p hp).lt
    omega
theorem Sf.upd {w wx w' : World} {l : List (Nat × Tl)} (h : Sf w wx l) (i : Nat) {b : Nat} {x y : Tl} (e : l[i]? = some (b, x)) (hu : Upd b wx w') (ha : At w' b y) : Sf w w' (l.set i (b, y)) := by
  have hi := (List.getElem?_eq_some_iff.1 e).1
  have hm : (l.set i (b, y)).map Prod.fst = l.map Prod.fst := by
    rw [List.map_set]
    apply List.ext_getElem?
    intro k
    rw [List.getElem?_set]
    split
    · rename_i hk; subst hk; simp only [List.getElem?_map, e, Option.map_some, List.length_map, hi, if_true]
    · rfl
  have own_b : w.heap.size ≤ b := h.own _ (List.mem_of_getElem? e)
  refine ⟨h.below.trans (hu.below own_b), ?_, ?_, by rw [hm]; exact h.apart⟩
  · intro p hp
    obtain ⟨k, hk⟩ := List.mem_iff_getElem?.1 hp
    rw [List.getElem?_set] at hk
    split at hk
    · rename_i hik
      subst hik; simp only [Option.some.injEq] at hk; subst hk; exact ha
    · rename_i hik
      obtain ⟨c, z⟩ := p
      have hne : b ≠ c := by
        rcases Nat.lt_or_gt_of_ne hik with h' | h'
        · exact h.ne i k h' e hk
        · exact fun q => h.ne k i h' hk e q.symm
      exact (h.get k hk).upd hu (fun q => hne q.symm)
  · intro p hp
    have : p.1 ∈ (l.set i (b, y)).map Prod.fst := List.mem_map_of_mem hp
    rw [hm] at this
    obtain ⟨q, hq, e'⟩ := List.mem_map.1 this
    rw [← e']
    exact h.own q hq


theorem Sf.drop {w wx : World} {l : List (Nat × Tl)} {x : Nat × Tl} (h : Sf w wx (l ++ [x])) : Sf w wx l := by
  refine ⟨h.below, fun p hp => h.at_ p (List.mem_append_left _ hp), fun p hp => h.own p (List.mem_append_left _ hp), ?_⟩
  have := h.apart
  rw [List.map_append, List.nodup_append] at this
  exact this.1
theorem sf_start (w wx : World) (h : Below w.heap.size w wx) : Sf w wx [] := ⟨h, by simp, by simp, by simp⟩
theorem vint {a b : Int} (h : a = b) : Value.int .i64 a = .int .i64 b := by rw [h]

theorem exp_any (R : Nat → Ru) (p : Option Addr) (len cap : Nat) (pt : Int) (w : World) (hR : LiesR w p len R) (hL : len ≤ 4096) :
    Calls Trym.prog 9 #[.slice p len cap, .int .i64 pt] w fun e w' => ∃ E : Tl, e = .returned (.agg #[.int .i64 E.runs, .int .i64 E.viol, .int .i64 E.first, .bool E.meas, .int .i64 E.maxr, .int .i64 E.stab, .int .i64 E.pub]) ∧ IsT pt (lst R len) E ∧ Below w.heap.size w w' := by
  rcases Nat.eq_zero_or_pos len with h | h
  · subst h; exact exp_zero R p cap pt w
  · exact exp_pos R p len cap pt w hR hL h

set_option maxRecDepth 100000 in
set_option maxHeartbeats 4000000 in
theorem f_early1 (p : Option Addr) (len cap : Nat) (pt cut : Int) (w : World) (hcap : len ≤ 9223372036854775807) (h1 : ¬ len ≤ 1048576) :
    Calls Trym.prog 3 #[.slice p len cap, .int .i64 pt, .int .i64 cut] w fun e w' => e = .returned (.bool true) ∧ Below w.heap.size w w' := by
  have hd : decide (len ≤ 1048576) = false := by simp; omega
  go_enter Trym.func3, Trym.ntmps3
  go_wp2_with fail
  refine (zzbytes3_any w pt cut p len cap hcap).mono ?_
  rintro e w' ⟨rfl, rfl⟩
  rw [hd]
  go_wp2_with fail
  go_ret
  exact ⟨rfl, Below.refl _ _⟩

set_option maxRecDepth 100000 in
set_option maxHeartbeats 4000000 in
theorem f_early2 (p : Option Addr) (len cap : Nat) (pt cut : Int) (w : World) (hcap : len ≤ 9223372036854775807) (h1 : len ≤ 1048576) (h2 : ¬ len ≤ 4096) :
    Calls Trym.prog 3 #[.slice p len cap, .int .i64 pt, .int .i64 cut] w fun e w' => e = .returned (.bool true) ∧ Below w.heap.size w w' := by
  have hd : decide (len ≤ 1048576) = true := by simp; omega
  go_enter Trym.func3, Trym.ntmps3
  go_wp2_with fail
  refine (zzbytes3_any w pt cut p len cap hcap).mono ?_
  rintro e w' ⟨rfl, rfl⟩
  rw [hd]
  go_wp2_with fail
  go_ret
  exact ⟨rfl, Below.refl _ _⟩

set_option maxRecDepth 100000 in
set_option maxHeartbeats 4000000 in
theorem f_early3 (p : Option Addr) (len cap : Nat) (pt cut : Int) (w : World) (hcap : len ≤ 9223372036854775807) (h1 : len ≤ 4096) (h2 : pt < 0) :
    Calls Trym.prog 3 #[.slice p len cap, .int .i64 pt, .int .i64 cut] w fun e w' => e = .returned (.bool true) ∧ Below w.heap.size w w' := by
  have hd : decide (len ≤ 1048576) = true := by simp; omega
  go_enter Trym.func3, Trym.ntmps3
  go_wp2_with fail
  refine (zzbytes3_any w pt cut p len cap hcap).mono ?_
  rintro e w' ⟨rfl, rfl⟩
  rw [hd]
  go_wp2_with fail
  go_ret
  exact ⟨rfl, Below.refl _ _⟩

set_option maxRecDepth 100000 in
set_option maxHeartbeats 4000000 in
theorem f_early4 (p : Option Addr) (len cap : Nat) (pt cut : Int) (w : World) (hcap : len ≤ 9223372036854775807) (h1 : len ≤ 4096) (h2 : 0 ≤ pt) (h3 : cut < 0) :
    Calls Trym.prog 3 #[.slice p len cap, .int .i64 pt, .int .i64 cut] w fun e w' => e = .returned (.bool true) ∧ Below w.heap.size w w' := by
  have hd : decide (len ≤ 1048576) = true := by simp; omega
  go_enter Trym.func3, Trym.ntmps3
  go_wp2_with fail
  refine (zzbytes3_any w pt cut p len cap hcap).mono ?_
  rintro e w' ⟨rfl, rfl⟩
  rw [hd]
  go_wp2_with fail
  go_ret
  exact ⟨rfl, Below.refl _ _⟩

set_option maxRecDepth 100000 in
set_option maxHeartbeats 4000000 in
theorem f_early5 (p : Option Addr) (len cap : Nat) (pt cut : Int) (w : World) (hcap : len ≤ 9223372036854775807) (h1 : len ≤ 4096) (h2 : 0 ≤ pt) (h3 : 0 ≤ cut) (h4 : (len : Int) < cut) :
    Calls Trym.prog 3 #[.slice p len cap, .int .i64 pt, .int .i64 cut] w fun e w' => e = .returned (.bool true) ∧ Below w.heap.size w w' := by
  have hd : decide (len ≤ 1048576) = true := by simp; omega
  go_enter Trym.func3, Trym.ntmps3
  go_wp2_with fail
  refine (zzbytes3_any w pt cut p len cap hcap).mono ?_
  rintro e w' ⟨rfl, rfl⟩
  rw [hd]
  go_wp2_with fail
  go_ret
  exact ⟨rfl, Below.refl _ _⟩

set_option maxRecDepth 100000 in
set_option maxHeartbeats 4000000 in
theorem fold_main (R : Nat → Ru) (p : Option Addr) (len cap c : Nat) (pt : Int) (w : World) (hR : LiesR w p len R) (hL : len ≤ 4096) (hpt : 0 ≤ pt) (hc : c ≤ len) :
    Calls Trym.prog 3 #[.slice p len cap, .int .i64 pt, .int .i64 (c : Int)] w fun e w' => e = .returned (.bool true) ∧ Below w.heap.size w w' := by
  have hd : decide (len ≤ 1048576) = true := by simp; omega
  have b1 : decide ((4096 : Int) < (len : Int)) = false := by simp; omega
  have b2 : decide (pt < 0) = false := by simp; omega
  have b3 : decide ((c : Int) < 0) = false := by simp
  have b4 : decide (len < c) = false := by simp; omega
  go_enter Trym.func3, Trym.ntmps3
  go_wp2_with fail
  refine (zzbytes3_any w pt c p len cap (by omega)).mono ?_
  rintro e w' ⟨rfl, hw⟩
  obtain rfl : w = w' := hw.symm
  rw [hd]
  clear hd
  go_upto_block 0 with fail
  go_cut [7] (fun _ wx => (∀ i, i < len → 0 ≤ (R i).stab) ∧ w = wx)
  case first => as_aux_lemma =>
    go_wp2_with fail
    go_loopg [7] len (fun g i wx => ∃ j : Nat, g + j = len ∧ i = .int .i64 (j : Int) ∧ (∀ i, i < j → 0 ≤ (R i).stab) ∧ w = wx)
    case atStart => exact ⟨0, rfl, rfl, fun i hi => absurd hi (Nat.not_lt_zero _), rfl⟩
    case round =>
      obtain ⟨j, hg, rfl, hno, rfl⟩ := hrel
      have Hno : Hid (∀ i, i < j → 0 ≤ (R i).stab) := hno
      clear hno
      by_cases hlt : j < len
      · obtain ⟨bb, off, rfl, hbb, hcells⟩ := hR.lies (by omega)
        obtain ⟨c0, c1, c2, c3, c4⟩ := hcells j (by omega)
        clear hcells
        by_cases hs : (R j).stab < 0
        · go_wp2
          go_ret
          exact ⟨rfl, Below.refl _ _⟩
        · have HF : Hid (∀ i, i < j + 1 → 0 ≤ (R i).stab) := by
            intro i hi
            rcases Nat.lt_succ_iff_lt_or_eq.1 hi with h' | h'
            · exact Hno.out i h'
            · rw [h']; omega
          go_wp2
          go_roundg (gk - 1)
          case measure => omega
          case rel => exact ⟨j + 1, by omega, by go_num, HF.out, rfl⟩
      · have HF : Hid (∀ i, i < len → 0 ≤ (R i).stab) := fun i hi => Hno.out i (by omega)
        go_wp2
        go_meet
        case rel => exact ⟨HF.out, rfl⟩
  case rest =>
  obtain ⟨hstab, rfl⟩ := hcut
  have Hst : Hid (∀ i, i < len → 0 ≤ (R i).stab) := hstab
  clear hstab
  have h0 : Sf w (w.alloc (.cells #[.int .i64 0, .int .i64 0, .int .i64 0, .bool false, .int .i64 0, .int .i64 0, .int .i64 0] 27)) [(w.heap.size, zeroT)] := (sf_start w w (Below.refl _ _)).new 27 zeroT
  go_upto_block 2 with fail
  go_cut [10, 11] (fun _ _ wx => ∃ t, IsT pt (lst R len) t ∧ Sf w wx [(w.heap.size, t)])
  case first => as_aux_lemma =>
    go_wp2_with fail
    go_loopg [10, 11] len (fun g i _ wx => ∃ (j : Nat) (t : Tl), g + j = len ∧ i = .int .i64 (j : Int) ∧ IsT pt (lst R j) t ∧ Sf w wx [(w.heap.size, t)])
    case atStart => exact ⟨0, zeroT, rfl, rfl, isT_nil pt, h0⟩
    case round =>
      obtain ⟨j, t, hg, rfl, ht, hs⟩ := hrel
      clear h0
      by_cases hlt : j < len
      · obtain ⟨bb, off, rfl, hbb, hcells⟩ := (hR.below hs.below (Nat.le_refl _)).lies (by omega)
        obtain ⟨c0, c1, c2, c3, c4⟩ := hcells j (by omega)
        clear hcells hR
        have HT : Hid (IsT pt (lst R (j + 1)) (mergeT t (oneT (R j) pt))) := by
          rw [Hid, lst_succ]
          refine ht.merge (isT_one pt (R j)) (fun r hr => ?_) (fun r hr => ?_) hpt (by rw [lst_len]; simp; omega)
          · obtain ⟨i, hi, rfl⟩ := mem_lst.1 hr; exact Hst.out i (by omega)
          · simp at hr; subst hr; exact Hst.out j hlt
        go_wp2_with fail
        refine (runTally_any (R j) pt _).mono ?_
        rintro e w1 ⟨rfl, hb1⟩
        clear c0 c1 c2 c3 c4
        have hs1 := (hs.call hb1).new 27 (oneT (R j) pt)
        go_wp2_with fail
        refine (zzmerge_calls _ w.heap.size w1.heap.size (hs1.ne 0 1 (by decide) rfl rfl) t (oneT (R j) pt) (hs1.get 0 rfl) (hs1.get 1 rfl)).mono ?_
        rintro e w2 ⟨rfl, hu2, ha2⟩
        have hs2 : Sf w w2 [(w.heap.size, mergeT t (oneT (R j) pt))] := (hs1.upd 0 rfl hu2 ha2 : Sf w w2 ([(w.heap.size, mergeT t (oneT (R j) pt))] ++ [(w1.heap.size, oneT (R j) pt)])).drop
        go_wp2_with fail
        go_roundg (gk - 1)
        case measure => omega
        case rel => exact ⟨j + 1, _, by omega, by go_num, HT.out, hs2⟩
      · have HK : Hid (j = len) := by show j = len; omega
        go_wp2_with fail
        go_meet
        case rel => rw [HK.out] at ht; exact ⟨t, ht, hs⟩
  case rest =>
  clear h0
  obtain ⟨t1, ht1, hs0⟩ := hcut
  have h0 : Sf w (wc.alloc (.cells #[.int .i64 0, .int .i64 0, .int .i64 0, .bool false, .int .i64 0, .int .i64 0, .int .i64 0] 27)) [(w.heap.size, t1), (wc.heap.size, zeroT)] := hs0.new 27 zeroT
  clear hs0
  go_upto_block 4 with fail
  go_cut [12, 13, 14] (fun s12 _ _ wx => ∃ bl t, s12 = .pointer (some ⟨bl, 0, none⟩) ∧ IsT pt (lst R c) t ∧ Sf w wx [(w.heap.size, t1), (bl, t)])
  case first => as_aux_lemma =>
    go_wp2_with fail
    go_loopg [13, 14] c (fun g i _ wx => ∃ (j : Nat) (t : Tl), g + j = c ∧ i = .int .i64 (j : Int) ∧ IsT pt (lst R j) t ∧ Sf w wx [(w.heap.size, t1), (wc.heap.size, t)])
    case atStart => exact ⟨0, zeroT, rfl, rfl, isT_nil pt, h0⟩
    case round =>
      obtain ⟨j, t, hg, rfl, ht, hs⟩ := hrel
      clear h0
      generalize wc.heap.size = bl at *
      by_cases hlt : j < c
      · obtain ⟨bb, off, rfl, hbb, hcells⟩ := (hR.below hs.below (Nat.le_refl _)).lies (by omega)
        obtain ⟨c0, c1, c2, c3, c4⟩ := hcells j (by omega)
        clear hcells hR
        have hjl : j < len := by omega
        have HT : Hid (IsT pt (lst R (j + 1)) (mergeT t (oneT (R j) pt))) := by
          rw [Hid, lst_succ]
          refine ht.merge (isT_one pt (R j)) (fun r hr => ?_) (fun r hr => ?_) hpt (by rw [lst_len]; simp; omega)
          · obtain ⟨i, hi, rfl⟩ := mem_lst.1 hr; exact Hst.out i (by omega)
          · simp at hr; subst hr; exact Hst.out j hjl
        go_wp2_with fail
        refine (runTally_any (R j) pt _).mono ?_
        rintro e w1 ⟨rfl, hb1⟩
        clear c0 c1 c2 c3 c4
        have hs1 := (hs.call hb1).new 27 (oneT (R j) pt)
        go_wp2_with fail
        refine (zzmerge_calls _ bl w1.heap.size (hs1.ne 1 2 (by decide) rfl rfl) t (oneT (R j) pt) (hs1.get 1 rfl) (hs1.get 2 rfl)).mono ?_
        rintro e w2 ⟨rfl, hu2, ha2⟩
        have hs2 : Sf w w2 [(w.heap.size, t1), (bl, mergeT t (oneT (R j) pt))] := (hs1.upd 1 rfl hu2 ha2 : Sf w w2 ([(w.heap.size, t1), (bl, mergeT t (oneT (R j) pt))] ++ [(w1.heap.size, oneT (R j) pt)])).drop
        go_wp2_with fail
        go_roundg (gk - 1)
        case measure => omega
        case rel => exact ⟨j + 1, _, by omega, by go_num, HT.out, hs2⟩
      · have HK : Hid (j = c) := by show j = c; omega
        go_wp2_with fail
        go_meet
        case rel => rw [HK.out] at ht; exact ⟨_, t, rfl, ht, hs⟩
  case rest =>
  clear h0
  obtain ⟨bl, t2, rfl, ht2, hs0⟩ := hcut
  have h0 : Sf w (wc.alloc (.cells #[.int .i64 0, .int .i64 0, .int .i64 0, .bool false, .int .i64 0, .int .i64 0, .int .i64 0] 27)) [(w.heap.size, t1), (bl, t2), (wc.heap.size, zeroT)] := hs0.new 27 zeroT
  clear hs0
  go_upto_block 6 with fail
  go_cut [15, 16, 17] (fun s15 _ _ wx => ∃ br t, s15 = .pointer (some ⟨br, 0, none⟩) ∧ IsT pt (dl R len (len - c)) t ∧ Sf w wx [(w.heap.size, t1), (bl, t2), (br, t)])
  case first => as_aux_lemma =>
    go_wp2_with fail
    go_loopg [16, 17] (len - c) (fun g i _ wx => ∃ (k : Nat) (i0 : Int) (t : Tl), g + k = len - c ∧ i = .int .i64 i0 ∧ i0 + 1 + k = len ∧ IsT pt (dl R len k) t ∧ Sf w wx [(w.heap.size, t1), (bl, t2), (wc.heap.size, t)])
    case atStart => exact ⟨0, _, zeroT, rfl, rfl, by omega, isT_nil pt, h0⟩
    case round =>
      obtain ⟨k, i0, t, hg, rfl, hi0, ht, hs⟩ := hrel
      clear h0
      generalize wc.heap.size = br at *
      have Hi0 : Hid (i0 + 1 + k = len) := hi0
      have hia : i0 + 1 + k ≤ len := by omega
      have hib : (len : Int) ≤ i0 + 1 + k := by omega
      clear hi0
      by_cases hlt : (c : Int) ≤ i0
      · obtain ⟨j, rfl⟩ := Int.eq_ofNat_of_zero_le (show 0 ≤ i0 by omega)
        obtain ⟨bb, off, rfl, hbb, hcells⟩ := (hR.below hs.below (Nat.le_refl _)).lies (by omega)
        obtain ⟨c0, c1, c2, c3, c4⟩ := hcells j (by omega)
        clear hcells hR
        have hjl : j < len := by omega
        have HT : Hid (IsT pt (dl R len (k + 1)) (mergeT t (oneT (R j) pt))) := by
          have e : len - 1 - k = j := by omega
          rw [Hid, dl, e]
          refine ht.merge (isT_one pt (R j)) (fun r hr => ?_) (fun r hr => ?_) hpt (by rw [dl_len]; simp; omega)
          · obtain ⟨i, hi, rfl⟩ := dl_mem (by omega) hr; exact Hst.out i hi
          · simp at hr; subst hr; exact Hst.out j hjl
        go_wp2_with fail
        refine (runTally_any (R j) pt _).mono ?_
        rintro e w1 ⟨rfl, hb1⟩
        clear c0 c1 c2 c3 c4
        have hs1 := (hs.call hb1).new 27 (oneT (R j) pt)
        go_wp2_with fail
        refine (zzmerge_calls _ br w1.heap.size (hs1.ne 2 3 (by decide) rfl rfl) t (oneT (R j) pt) (hs1.get 2 rfl) (hs1.get 3 rfl)).mono ?_
        rintro e w2 ⟨rfl, hu2, ha2⟩
        have hs2 : Sf w w2 [(w.heap.size, t1), (bl, t2), (br, mergeT t (oneT (R j) pt))] := (hs1.upd 2 rfl hu2 ha2 : Sf w w2 ([(w.heap.size, t1), (bl, t2), (br, mergeT t (oneT (R j) pt))] ++ [(w1.heap.size, oneT (R j) pt)])).drop
        go_wp2_with fail
        go_roundg (gk - 1)
        case measure => omega
        case rel => exact ⟨k + 1, _, _, by omega, rfl, by omega, HT.out, hs2⟩
      · have HK : Hid (k = len - c) := by show k = len - c; omega
        go_wp2_with fail
        go_meet
        case rel => rw [HK.out] at ht; exact ⟨_, t, rfl, ht, hs⟩
  case rest =>
  clear h0
  obtain ⟨br, t3, rfl, ht3, hs⟩ := hcut
  have HT : Hid (IsT pt (lst R len) (mergeT t3 t2)) := by
    have hm := ht3.merge ht2 (fun r hr => by obtain ⟨i, hi, rfl⟩ := dl_mem (by omega) hr; exact Hst.out i hi) (fun r hr => by obtain ⟨i, hi, rfl⟩ := mem_lst.1 hr; exact Hst.out i (by omega)) hpt (by rw [dl_len, lst_len]; omega)
    have := dl_perm R len (len - c) (by omega)
    rw [show len - (len - c) = c by omega] at this
    exact hm.perm this
  go_wp2_with fail
  refine (zzmerge_calls _ br bl (Ne.symm (hs.ne 1 2 (by decide) rfl rfl)) t3 t2 (hs.get 2 rfl) (hs.get 1 rfl)).mono ?_
  rintro e w2 ⟨rfl, hu2, ha2⟩
  have hs2 : Sf w w2 [(w.heap.size, t1), (bl, t2), (br, mergeT t3 t2)] := hs.upd 2 rfl hu2 ha2
  go_wp2_with fail
  refine (exp_any R p len cap pt w2 (hR.below hs2.below (Nat.le_refl _)) hL).mono ?_
  rintro e w3 ⟨E, rfl, hE, hb3⟩
  obtain rfl := ht1.uniq hE
  have e3 := HT.out.uniq hE
  rw [e3] at hs2
  have hs3 := (hs2.call hb3).new 27 t1
  have hbel := hs3.below
  have E0 := hs3.get 0 rfl
  have E2 := hs3.get 2 rfl
  have E3 := hs3.get 3 rfl
  have lz : w.heap.size < w3.heap.size := ((hs2.call hb3).get 0 rfl).lt
  have lb : br < w3.heap.size := ((hs2.call hb3).get 2 rfl).lt
  have A0 := (hs2.call hb3).get 0 rfl
  have A2 := (hs2.call hb3).get 2 rfl
  clear hs hs2 hs3 hE E0 E2 E3 e3 hu2 ha2
  obtain ⟨c0, c1, c2, c3, c4, c5, c6, _⟩ := A0
  obtain ⟨d0, d1, d2, d3, d4, d5, d6, _⟩ := A2
  go_wp2_with fail
  go_ret
  exact ⟨rfl, hbel⟩

theorem fold_walk (R : Nat → Ru) (p : Option Addr) (len cap : Nat) (pt cut : Int) (w : World) (hcap : len ≤ 9223372036854775807) (hR : LiesR w p len R) :
    Calls Trym.prog 3 #[.slice p len cap, .int .i64 pt, .int .i64 cut] w fun e w' => e = .returned (.bool true) ∧ Below w.heap.size w w' := by
  by_cases h1 : len ≤ 1048576
  · by_cases h2 : len ≤ 4096
    · by_cases h3 : 0 ≤ pt
      · by_cases h4 : 0 ≤ cut
        · by_cases h5 : cut ≤ len
          · obtain ⟨c, rfl⟩ := Int.eq_ofNat_of_zero_le h4
            exact fold_main R p len cap c pt w hR h2 h3 (by omega)
          · exact f_early5 p len cap pt cut w hcap h2 h3 h4 (by omega)
        · exact f_early4 p len cap pt cut w hcap h2 h3 (by omega)
      · exact f_early3 p len cap pt cut w hcap h2 (by omega)
    · exact f_early2 p len cap pt cut w hcap h1 h2
  · exact f_early1 p len cap pt cut w hcap h1
end Go.Proofs.Qxb6617332aMods
