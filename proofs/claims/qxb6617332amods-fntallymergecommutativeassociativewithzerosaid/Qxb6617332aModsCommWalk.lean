import Derived.Test.Qxb6617332aModsComm
namespace Go.Proofs.Qxb6617332aMods
open Go.RowKit

theorem at_alloc (w : World) (t : TypeId) (x : Tl) : At (w.alloc (.cells #[.int .i64 x.runs, .int .i64 x.viol, .int .i64 x.first, .bool x.meas, .int .i64 x.maxr, .int .i64 x.stab, .int .i64 x.pub] t)) w.heap.size x := by
  refine ⟨?_, ?_, ?_, ?_, ?_, ?_, ?_, ?_⟩ <;> (try intro i) <;> go_simp

/-- The tally t laid into block b, field by field. -/
def layT (w : World) (b : Nat) (t : Tl) : World :=
  ((((((w.setCell ⟨b, 0, none⟩ (.int .i64 t.runs)).setCell ⟨b, 1, none⟩ (.int .i64 t.viol)).setCell ⟨b, 2, none⟩ (.int .i64 t.first)).setCell ⟨b, 3, none⟩ (.bool t.meas)).setCell ⟨b, 4, none⟩ (.int .i64 t.maxr)).setCell ⟨b, 5, none⟩ (.int .i64 t.stab)).setCell ⟨b, 6, none⟩ (.int .i64 t.pub)
theorem lay_upd (w : World) (b : Nat) (t : Tl) : Upd b w (layT w b t) := by
  unfold layT
  exact (((((((Upd.refl b w).set 0 _).set 1 _).set 2 _).set 3 _).set 4 _).set 5 _).set 6 _
theorem lay_at {w : World} {b : Nat} {s : Tl} (h : At w b s) (t : Tl) : At (layT w b t) b t := by
  obtain ⟨t0, t1, t2, t3, t4, t5, t6, f⟩ := h
  unfold layT
  refine ⟨?_, ?_, ?_, ?_, ?_, ?_, ?_, ?_⟩ <;> (try intro i) <;> go_simp

/-- The state of a run that began in w: its own blocks, each its tally, all apart. -/
structure St (w wx : World) (l : List (Nat × Tl)) : Prop where
  below : Below w.heap.size w wx
  at_ : ∀ p ∈ l, At wx p.1 p.2
  own : ∀ p ∈ l, w.heap.size ≤ p.1
  apart : (l.map Prod.fst).Nodup

theorem St.get {w wx : World} {l : List (Nat × Tl)} (h : St w wx l) (i : Nat) {b : Nat} {x : Tl} (e : l[i]? = some (b, x)) : At wx b x := h.at_ _ (List.mem_of_getElem? e)
theorem St.ne {w wx : World} {l : List (Nat × Tl)} (h : St w wx l) (i j : Nat) (hij : i < j) {b c : Nat} {x y : Tl} (e : l[i]? = some (b, x)) (f : l[j]? = some (c, y)) : b ≠ c := by
  obtain ⟨hi, e'⟩ := List.getElem?_eq_some_iff.1 e
  obtain ⟨hj, f'⟩ := List.getElem?_eq_some_iff.1 f
  have := List.pairwise_iff_getElem.1 h.apart i j (by simpa using hi) (by simpa using hj) hij
  simpa [e', f'] using this
theorem St.call {w wx w' : World} {l : List (Nat × Tl)} (h : St w wx l) (hb : Below wx.heap.size wx w') : St w w' l :=
  ⟨h.below.trans (hb.mono h.below.size), fun p hp => (h.at_ p hp).below hb (h.at_ p hp).lt, h.own, h.apart⟩
theorem St.new {w wx : World} {l : List (Nat × Tl)} (h : St w wx l) (t : TypeId) (x : Tl) : St w (wx.alloc (.cells #[.int .i64 x.runs, .int .i64 x.viol, .int .i64 x.first, .bool x.meas, .int .i64 x.maxr, .int .i64 x.stab, .int .i64 x.pub] t)) (l ++ [(wx.heap.size, x)]) := by
  have hb : Below wx.heap.size wx (wx.alloc (.cells #[.int .i64 x.runs, .int .i64 x.viol, .int .i64 x.first, .bool x.meas, .int .i64 x.maxr, .int .i64 x.stab, .int .i64 x.pub] t)) := (Below.refl _ _).alloc (Nat.le_refl _) _
  refine ⟨h.below.alloc h.below.size _, ?_, ?_, ?_⟩
  · intro p hp
    rcases List.mem_append.1 hp with hp | hp
    · exact (h.at_ p hp).below hb (h.at_ p hp).lt
    · simp at hp; subst hp; exact at_alloc wx t x
  · intro p hp
    rcases List.mem_append.1 hp with hp | hp
    · exact h.own p hp
    · simp at hp; subst hp; exact h.below.size
  · rw [List.map_append, List.nodup_append]
    refine ⟨h.apart, by simp, ?_⟩
    intro a ha b hb'
    simp only [List.map_cons, List.map_nil, List.mem_singleton] at hb'
    subst hb'
    obtain ⟨p, hp, rfl⟩ := List.mem_map.1 ha
    have := (h.at_ p hp).lt
    omega
theorem St.upd {w wx w' : World} {l : List (Nat × Tl)} (h : St w wx l) (i : Nat) {b : Nat} {x y : Tl} (e : l[i]? = some (b, x)) (hu : Upd b wx w') (ha : At w' b y) : St w w' (l.set i (b, y)) := by
  have hi := (List.getElem?_eq_some_iff.1 e).1
  have hm : (l.set i (b, y)).map Prod.fst = l.map Prod.fst := by
    rw [List.map_set]
    apply List.ext_getElem?
    intro k
    rw [List.getElem?_set]
    split
    · rename_i hk; subst hk; simp only [List.getElem?_map, e, Option.map_some, List.length_map, hi, if_true]
    · rfl
  have own_b : w.heap.size ≤ b := h.own _ (List.mem_of_getElem? e)
  refine ⟨h.below.trans (hu.below own_b), ?_, ?_, by rw [hm]; exact h.apart⟩
  · intro p hp
    obtain ⟨k, hk⟩ := List.mem_iff_getElem?.1 hp
    rw [List.getElem?_set] at hk
    split at hk
    · rename_i hik
      subst hik; simp only [Option.some.injEq] at hk; subst hk; exact ha
    · rename_i hik
      obtain ⟨c, z⟩ := p
      have hne : b ≠ c := by
        rcases Nat.lt_or_gt_of_ne hik with h' | h'
        · exact h.ne i k h' e hk
        · exact fun q => h.ne k i h' hk e q.symm
      exact (h.get k hk).upd hu (fun q => hne q.symm)
  · intro p hp
    have : p.1 ∈ (l.set i (b, y)).map Prod.fst := List.mem_map_of_mem hp
    rw [hm] at this
    obtain ⟨q, hq, e'⟩ := List.mem_map.1 this
    rw [← e']
    exact h.own q hq

theorem st_start (w : World) (a b c : Tl) : St w (((w.alloc (.cells #[.int .i64 a.runs, .int .i64 a.viol, .int .i64 a.first, .bool a.meas, .int .i64 a.maxr, .int .i64 a.stab, .int .i64 a.pub] 32)).alloc (.cells #[.int .i64 b.runs, .int .i64 b.viol, .int .i64 b.first, .bool b.meas, .int .i64 b.maxr, .int .i64 b.stab, .int .i64 b.pub] 32)).alloc (.cells #[.int .i64 c.runs, .int .i64 c.viol, .int .i64 c.first, .bool c.meas, .int .i64 c.maxr, .int .i64 c.stab, .int .i64 c.pub] 32)) [(w.heap.size, a), (w.heap.size + 1, b), (w.heap.size + 1 + 1, c)] := by
  have h0 : St w w [] := ⟨Below.refl _ _, by simp, by simp, by simp⟩
  have := ((h0.new 32 a).new 32 b).new 32 c
  simpa using this

set_option maxRecDepth 100000 in
set_option maxHeartbeats 4000000 in
theorem comm_walk (a b c : Tl) (w : World) :
    Calls Trym.prog 4 #[.agg #[.int .i64 a.runs, .int .i64 a.viol, .int .i64 a.first, .bool a.meas, .int .i64 a.maxr, .int .i64 a.stab, .int .i64 a.pub],
      .agg #[.int .i64 b.runs, .int .i64 b.viol, .int .i64 b.first, .bool b.meas, .int .i64 b.maxr, .int .i64 b.stab, .int .i64 b.pub],
      .agg #[.int .i64 c.runs, .int .i64 c.viol, .int .i64 c.first, .bool c.meas, .int .i64 c.maxr, .int .i64 c.stab, .int .i64 c.pub]] w fun e w' => e = .returned (.bool true) ∧ Below w.heap.size w w' := by
  have hs0 := st_start w a b c
  cases ha : inDom a with
  | false =>
    go_enter Trym.func4, Trym.ntmps4
    go_wp2_with fail
    refine (inDom_any a _).mono ?_
    rintro e w1 ⟨rfl, hb1⟩
    have hs1 := hs0.call hb1
    rw [ha]
    go_wp2_with fail
    go_ret
    exact ⟨rfl, hs1.below⟩
  | true =>
  cases hb : inDom b with
  | false => 
    go_enter Trym.func4, Trym.ntmps4
    go_wp2_with fail
    refine (inDom_any a _).mono ?_
    rintro e w1 ⟨rfl, hb1⟩
    rw [ha]
    have hs1 := hs0.call hb1
    obtain ⟨c0, c1, c2, c3, c4, c5, c6, _⟩ := hs1.get 1 rfl
    go_wp2_with fail
    refine (inDom_any b _).mono ?_
    rintro e w2 ⟨rfl, hb2⟩
    have hs2 := hs1.call hb2
    rw [hb]
    go_wp2_with fail
    go_ret
    exact ⟨rfl, hs2.below⟩
  | true =>
  cases hc : inDom c with
  | false => 
    go_enter Trym.func4, Trym.ntmps4
    go_wp2_with fail
    refine (inDom_any a _).mono ?_
    rintro e w1 ⟨rfl, hb1⟩
    rw [ha]
    have hs1 := hs0.call hb1
    obtain ⟨c0, c1, c2, c3, c4, c5, c6, _⟩ := hs1.get 1 rfl
    go_wp2_with fail
    refine (inDom_any b _).mono ?_
    rintro e w2 ⟨rfl, hb2⟩
    have hs2 := hs1.call hb2
    rw [hb]
    clear c0 c1 c2 c3 c4 c5 c6
    obtain ⟨c0, c1, c2, c3, c4, c5, c6, _⟩ := hs2.get 2 rfl
    go_wp2_with fail
    refine (inDom_any c _).mono ?_
    rintro e w3 ⟨rfl, hb3⟩
    have hs3 := hs2.call hb3
    rw [hc]
    go_wp2_with fail
    go_ret
    exact ⟨rfl, hs3.below⟩
  | true =>
  have da := dom_of ha
  have db := dom_of hb
  have dc := dom_of hc
  have hcomm : Hid (mergeT b a = mergeT a b) := merge_comm db da
  have hassoc : Hid (mergeT a (mergeT b c) = mergeT (mergeT a b) c) := (merge_assoc da.v0 db.v0 dc.v0 (by have := da.v1; have := db.v1; have := dc.v1; omega)).symm
  have hz1 : Hid (mergeT zeroT a = a) := zero_merge da (by decide) (by decide)
  have hz2 : Hid (mergeT a zeroT = a) := merge_zero da (by decide)
  clear da db dc
  go_enter Trym.func4, Trym.ntmps4
  go_upto_region 1 with fail
  go_cut [30] (fun s wx => s = .bool false ∧ St w wx [(w.heap.size, a), (w.heap.size + 1, b), (w.heap.size + 1 + 1, c)])
  case first =>
    go_wp2_with fail
    refine (inDom_any a _).mono ?_
    rintro e w1 ⟨rfl, hb1⟩
    rw [ha]
    have hs1 := hs0.call hb1
    obtain ⟨c0, c1, c2, c3, c4, c5, c6, _⟩ := hs1.get 1 rfl
    go_wp2_with fail
    refine (inDom_any b _).mono ?_
    rintro e w2 ⟨rfl, hb2⟩
    have hs2 := hs1.call hb2
    rw [hb]
    clear c0 c1 c2 c3 c4 c5 c6
    obtain ⟨c0, c1, c2, c3, c4, c5, c6, _⟩ := hs2.get 2 rfl
    go_wp2_with fail
    refine (inDom_any c _).mono ?_
    rintro e w3 ⟨rfl, hb3⟩
    have hs3 := hs2.call hb3
    rw [hc]
    clear c0 c1 c2 c3 c4 c5 c6
    go_wp2_with fail
    go_meet
    case rel => exact ⟨rfl, hs3⟩
  case rest =>
  obtain ⟨rfl, hs⟩ := hcut
  clear hs0
  go_upto_region 3 with fail
  go_cut [7] (fun s wx => ∃ bb, s = .pointer (some ⟨bb, 0, none⟩) ∧ St w wx [(w.heap.size, a), (w.heap.size + 1, b), (w.heap.size + 1 + 1, c), (bb, a)])
  case first =>
    obtain ⟨c0, c1, c2, c3, c4, c5, c6, _⟩ := hs.get 0 rfl
    go_wp2_with fail
    refine (tallyOf_any a _).mono ?_
    rintro e w1 ⟨rfl, hb1⟩
    have hs1 := (hs.call hb1).new 27 a
    clear c0 c1 c2 c3 c4 c5 c6
    go_wp2_with fail
    go_meet
    case rel => exact ⟨w1.heap.size, rfl, hs1⟩
  case rest =>
  clear hs
  obtain ⟨b7, rfl, hs⟩ := hcut
  go_upto_region 4 with fail
  go_cut [8] (fun s wx => ∃ bb, s = .pointer (some ⟨bb, 0, none⟩) ∧ St w wx [(w.heap.size, a), (w.heap.size + 1, b), (w.heap.size + 1 + 1, c), (b7, a), (bb, a)])
  case first =>
    obtain ⟨c0, c1, c2, c3, c4, c5, c6, _⟩ := hs.get 0 rfl
    go_wp2_with fail
    refine (tallyOf_any a _).mono ?_
    rintro e w1 ⟨rfl, hb1⟩
    have hs1 := (hs.call hb1).new 27 a
    clear c0 c1 c2 c3 c4 c5 c6
    go_wp2_with fail
    go_meet
    case rel => exact ⟨w1.heap.size, rfl, hs1⟩
  case rest =>
  clear hs
  obtain ⟨b8, rfl, hs⟩ := hcut
  go_upto_region 5 with fail
  go_cut [9] (fun s wx => ∃ bb, s = .pointer (some ⟨bb, 0, none⟩) ∧ St w wx [(w.heap.size, a), (w.heap.size + 1, b), (w.heap.size + 1 + 1, c), (b7, a), (b8, a), (bb, b)])
  case first =>
    obtain ⟨c0, c1, c2, c3, c4, c5, c6, _⟩ := hs.get 1 rfl
    go_wp2_with fail
    refine (tallyOf_any b _).mono ?_
    rintro e w1 ⟨rfl, hb1⟩
    have hs1 := (hs.call hb1).new 27 b
    clear c0 c1 c2 c3 c4 c5 c6
    go_wp2_with fail
    go_meet
    case rel => exact ⟨w1.heap.size, rfl, hs1⟩
  case rest =>
  clear hs
  obtain ⟨b9, rfl, hs⟩ := hcut
  go_upto_region 6 with fail
  go_cut [] (fun wx => St w wx [(w.heap.size, a), (w.heap.size + 1, b), (w.heap.size + 1 + 1, c), (b7, a), (b8, mergeT a b), (b9, b)])
  case first =>
    go_wp2_with fail
    refine (zzmerge_calls _ b8 b9 (hs.ne 4 5 (by decide) rfl rfl) a b (hs.get 4 rfl) (hs.get 5 rfl)).mono ?_
    rintro e w1 ⟨rfl, hu1, ha1⟩
    have hs1 := hs.upd 4 rfl hu1 ha1
    go_wp2_with fail
    go_meet
    case rel => exact hs1
  case rest =>
  clear hs
  have hs := hcut
  clear hcut
  go_upto_region 7 with fail
  go_cut [10] (fun s wx => ∃ bb, s = .pointer (some ⟨bb, 0, none⟩) ∧ St w wx [(w.heap.size, a), (w.heap.size + 1, b), (w.heap.size + 1 + 1, c), (b7, a), (b8, mergeT a b), (b9, b), (bb, b)])
  case first =>
    obtain ⟨c0, c1, c2, c3, c4, c5, c6, _⟩ := hs.get 1 rfl
    go_wp2_with fail
    refine (tallyOf_any b _).mono ?_
    rintro e w1 ⟨rfl, hb1⟩
    have hs1 := (hs.call hb1).new 27 b
    clear c0 c1 c2 c3 c4 c5 c6
    go_wp2_with fail
    go_meet
    case rel => exact ⟨w1.heap.size, rfl, hs1⟩
  case rest =>
  clear hs
  obtain ⟨b10, rfl, hs⟩ := hcut
  go_upto_region 8 with fail
  go_cut [] (fun wx => St w wx [(w.heap.size, a), (w.heap.size + 1, b), (w.heap.size + 1 + 1, c), (b7, a), (b8, mergeT a b), (b9, a), (b10, b)])
  case first =>
    obtain ⟨c0, c1, c2, c3, c4, c5, c6, _⟩ := hs.get 0 rfl
    go_wp2_with fail
    refine (tallyOf_any a _).mono ?_
    rintro e w1 ⟨rfl, hb1⟩
    have hs1 := hs.call hb1
    have hs2 := hs1.upd 5 rfl (lay_upd w1 b9 a) (lay_at (hs1.get 5 rfl) a)
    clear c0 c1 c2 c3 c4 c5 c6
    obtain ⟨c0, c1, c2, c3, c4, c5, c6, fz⟩ := hs1.get 5 rfl
    go_wp2_with fail
    go_meet
    case rel => exact hs2
  case rest =>
  clear hs
  have hs := hcut
  clear hcut
  go_upto_region 9 with fail
  go_cut [] (fun wx => St w wx [(w.heap.size, a), (w.heap.size + 1, b), (w.heap.size + 1 + 1, c), (b7, a), (b8, mergeT a b), (b9, a), (b10, mergeT a b)])
  case first =>
    go_wp2_with fail
    refine (zzmerge_calls _ b10 b9 ((hs.ne 5 6 (by decide) rfl rfl).symm) b a (hs.get 6 rfl) (hs.get 5 rfl)).mono ?_
    rintro e w1 ⟨rfl, hu1, ha1⟩
    rw [hcomm.out] at ha1
    have hs1 := hs.upd 6 rfl hu1 ha1
    go_wp2_with fail
    go_meet
    case rel => exact hs1
  case rest =>
  clear hs
  have hs := hcut
  clear hcut
  go_upto_region 10 with fail
  go_cut [11] (fun s wx => ∃ bb, s = .pointer (some ⟨bb, 0, none⟩) ∧ St w wx [(w.heap.size, a), (w.heap.size + 1, b), (w.heap.size + 1 + 1, c), (b7, a), (b8, mergeT a b), (b9, a), (b10, mergeT a b), (bb, mergeT a b)])
  case first =>
    have hs1 := hs.new 27 (mergeT a b)
    obtain ⟨c0, c1, c2, c3, c4, c5, c6, _⟩ := hs.get 4 rfl
    go_wp2_with fail
    go_meet
    case rel => exact ⟨wc.heap.size, rfl, hs1⟩
  case rest =>
  clear hs
  obtain ⟨b11, rfl, hs⟩ := hcut
  go_upto_region 11 with fail
  go_cut [] (fun wx => St w wx [(w.heap.size, a), (w.heap.size + 1, b), (w.heap.size + 1 + 1, c), (b7, a), (b8, mergeT a b), (b9, c), (b10, mergeT a b), (b11, mergeT a b)])
  case first =>
    obtain ⟨c0, c1, c2, c3, c4, c5, c6, _⟩ := hs.get 2 rfl
    go_wp2_with fail
    refine (tallyOf_any c _).mono ?_
    rintro e w1 ⟨rfl, hb1⟩
    have hs1 := hs.call hb1
    have hs2 := hs1.upd 5 rfl (lay_upd w1 b9 c) (lay_at (hs1.get 5 rfl) c)
    clear c0 c1 c2 c3 c4 c5 c6
    obtain ⟨c0, c1, c2, c3, c4, c5, c6, fz⟩ := hs1.get 5 rfl
    go_wp2_with fail
    go_meet
    case rel => exact hs2
  case rest =>
  clear hs
  have hs := hcut
  clear hcut
  go_upto_region 12 with fail
  go_cut [] (fun wx => St w wx [(w.heap.size, a), (w.heap.size + 1, b), (w.heap.size + 1 + 1, c), (b7, a), (b8, mergeT a b), (b9, c), (b10, mergeT a b), (b11, mergeT (mergeT a b) c)])
  case first =>
    go_wp2_with fail
    refine (zzmerge_calls _ b11 b9 ((hs.ne 5 7 (by decide) rfl rfl).symm) (mergeT a b) c (hs.get 7 rfl) (hs.get 5 rfl)).mono ?_
    rintro e w1 ⟨rfl, hu1, ha1⟩
    have hs1 := hs.upd 7 rfl hu1 ha1
    go_wp2_with fail
    go_meet
    case rel => exact hs1
  case rest =>
  clear hs
  have hs := hcut
  clear hcut
  go_upto_region 13 with fail
  go_cut [12] (fun s wx => ∃ bb, s = .pointer (some ⟨bb, 0, none⟩) ∧ St w wx [(w.heap.size, a), (w.heap.size + 1, b), (w.heap.size + 1 + 1, c), (b7, a), (b8, mergeT a b), (b9, c), (b10, mergeT a b), (b11, mergeT (mergeT a b) c), (bb, b)])
  case first =>
    obtain ⟨c0, c1, c2, c3, c4, c5, c6, _⟩ := hs.get 1 rfl
    go_wp2_with fail
    refine (tallyOf_any b _).mono ?_
    rintro e w1 ⟨rfl, hb1⟩
    have hs1 := (hs.call hb1).new 27 b
    clear c0 c1 c2 c3 c4 c5 c6
    go_wp2_with fail
    go_meet
    case rel => exact ⟨w1.heap.size, rfl, hs1⟩
  case rest =>
  clear hs
  obtain ⟨b12, rfl, hs⟩ := hcut
  go_upto_region 14 with fail
  go_cut [] (fun wx => St w wx [(w.heap.size, a), (w.heap.size + 1, b), (w.heap.size + 1 + 1, c), (b7, a), (b8, mergeT a b), (b9, c), (b10, mergeT a b), (b11, mergeT (mergeT a b) c), (b12, b)])
  case first =>
    obtain ⟨c0, c1, c2, c3, c4, c5, c6, _⟩ := hs.get 2 rfl
    go_wp2_with fail
    refine (tallyOf_any c _).mono ?_
    rintro e w1 ⟨rfl, hb1⟩
    have hs1 := hs.call hb1
    have hs2 := hs1.upd 5 rfl (lay_upd w1 b9 c) (lay_at (hs1.get 5 rfl) c)
    clear c0 c1 c2 c3 c4 c5 c6
    obtain ⟨c0, c1, c2, c3, c4, c5, c6, fz⟩ := hs1.get 5 rfl
    go_wp2_with fail
    go_meet
    case rel => exact hs2
  case rest =>
  clear hs
  have hs := hcut
  clear hcut
  go_upto_region 15 with fail
  go_cut [] (fun wx => St w wx [(w.heap.size, a), (w.heap.size + 1, b), (w.heap.size + 1 + 1, c), (b7, a), (b8, mergeT a b), (b9, c), (b10, mergeT a b), (b11, mergeT (mergeT a b) c), (b12, mergeT b c)])
  case first =>
    go_wp2_with fail
    refine (zzmerge_calls _ b12 b9 ((hs.ne 5 8 (by decide) rfl rfl).symm) b c (hs.get 8 rfl) (hs.get 5 rfl)).mono ?_
    rintro e w1 ⟨rfl, hu1, ha1⟩
    have hs1 := hs.upd 8 rfl hu1 ha1
    go_wp2_with fail
    go_meet
    case rel => exact hs1
  case rest =>
  clear hs
  have hs := hcut
  clear hcut
  go_upto_region 16 with fail
  go_cut [13] (fun s wx => ∃ bb, s = .pointer (some ⟨bb, 0, none⟩) ∧ St w wx [(w.heap.size, a), (w.heap.size + 1, b), (w.heap.size + 1 + 1, c), (b7, a), (b8, mergeT a b), (b9, c), (b10, mergeT a b), (b11, mergeT (mergeT a b) c), (b12, mergeT b c), (bb, a)])
  case first =>
    obtain ⟨c0, c1, c2, c3, c4, c5, c6, _⟩ := hs.get 0 rfl
    go_wp2_with fail
    refine (tallyOf_any a _).mono ?_
    rintro e w1 ⟨rfl, hb1⟩
    have hs1 := (hs.call hb1).new 27 a
    clear c0 c1 c2 c3 c4 c5 c6
    go_wp2_with fail
    go_meet
    case rel => exact ⟨w1.heap.size, rfl, hs1⟩
  case rest =>
  clear hs
  obtain ⟨b13, rfl, hs⟩ := hcut
  go_upto_region 17 with fail
  go_cut [] (fun wx => St w wx [(w.heap.size, a), (w.heap.size + 1, b), (w.heap.size + 1 + 1, c), (b7, a), (b8, mergeT a b), (b9, c), (b10, mergeT a b), (b11, mergeT (mergeT a b) c), (b12, mergeT b c), (b13, mergeT (mergeT a b) c)])
  case first =>
    go_wp2_with fail
    refine (zzmerge_calls _ b13 b12 ((hs.ne 8 9 (by decide) rfl rfl).symm) a (mergeT b c) (hs.get 9 rfl) (hs.get 8 rfl)).mono ?_
    rintro e w1 ⟨rfl, hu1, ha1⟩
    rw [hassoc.out] at ha1
    have hs1 := hs.upd 9 rfl hu1 ha1
    go_wp2_with fail
    go_meet
    case rel => exact hs1
  case rest =>
  clear hs
  have hs := hcut
  clear hcut
  go_upto_region 18 with fail
  go_cut [14] (fun s wx => ∃ bb, s = .pointer (some ⟨bb, 0, none⟩) ∧ St w wx [(w.heap.size, a), (w.heap.size + 1, b), (w.heap.size + 1 + 1, c), (b7, a), (b8, mergeT a b), (b9, c), (b10, mergeT a b), (b11, mergeT (mergeT a b) c), (b12, mergeT b c), (b13, mergeT (mergeT a b) c), (bb, zeroT)])
  case first =>
    have hs1 := hs.new 27 zeroT
    go_wp2_with fail
    go_meet
    case rel => exact ⟨wc.heap.size, rfl, hs1⟩
  case rest =>
  clear hs
  obtain ⟨b14, rfl, hs⟩ := hcut
  go_upto_region 19 with fail
  go_cut [] (fun wx => St w wx [(w.heap.size, a), (w.heap.size + 1, b), (w.heap.size + 1 + 1, c), (b7, a), (b8, mergeT a b), (b9, a), (b10, mergeT a b), (b11, mergeT (mergeT a b) c), (b12, mergeT b c), (b13, mergeT (mergeT a b) c), (b14, zeroT)])
  case first =>
    obtain ⟨c0, c1, c2, c3, c4, c5, c6, _⟩ := hs.get 0 rfl
    go_wp2_with fail
    refine (tallyOf_any a _).mono ?_
    rintro e w1 ⟨rfl, hb1⟩
    have hs1 := hs.call hb1
    have hs2 := hs1.upd 5 rfl (lay_upd w1 b9 a) (lay_at (hs1.get 5 rfl) a)
    clear c0 c1 c2 c3 c4 c5 c6
    obtain ⟨c0, c1, c2, c3, c4, c5, c6, fz⟩ := hs1.get 5 rfl
    go_wp2_with fail
    go_meet
    case rel => exact hs2
  case rest =>
  clear hs
  have hs := hcut
  clear hcut
  go_upto_region 20 with fail
  go_cut [] (fun wx => St w wx [(w.heap.size, a), (w.heap.size + 1, b), (w.heap.size + 1 + 1, c), (b7, a), (b8, mergeT a b), (b9, a), (b10, mergeT a b), (b11, mergeT (mergeT a b) c), (b12, mergeT b c), (b13, mergeT (mergeT a b) c), (b14, a)])
  case first =>
    go_wp2_with fail
    refine (zzmerge_calls _ b14 b9 ((hs.ne 5 10 (by decide) rfl rfl).symm) zeroT a (hs.get 10 rfl) (hs.get 5 rfl)).mono ?_
    rintro e w1 ⟨rfl, hu1, ha1⟩
    rw [hz1.out] at ha1
    have hs1 := hs.upd 10 rfl hu1 ha1
    go_wp2_with fail
    go_meet
    case rel => exact hs1
  case rest =>
  clear hs
  have hs := hcut
  clear hcut
  go_upto_region 21 with fail
  go_cut [15] (fun s wx => s = .bool true ∧ St w wx [(w.heap.size, a), (w.heap.size + 1, b), (w.heap.size + 1 + 1, c), (b7, a), (b8, mergeT a b), (b9, a), (b10, mergeT a b), (b11, mergeT (mergeT a b) c), (b12, mergeT b c), (b13, mergeT (mergeT a b) c), (b14, a)])
  case first =>
    obtain ⟨c0, c1, c2, c3, c4, c5, c6, _⟩ := hs.get 5 rfl
    obtain ⟨d0, d1, d2, d3, d4, d5, d6, _⟩ := hs.get 3 rfl
    go_wp2_with fail
    go_meet
    case rel => exact ⟨rfl, hs⟩
  case rest =>
  clear hs
  obtain ⟨rfl, hs⟩ := hcut
  go_upto_region 22 with fail
  go_cut [16] (fun s wx => ∃ bb, s = .pointer (some ⟨bb, 0, none⟩) ∧ St w wx [(w.heap.size, a), (w.heap.size + 1, b), (w.heap.size + 1 + 1, c), (b7, a), (b8, mergeT a b), (b9, a), (b10, mergeT a b), (b11, mergeT (mergeT a b) c), (b12, mergeT b c), (b13, mergeT (mergeT a b) c), (b14, a), (bb, a)])
  case first =>
    obtain ⟨c0, c1, c2, c3, c4, c5, c6, _⟩ := hs.get 0 rfl
    go_wp2_with fail
    refine (tallyOf_any a _).mono ?_
    rintro e w1 ⟨rfl, hb1⟩
    have hs1 := (hs.call hb1).new 27 a
    clear c0 c1 c2 c3 c4 c5 c6
    go_wp2_with fail
    go_meet
    case rel => exact ⟨w1.heap.size, rfl, hs1⟩
  case rest =>
  clear hs
  obtain ⟨b16, rfl, hs⟩ := hcut
  go_upto_region 23 with fail
  go_cut [17] (fun s wx => ∃ bb, s = .pointer (some ⟨bb, 0, none⟩) ∧ St w wx [(w.heap.size, a), (w.heap.size + 1, b), (w.heap.size + 1 + 1, c), (b7, a), (b8, mergeT a b), (b9, a), (b10, mergeT a b), (b11, mergeT (mergeT a b) c), (b12, mergeT b c), (b13, mergeT (mergeT a b) c), (b14, a), (b16, a), (bb, zeroT)])
  case first =>
    have hs1 := hs.new 27 zeroT
    go_wp2_with fail
    go_meet
    case rel => exact ⟨wc.heap.size, rfl, hs1⟩
  case rest =>
  clear hs
  obtain ⟨b17, rfl, hs⟩ := hcut
  go_upto_region 24 with fail
  go_cut [] (fun wx => St w wx [(w.heap.size, a), (w.heap.size + 1, b), (w.heap.size + 1 + 1, c), (b7, a), (b8, mergeT a b), (b9, a), (b10, mergeT a b), (b11, mergeT (mergeT a b) c), (b12, mergeT b c), (b13, mergeT (mergeT a b) c), (b14, a), (b16, a), (b17, zeroT)])
  case first =>
    go_wp2_with fail
    refine (zzmerge_calls _ b16 b17 (hs.ne 11 12 (by decide) rfl rfl) a zeroT (hs.get 11 rfl) (hs.get 12 rfl)).mono ?_
    rintro e w1 ⟨rfl, hu1, ha1⟩
    rw [hz2.out] at ha1
    have hs1 := hs.upd 11 rfl hu1 ha1
    go_wp2_with fail
    go_meet
    case rel => exact hs1
  case rest =>
  clear hs
  have hs := hcut
  clear hcut
  go_upto_region 25 with fail
  have hbel := hs.below
  obtain ⟨c0, c1, c2, c3, c4, c5, c6, _⟩ := hs.get 3 rfl
  obtain ⟨d0, d1, d2, d3, d4, d5, d6, _⟩ := hs.get 10 rfl
  obtain ⟨e0, e1, e2, e3, e4, e5, e6, _⟩ := hs.get 11 rfl
  obtain ⟨g0, g1, g2, g3, g4, g5, g6, _⟩ := hs.get 4 rfl
  obtain ⟨i0, i1, i2, i3, i4, i5, i6, _⟩ := hs.get 6 rfl
  obtain ⟨j0, j1, j2, j3, j4, j5, j6, _⟩ := hs.get 7 rfl
  obtain ⟨k0, k1, k2, k3, k4, k5, k6, _⟩ := hs.get 9 rfl
  clear hs
  go_wp2_with fail
  go_ret
  exact ⟨rfl, hbel⟩
end Go.Proofs.Qxb6617332aMods
