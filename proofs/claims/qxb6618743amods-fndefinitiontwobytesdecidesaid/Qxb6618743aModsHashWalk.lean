import Derived.Test.Qxb6618743aModsDef
import Derived.Deep.RegionWith
namespace Go.Proofs.Qxb6618743aMods
open Go.RowKit

/-- What zzBytes answers. -/
def zz (a b : Nat) : Bool := decide (a ≤ 1048576 ∧ b ≤ 1048576 ∧ a + b ≤ 1048576)

set_option maxRecDepth 100000 in
/-- zzBytes_FnDefinitionHashAndUnderscore. -/
theorem zzbytes_any (w : World) (fn : ByteArray) (o l c : Int) (s : ByteArray) (q : Bool) (h1 : fn.size ≤ 9223372036854775807) (h2 : s.size ≤ 9223372036854775807) :
    Calls Trym.prog 5 #[.string fn, .int .i64 o, .int .i64 l, .int .i64 c, .string s, .bool q] w fun e w' => e = .returned (.bool (zz fn.size s.size)) ∧ w' = w := by
  by_cases a : fn.size ≤ 1048576
  · by_cases b : s.size ≤ 1048576
    · by_cases d : fn.size + s.size ≤ 1048576
      · have hz : Hid (zz fn.size s.size = true) := by simp [Hid, zz]; omega
        go_enter Trym.func5, Trym.ntmps5
        go_wp2
        go_ret
        exact ⟨by rw [hz.out]; rfl, rfl⟩
      · have hz : Hid (zz fn.size s.size = false) := by simp [Hid, zz]; omega
        go_enter Trym.func5, Trym.ntmps5
        go_wp2
        go_ret
        exact ⟨by rw [hz.out]; rfl, rfl⟩
    · have hz : Hid (zz fn.size s.size = false) := by simp [Hid, zz]; omega
      go_enter Trym.func5, Trym.ntmps5
      go_wp2
      go_ret
      exact ⟨by rw [hz.out]; rfl, rfl⟩
  · have hz : Hid (zz fn.size s.size = false) := by simp [Hid, zz]; omega
    go_enter Trym.func5, Trym.ntmps5
    go_wp2
    go_ret
    exact ⟨by rw [hz.out]; rfl, rfl⟩

theorem hp_cons (c : UInt8) (s : ByteArray) (d : UInt8) (l : List UInt8) : hp ({ data := #[c] } ++ s) (d :: l) = ((d == c) && hp s l) := by
  unfold hp
  have e : (({ data := #[c] } : ByteArray) ++ s).data.toList = c :: s.data.toList := by simp [ByteArray.data_append]
  rw [e]; rfl
theorem hp_nil (s : ByteArray) : hp s [] = true := by unfold hp; simp
theorem size_cons (c : UInt8) (s : ByteArray) : (({ data := #[c] } : ByteArray) ++ s).size = 1 + s.size := by simp [ByteArray.size_append]; rfl
theorem defn_hash (s : ByteArray) (q : Bool) : defn ({ data := #[35] } ++ s) q = !q := by
  unfold defn; rw [hp_cons, hp_cons, hp_nil]; simp
theorem defn_under (s : ByteArray) (q : Bool) : defn ({ data := #[95] } ++ s) q = (!q && hp s [35]) := by
  unfold defn; rw [hp_cons, hp_cons]; simp
theorem hp_first {s : ByteArray} (h : 0 < s.size) : hp s [95] = (((s[0]'h).toNat : Int) == 95) := by
  obtain ⟨⟨l⟩⟩ := s
  cases l with
  | nil => exact absurd h (by decide)
  | cons a t =>
    show List.isPrefixOf [95] (a :: t) = ((a.toNat : Int) == 95)
    simp only [List.isPrefixOf, Bool.and_true]
    rw [Bool.eq_iff_iff]
    simp only [beq_iff_eq]
    constructor
    · intro h'; rw [← h']; rfl
    · intro h'; apply UInt8.toNat_inj.1; have : a.toNat = 95 := by omega
      rw [this]; rfl
theorem hp_empty {s : ByteArray} (h : ¬ 0 < s.size) (d : UInt8) (l : List UInt8) : hp s (d :: l) = false := hp_short (by simp; omega)
theorem hp_two {s : ByteArray} (h : hp s [95] = false) : hp s [95, 35] = false := by
  unfold hp at h ⊢
  cases hs : s.data.toList with
  | nil => rfl
  | cons a t => rw [hs] at h; simp [List.isPrefixOf] at h ⊢; intro h'; exact absurd h' h
theorem hp_hash_no {s : ByteArray} (h : hp s [95] = true) : hp s [35] = false := by
  unfold hp at h ⊢
  cases hs : s.data.toList with
  | nil => rfl
  | cons a t => rw [hs] at h; simp [List.isPrefixOf] at h ⊢; subst h; decide

set_option maxRecDepth 100000 in
set_option maxHeartbeats 1000000 in
theorem hash_main (fn : ByteArray) (o l c : Int) (s : ByteArray) (q : Bool) (w : World) (hd : zz fn.size s.size = true) (h1 : fn.size ≤ 524288) (h2 : s.size ≤ 524288) :
    Calls Trym.prog 3 #[.string fn, .int .i64 o, .int .i64 l, .int .i64 c, .string s, .bool q] w fun e w' => e = .returned (.bool true) ∧ Grown w w' := by
  go_enter Trym.func3, Trym.ntmps3
  go_wp2_with fail
  refine (zzbytes_any w fn o l c s q (by omega) (by omega)).mono ?_
  rintro e w' ⟨rfl, hw⟩
  obtain rfl : w = w' := hw.symm
  rw [hd]
  clear hd
  go_wp2_with fail
  refine (def_any fn o l c _ q _ (by rw [size_cons]; omega)).mono ?_
  rintro e w1 ⟨rfl, rfl⟩
  rw [defn_hash]
  by_cases hpos : 0 < s.size
  · have hf := hp_first hpos
    cases hu : hp s [95] with
    | true =>
      rw [hu] at hf
      have hn := hp_hash_no hu
      have hf' : (((s[0]'hpos).toNat : Int) == 95) = true := hf.symm
      clear hf hu
      go_wp2_with fail
      refine (def_any fn o l c _ q _ (by rw [size_cons]; omega)).mono ?_
      rintro e w1 ⟨rfl, rfl⟩
      rw [defn_under, hn]
      go_wp2_with fail
      go_ret
      exact ⟨by simp, by repeat (first | exact Grown.refl _ | apply Grown.drew | apply Grown.alloc)⟩
    | false =>
    rw [hu] at hf
    have hn := hp_two hu
    have hf' : (((s[0]'hpos).toNat : Int) == 95) = false := hf.symm
    have e2 : defn s q = (!q && hp s [35]) := by unfold defn; rw [hn]; simp
    clear hf hu hn
    go_wp2_with fail
    have e1 : defn ({ data := #[95] } ++ s) q = (!q && hp s [35]) := defn_under s q
    go_region_with (go_at_call 6; refine (def_any fn o l c _ q _ (by first | omega | (rw [size_cons]; omega))).mono ?_; rintro e w1 ⟨rfl, rfl⟩)
    all_goals (go_wp2_with fail; go_ret; exact ⟨rfl, by repeat (first | exact Grown.refl _ | apply Grown.drew | apply Grown.alloc)⟩)
  · have e2 : defn s q = (!q && hp s [35]) := by unfold defn; rw [hp_empty hpos, hp_empty hpos]; simp
    have hpos' : s.size = 0 := by omega
    go_wp2_with fail
    clear hpos'
    have e1 : defn ({ data := #[95] } ++ s) q = (!q && hp s [35]) := defn_under s q
    go_region_with (go_at_call 6; refine (def_any fn o l c _ q _ (by first | omega | (rw [size_cons]; omega))).mono ?_; rintro e w1 ⟨rfl, rfl⟩)
    all_goals (go_wp2_with fail; go_ret; exact ⟨rfl, by repeat (first | exact Grown.refl _ | apply Grown.drew | apply Grown.alloc)⟩)

set_option maxRecDepth 100000 in
theorem h_early1 (fn : ByteArray) (o l c : Int) (s : ByteArray) (q : Bool) (w : World) (g1 : fn.size ≤ 9223372036854775807) (g2 : s.size ≤ 9223372036854775807) (hd : zz fn.size s.size = false) :
    Calls Trym.prog 3 #[.string fn, .int .i64 o, .int .i64 l, .int .i64 c, .string s, .bool q] w fun e w' => e = .returned (.bool true) ∧ Grown w w' := by
  go_enter Trym.func3, Trym.ntmps3
  go_wp2_with fail
  refine (zzbytes_any w fn o l c s q g1 g2).mono ?_
  rintro e w' ⟨rfl, rfl⟩
  rw [hd]
  go_wp2_with fail
  go_ret
  exact ⟨rfl, Grown.refl _⟩

set_option maxRecDepth 100000 in
theorem h_early2 (fn : ByteArray) (o l c : Int) (s : ByteArray) (q : Bool) (w : World) (g1 : fn.size ≤ 9223372036854775807) (g2 : s.size ≤ 9223372036854775807) (hd : zz fn.size s.size = true) (h1 : ¬ fn.size ≤ 524288) :
    Calls Trym.prog 3 #[.string fn, .int .i64 o, .int .i64 l, .int .i64 c, .string s, .bool q] w fun e w' => e = .returned (.bool true) ∧ Grown w w' := by
  go_enter Trym.func3, Trym.ntmps3
  go_wp2_with fail
  refine (zzbytes_any w fn o l c s q g1 g2).mono ?_
  rintro e w' ⟨rfl, rfl⟩
  rw [hd]
  go_wp2_with fail
  go_ret
  exact ⟨rfl, Grown.refl _⟩

set_option maxRecDepth 100000 in
theorem h_early3 (fn : ByteArray) (o l c : Int) (s : ByteArray) (q : Bool) (w : World) (g1 : fn.size ≤ 9223372036854775807) (g2 : s.size ≤ 9223372036854775807) (hd : zz fn.size s.size = true) (h1 : fn.size ≤ 524288) (h2 : ¬ s.size ≤ 524288) :
    Calls Trym.prog 3 #[.string fn, .int .i64 o, .int .i64 l, .int .i64 c, .string s, .bool q] w fun e w' => e = .returned (.bool true) ∧ Grown w w' := by
  go_enter Trym.func3, Trym.ntmps3
  go_wp2_with fail
  refine (zzbytes_any w fn o l c s q g1 g2).mono ?_
  rintro e w' ⟨rfl, rfl⟩
  rw [hd]
  go_wp2_with fail
  go_ret
  exact ⟨rfl, Grown.refl _⟩

theorem hash_walk (fn : ByteArray) (o l c : Int) (s : ByteArray) (q : Bool) (w : World) (g1 : fn.size ≤ 9223372036854775807) (g2 : s.size ≤ 9223372036854775807) :
    Calls Trym.prog 3 #[.string fn, .int .i64 o, .int .i64 l, .int .i64 c, .string s, .bool q] w fun e w' => e = .returned (.bool true) ∧ Grown w w' := by
  cases hd : zz fn.size s.size with
  | false => exact h_early1 fn o l c s q w g1 g2 hd
  | true =>
  by_cases h1 : fn.size ≤ 524288
  · by_cases h2 : s.size ≤ 524288
    · exact hash_main fn o l c s q w hd h1 h2
    · exact h_early3 fn o l c s q w g1 g2 hd h1 h2
  · exact h_early2 fn o l c s q w g1 g2 hd h1
end Go.Proofs.Qxb6618743aMods
