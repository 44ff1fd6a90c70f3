import Derived.Test.Qxb6618743aModsHashWalk
namespace Go.Proofs.Qxb6618743aMods
open Go.RowKit

set_option maxRecDepth 100000 in
/-- zzBytes_FnDefinitionTwoBytesDecide. -/
theorem zzbytes2_any (w : World) (fn : ByteArray) (o l c : Int) (s : ByteArray) (q : Bool) (k : Int) (h1 : fn.size ≤ 9223372036854775807) (h2 : s.size ≤ 9223372036854775807) :
    Calls Trym.prog 7 #[.string fn, .int .i64 o, .int .i64 l, .int .i64 c, .string s, .bool q, .int .i64 k] w fun e w' => e = .returned (.bool (zz fn.size s.size)) ∧ w' = w := by
  by_cases a : fn.size ≤ 1048576
  · by_cases b : s.size ≤ 1048576
    · by_cases d : fn.size + s.size ≤ 1048576
      · have hz : Hid (zz fn.size s.size = true) := by simp [Hid, zz]; omega
        go_enter Trym.func7, Trym.ntmps7
        go_wp2
        go_ret
        exact ⟨by rw [hz.out]; rfl, rfl⟩
      · have hz : Hid (zz fn.size s.size = false) := by simp [Hid, zz]; omega
        go_enter Trym.func7, Trym.ntmps7
        go_wp2
        go_ret
        exact ⟨by rw [hz.out]; rfl, rfl⟩
    · have hz : Hid (zz fn.size s.size = false) := by simp [Hid, zz]; omega
      go_enter Trym.func7, Trym.ntmps7
      go_wp2
      go_ret
      exact ⟨by rw [hz.out]; rfl, rfl⟩
  · have hz : Hid (zz fn.size s.size = false) := by simp [Hid, zz]; omega
    go_enter Trym.func7, Trym.ntmps7
    go_wp2
    go_ret
    exact ⟨by rw [hz.out]; rfl, rfl⟩


theorem defn_mark (s : ByteArray) (q : Bool) : defn ({ data := #[95, 35] } ++ s) q = !q := by
  have h : hp ({ data := #[95, 35] } ++ s) [95, 35] = true := by
    unfold hp
    have e : (({ data := #[95, 35] } : ByteArray) ++ s).data.toList = 95 :: 35 :: s.data.toList := by simp [ByteArray.data_append]
    rw [e]; simp [List.isPrefixOf]
  unfold defn; rw [h]; simp
theorem size_mark (s : ByteArray) : (({ data := #[95, 35] } : ByteArray) ++ s).size = 2 + s.size := by simp [ByteArray.size_append]; rfl
theorem size_cut (s : ByteArray) (k : Nat) (h : s.size ≤ 524288) : (s.extract 0 k).size ≤ 9223372036854775807 := by
  rw [ByteArray.size_extract]; omega
theorem hp_cut {s : ByteArray} {k : Nat} {l : List UInt8} (h : l.length ≤ k) : hp (s.extract 0 k) l = hp s l := by
  unfold hp
  have e : (s.extract 0 k).data.toList = s.data.toList.take k := by simp [ByteArray.data_extract]
  rw [e, Bool.eq_iff_iff, List.isPrefixOf_iff_prefix, List.isPrefixOf_iff_prefix, List.prefix_take_iff]
  exact ⟨fun h' => h'.1, fun h' => ⟨h', h⟩⟩
theorem defn_cut {s : ByteArray} {k : Nat} (h : 2 ≤ k) (q : Bool) : defn (s.extract 0 k) q = defn s q := by
  unfold defn; rw [hp_cut (by show 1 ≤ k; omega), hp_cut (by show 2 ≤ k; omega)]

set_option maxRecDepth 100000 in
set_option maxHeartbeats 1000000 in
theorem two_other (fn : ByteArray) (o l c : Int) (s : ByteArray) (q : Bool) (k : Int) (w : World) (hd : zz fn.size s.size = true) (h1 : fn.size ≤ 524288) (h2 : s.size ≤ 524288) (hk : ¬ (2 ≤ k ∧ k ≤ s.size)) :
    Calls Trym.prog 4 #[.string fn, .int .i64 o, .int .i64 l, .int .i64 c, .string s, .bool q, .int .i64 k] w fun e w' => e = .returned (.bool true) ∧ Grown w w' := by
  by_cases hk2 : 2 ≤ k
  · have hk3 : (s.size : Int) < k := by omega
    clear hk
    go_enter Trym.func4, Trym.ntmps4
    go_wp2_with fail
    refine (zzbytes2_any w fn o l c s q k (by omega) (by omega)).mono ?_
    rintro e w' ⟨rfl, hw⟩
    obtain rfl : w = w' := hw.symm
    rw [hd]
    clear hd
    go_wp2_with fail
    refine (def_any fn o l c _ q _ (by rw [size_mark]; omega)).mono ?_
    rintro e w1 ⟨rfl, rfl⟩
    rw [defn_mark]
    go_wp2_with fail
    go_ret
    exact ⟨rfl, by repeat (first | exact Grown.refl _ | apply Grown.drew | apply Grown.alloc)⟩
  · clear hk
    go_enter Trym.func4, Trym.ntmps4
    go_wp2_with fail
    refine (zzbytes2_any w fn o l c s q k (by omega) (by omega)).mono ?_
    rintro e w' ⟨rfl, hw⟩
    obtain rfl : w = w' := hw.symm
    rw [hd]
    clear hd
    go_wp2_with fail
    refine (def_any fn o l c _ q _ (by rw [size_mark]; omega)).mono ?_
    rintro e w1 ⟨rfl, rfl⟩
    rw [defn_mark]
    go_wp2_with fail
    go_ret
    exact ⟨rfl, by repeat (first | exact Grown.refl _ | apply Grown.drew | apply Grown.alloc)⟩

set_option maxRecDepth 100000 in
set_option maxHeartbeats 1000000 in
theorem two_cut (fn : ByteArray) (o l c : Int) (s : ByteArray) (q : Bool) (k : Nat) (w : World) (hd : zz fn.size s.size = true) (h1 : fn.size ≤ 524288) (h2 : s.size ≤ 524288) (hk : 2 ≤ k) (hk2 : k ≤ s.size) :
    Calls Trym.prog 4 #[.string fn, .int .i64 o, .int .i64 l, .int .i64 c, .string s, .bool q, .int .i64 (k : Int)] w fun e w' => e = .returned (.bool true) ∧ Grown w w' := by
  go_enter Trym.func4, Trym.ntmps4
  go_wp2_with fail
  refine (zzbytes2_any w fn o l c s q k (by omega) (by omega)).mono ?_
  rintro e w' ⟨rfl, hw⟩
  obtain rfl : w = w' := hw.symm
  rw [hd]
  clear hd
  go_wp2_with fail
  refine (def_any fn o l c _ q _ (by rw [size_mark]; omega)).mono ?_
  rintro e w1 ⟨rfl, rfl⟩
  rw [defn_mark]
  go_wp2_with fail
  go_region
  go_wp2_with fail
  have e1 : defn (s.extract 0 k) q = defn s q := defn_cut hk q
  go_region_with (go_at_call 6; refine (def_any fn o l c _ q _ (by first | omega | exact size_cut _ _ h2)).mono ?_; rintro e w1 ⟨rfl, rfl⟩)
  all_goals (go_wp2_with fail; go_ret; exact ⟨rfl, by repeat (first | exact Grown.refl _ | apply Grown.drew | apply Grown.alloc)⟩)

set_option maxRecDepth 100000 in
theorem t_early1 (fn : ByteArray) (o l c : Int) (s : ByteArray) (q : Bool) (k : Int) (w : World) (g1 : fn.size ≤ 9223372036854775807) (g2 : s.size ≤ 9223372036854775807) (hd : zz fn.size s.size = false) :
    Calls Trym.prog 4 #[.string fn, .int .i64 o, .int .i64 l, .int .i64 c, .string s, .bool q, .int .i64 k] w fun e w' => e = .returned (.bool true) ∧ Grown w w' := by
  go_enter Trym.func4, Trym.ntmps4
  go_wp2_with fail
  refine (zzbytes2_any w fn o l c s q k g1 g2).mono ?_
  rintro e w' ⟨rfl, rfl⟩
  rw [hd]
  go_wp2_with fail
  go_ret
  exact ⟨rfl, Grown.refl _⟩

set_option maxRecDepth 100000 in
theorem t_early2 (fn : ByteArray) (o l c : Int) (s : ByteArray) (q : Bool) (k : Int) (w : World) (g1 : fn.size ≤ 9223372036854775807) (g2 : s.size ≤ 9223372036854775807) (hd : zz fn.size s.size = true) (h1 : ¬ fn.size ≤ 524288) :
    Calls Trym.prog 4 #[.string fn, .int .i64 o, .int .i64 l, .int .i64 c, .string s, .bool q, .int .i64 k] w fun e w' => e = .returned (.bool true) ∧ Grown w w' := by
  go_enter Trym.func4, Trym.ntmps4
  go_wp2_with fail
  refine (zzbytes2_any w fn o l c s q k g1 g2).mono ?_
  rintro e w' ⟨rfl, rfl⟩
  rw [hd]
  go_wp2_with fail
  go_ret
  exact ⟨rfl, Grown.refl _⟩

set_option maxRecDepth 100000 in
theorem t_early3 (fn : ByteArray) (o l c : Int) (s : ByteArray) (q : Bool) (k : Int) (w : World) (g1 : fn.size ≤ 9223372036854775807) (g2 : s.size ≤ 9223372036854775807) (hd : zz fn.size s.size = true) (h1 : fn.size ≤ 524288) (h2 : ¬ s.size ≤ 524288) :
    Calls Trym.prog 4 #[.string fn, .int .i64 o, .int .i64 l, .int .i64 c, .string s, .bool q, .int .i64 k] w fun e w' => e = .returned (.bool true) ∧ Grown w w' := by
  go_enter Trym.func4, Trym.ntmps4
  go_wp2_with fail
  refine (zzbytes2_any w fn o l c s q k g1 g2).mono ?_
  rintro e w' ⟨rfl, rfl⟩
  rw [hd]
  go_wp2_with fail
  go_ret
  exact ⟨rfl, Grown.refl _⟩

theorem two_walk (fn : ByteArray) (o l c : Int) (s : ByteArray) (q : Bool) (k : Int) (w : World) (g1 : fn.size ≤ 9223372036854775807) (g2 : s.size ≤ 9223372036854775807) :
    Calls Trym.prog 4 #[.string fn, .int .i64 o, .int .i64 l, .int .i64 c, .string s, .bool q, .int .i64 k] w fun e w' => e = .returned (.bool true) ∧ Grown w w' := by
  cases hd : zz fn.size s.size with
  | false => exact t_early1 fn o l c s q k w g1 g2 hd
  | true =>
  by_cases h1 : fn.size ≤ 524288
  · by_cases h2 : s.size ≤ 524288
    · by_cases hk : 2 ≤ k ∧ k ≤ s.size
      · obtain ⟨n, rfl⟩ := Int.eq_ofNat_of_zero_le (show 0 ≤ k by omega)
        exact two_cut fn o l c s q n w hd h1 h2 (by omega) (by omega)
      · exact two_other fn o l c s q k w hd h1 h2 hk
    · exact t_early3 fn o l c s q k w g1 g2 hd h1 h2
  · exact t_early2 fn o l c s q k w g1 g2 hd h1
end Go.Proofs.Qxb6618743aMods
