import Derived.Test.Qxb6618743aModsRows
import Derived.WalkKit
import Derived.WalkSpells
import Derived.WalkLawsBesides
import Derived.BigRegion
import Derived.BigQuiet
import Derived.Deep.QuietTactic
import Derived.Deep.DeepCutAuto
import Derived.RowKit3
import Derived.Below
namespace Go.Proofs.Qxb6618743aMods
open Go.RowKit

/-- Does s open with these bytes? -/
def hp (s : ByteArray) (l : List UInt8) : Bool := l.isPrefixOf s.data.toList
theorem hp_short {s : ByteArray} {l : List UInt8} (h : s.size < l.length) : hp s l = false := by
  cases hh : hp s l with
  | false => rfl
  | true =>
    have h2 := (List.isPrefixOf_iff_prefix.1 hh).length_le
    have : s.data.toList.length = s.size := by simp
    omega
theorem hp_take {s : ByteArray} {l : List UInt8} (n : Nat) (hn : l.length = n) : ((s.extract 0 n).toList == l) = hp s l := by
  subst hn
  unfold hp
  rw [Bool.eq_iff_iff, List.isPrefixOf_iff_prefix, beq_iff_eq, ByteArray.toList_eq]
  have e : (s.extract 0 l.length).data.toList = s.data.toList.take l.length := by
    simp [ByteArray.data_extract]
  rw [e, List.prefix_iff_eq_take]
  exact ⟨fun h => h.symm, fun h => h.symm⟩

set_option maxRecDepth 100000 in
/-- strings.HasPrefix at the one byte '#'. -/
theorem hash_any (s : ByteArray) (w : World) (hs : s.size ≤ 9223372036854775807) :
    Calls Trym.prog 8 #[.string s, .string ⟨#[35]⟩] w fun e w' => e = .returned (.bool (hp s [35])) ∧ w' = w := by
  by_cases h : 1 ≤ s.size
  · have H : Hid (((s.extract 0 1).toList == [35]) = hp s [35]) := hp_take 1 rfl
    go_enter Trym.func8, Trym.ntmps8
    go_wp2
    go_ret
    exact ⟨by rw [← H.out]; rfl, rfl⟩
  · have H : Hid (hp s [35] = false) := hp_short (by show s.size < 1; omega)
    go_enter Trym.func8, Trym.ntmps8
    go_wp2
    go_ret
    exact ⟨by rw [H.out]; rfl, rfl⟩
set_option maxRecDepth 100000 in
/-- strings.HasPrefix at the two bytes "_#". -/
theorem under_any (s : ByteArray) (w : World) (hs : s.size ≤ 9223372036854775807) :
    Calls Trym.prog 8 #[.string s, .string ⟨#[95, 35]⟩] w fun e w' => e = .returned (.bool (hp s [95, 35])) ∧ w' = w := by
  by_cases h : 2 ≤ s.size
  · have H : Hid (((s.extract 0 2).toList == [95, 35]) = hp s [95, 35]) := hp_take 2 rfl
    go_enter Trym.func8, Trym.ntmps8
    go_wp2
    go_ret
    exact ⟨by rw [← H.out]; rfl, rfl⟩
  · have H : Hid (hp s [95, 35] = false) := hp_short (by show s.size < 2; omega)
    go_enter Trym.func8, Trym.ntmps8
    go_wp2
    go_ret
    exact ⟨by rw [H.out]; rfl, rfl⟩

/-- What (Label).Definition answers. -/
def defn (s : ByteArray) (q : Bool) : Bool := !q && (hp s [35] || hp s [95, 35])

set_option maxRecDepth 100000 in
/-- (Label).Definition. -/
theorem def_any (fn : ByteArray) (o l c : Int) (s : ByteArray) (q : Bool) (w : World) (hs : s.size ≤ 9223372036854775807) :
    Calls Trym.prog 6 #[.agg #[.string fn, .int .i64 o, .int .i64 l, .int .i64 c, .string s, .bool q, .nilIface]] w fun e w' =>
      e = .returned (.bool (defn s q)) ∧ w' = w.alloc (.cells #[.string fn, .int .i64 o, .int .i64 l, .int .i64 c, .string s, .bool q, .nilIface] 28) := by
  cases q with
  | true =>
    go_enter Trym.func6, Trym.ntmps6
    go_wp2_with fail
    go_ret
    exact ⟨by simp [defn], rfl⟩
  | false =>
    cases h1 : hp s [35] with
    | true =>
      have H : Hid (defn s false = true) := by simp [Hid, defn, h1]
      go_enter Trym.func6, Trym.ntmps6
      go_wp2_with fail
      refine (hash_any s _ hs).mono ?_
      rintro e w' ⟨rfl, rfl⟩
      rw [h1]
      go_wp2_with fail
      go_ret
      exact ⟨by rw [H.out]; rfl, rfl⟩
    | false =>
      have H : Hid (defn s false = hp s [95, 35]) := by simp [Hid, defn, h1]
      go_enter Trym.func6, Trym.ntmps6
      go_wp2_with fail
      refine (hash_any s _ hs).mono ?_
      rintro e w' ⟨rfl, rfl⟩
      rw [h1]
      go_wp2_with fail
      refine (under_any s _ hs).mono ?_
      rintro e w' ⟨rfl, rfl⟩
      go_wp2_with fail
      go_ret
      exact ⟨by rw [H.out]; rfl, rfl⟩
end Go.Proofs.Qxb6618743aMods
