import Derived.Test.Qxb6618153aModsLiesWalk
import Derived.Deep.OwnRows
namespace Go.Proofs.Qxb6618153aMods
open Go.RowKit

theorem Trym.info3 : (Trym.prog.info? 3).map (fun i => (i.zero, i.size, i.bytes)) = some (some (.int .i64 0), 1, 8) := by kernel_rfl

/-- What zzBytes answers. -/
def zz3 (lb le lx : Nat) : Bool := decide (lb ≤ 1048576 ∧ le ≤ 1048576 ∧ lb + le ≤ 1048576 ∧ lx ≤ 1048576 ∧ lb + le + lx ≤ 1048576)

set_option maxRecDepth 100000 in
set_option maxHeartbeats 4000000 in
/-- zzBytes_FnStringsValueKeptByAppendedRow. -/
theorem zzbytes3_any (w : World) (p pe px : Option Addr) (lb cb le ce lx cx : Nat) (row : Int) (h1 : lb ≤ 9223372036854775807) (h2 : le ≤ 9223372036854775807) (h3 : lx ≤ 9223372036854775807) :
    Calls Trym.prog 7 #[.slice p lb cb, .slice pe le ce, .int .i64 row, .slice px lx cx] w fun e w' => e = .returned (.bool (zz3 lb le lx)) ∧ w' = w := by
  by_cases a : lb ≤ 1048576
  · by_cases b : le ≤ 1048576
    · by_cases c : lb + le ≤ 1048576
      · by_cases d : lx ≤ 1048576
        · by_cases f : lb + le + lx ≤ 1048576
          · have hz : Hid (zz3 lb le lx = true) := by simp [Hid, zz3]; omega
            go_enter Trym.func7, Trym.ntmps7
            go_wp2
            go_ret
            exact ⟨by rw [hz.out]; rfl, rfl⟩
          · have hz : Hid (zz3 lb le lx = false) := by simp [Hid, zz3]; omega
            go_enter Trym.func7, Trym.ntmps7
            go_wp2
            go_ret
            exact ⟨by rw [hz.out]; rfl, rfl⟩
        · have hz : Hid (zz3 lb le lx = false) := by simp [Hid, zz3]; omega
          go_enter Trym.func7, Trym.ntmps7
          go_wp2
          go_ret
          exact ⟨by rw [hz.out]; rfl, rfl⟩
      · have hz : Hid (zz3 lb le lx = false) := by simp [Hid, zz3]; omega
        go_enter Trym.func7, Trym.ntmps7
        go_wp2
        go_ret
        exact ⟨by rw [hz.out]; rfl, rfl⟩
    · have hz : Hid (zz3 lb le lx = false) := by simp [Hid, zz3]; omega
      go_enter Trym.func7, Trym.ntmps7
      go_wp2
      go_ret
      exact ⟨by rw [hz.out]; rfl, rfl⟩
  · have hz : Hid (zz3 lb le lx = false) := by simp [Hid, zz3]; omega
    go_enter Trym.func7, Trym.ntmps7
    go_wp2
    go_ret
    exact ⟨by rw [hz.out]; rfl, rfl⟩

theorem Ls.drewN {k : IntKind} {w : World} {p : Option Addr} {len : Nat} {z : Nat → Int} (h : Ls k w p len z) (n : Nat) : Ls k (w.drewN n) p len z := ⟨h.lies⟩

set_option maxRecDepth 100000 in
set_option maxHeartbeats 4000000 in
/-- zzSameBytes, of two slices that read alike. -/
theorem same_any (w : World) (p q : Option Addr) (n cx cy : Nat) (x y : Nat → Int) (hx : Ls .u8 w p n x) (hy : Ls .u8 w q n y) (heq : ∀ i, i < n → x i = y i) (hn : n ≤ 1048576) :
    Calls Trym.prog 8 #[.slice p n cx, .slice q n cy] w fun e w' => e = .returned (.bool true) ∧ ∃ m, w' = w.drewN m := by
  have hne : ((n : Int) != (n : Int)) = false := by simp
  have Heq : Hid (∀ i, i < n → x i = y i) := heq
  clear heq
  go_enter Trym.func8, Trym.ntmps8
  go_wp2_with fail
  go_loopg [5] n (fun g i wx => ∃ k m : Nat, g + k = n ∧ i = .int .i64 (k : Int) ∧ w.drewN m = wx)
  case atStart => exact ⟨0, 0, rfl, rfl, rfl⟩
  case round =>
    obtain ⟨k, m, hg, rfl, rfl⟩ := hrel
    by_cases hlt : k < n
    · obtain ⟨bx, ox, rfl, hbx, hcx⟩ := hx.lies (by omega)
      obtain ⟨by', oy, rfl, hby, hcy⟩ := hy.lies (by omega)
      have c0 := hcx k hlt
      have c1 := hcy k hlt
      rw [← Heq.out k hlt] at c1
      clear hcx hcy
      go_wp2_with fail
      go_quiet (fail)
      go_wp2_with fail
      go_roundg (gk - 1)
      case measure => omega
      case rel => exact ⟨k + 1, m + nq, by omega, by go_num, rfl⟩
    · go_wp2_with fail
      go_ret
      exact ⟨rfl, m, rfl⟩
end Go.Proofs.Qxb6618153aMods
