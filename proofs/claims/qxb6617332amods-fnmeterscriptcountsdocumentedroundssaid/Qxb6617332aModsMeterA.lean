import Derived.Test.Qxb6617332aModsMeterB
namespace Go.Proofs.Qxb6617332aMods
open Go.RowKit

set_option maxRecDepth 100000 in
set_option maxHeartbeats 4000000 in
theorem early1 (q m f s b k0 : Int) (p : Option Addr) (len cap : Nat) (w : World) (hcap : len ≤ 9223372036854775807) (h1 : ¬ len ≤ 1048576) :
    Calls Trym.prog 5 #[.int .i64 q, .int .i64 m, .int .i64 f, .int .i64 s, .int .i64 b, .int .i64 k0, .slice p len cap] w fun e w' => e = .returned (.bool true) ∧ Below w.heap.size w w' := by
  have hd : decide (len ≤ 1048576) = false := by simp; omega
  go_enter Trym.func5, Trym.ntmps5
  go_wp2_with fail
  refine (zzbytes5_any w q m f s b k0 p len cap hcap).mono ?_
  rintro e w' ⟨rfl, rfl⟩
  rw [hd]
  go_wp2_with fail
  go_ret
  exact ⟨rfl, Below.refl _ _⟩

set_option maxRecDepth 100000 in
set_option maxHeartbeats 4000000 in
theorem early2 (q m f s b k0 : Int) (p : Option Addr) (len cap : Nat) (w : World) (hcap : len ≤ 9223372036854775807) (h1 : len ≤ 1048576) (h2 : ¬ len ≤ 4096) :
    Calls Trym.prog 5 #[.int .i64 q, .int .i64 m, .int .i64 f, .int .i64 s, .int .i64 b, .int .i64 k0, .slice p len cap] w fun e w' => e = .returned (.bool true) ∧ Below w.heap.size w w' := by
  have hd : decide (len ≤ 1048576) = true := by simp; omega
  go_enter Trym.func5, Trym.ntmps5
  go_wp2_with fail
  refine (zzbytes5_any w q m f s b k0 p len cap hcap).mono ?_
  rintro e w' ⟨rfl, rfl⟩
  rw [hd]
  go_wp2_with fail
  go_ret
  exact ⟨rfl, Below.refl _ _⟩

set_option maxRecDepth 100000 in
set_option maxHeartbeats 4000000 in
theorem early3 (q m f s b k0 : Int) (p : Option Addr) (len cap : Nat) (w : World) (hcap : len ≤ 9223372036854775807) (h1 : len ≤ 4096) (h2 : k0 < 1) :
    Calls Trym.prog 5 #[.int .i64 q, .int .i64 m, .int .i64 f, .int .i64 s, .int .i64 b, .int .i64 k0, .slice p len cap] w fun e w' => e = .returned (.bool true) ∧ Below w.heap.size w w' := by
  have hd : decide (len ≤ 1048576) = true := by simp; omega
  go_enter Trym.func5, Trym.ntmps5
  go_wp2_with fail
  refine (zzbytes5_any w q m f s b k0 p len cap hcap).mono ?_
  rintro e w' ⟨rfl, rfl⟩
  rw [hd]
  go_wp2_with fail
  go_ret
  exact ⟨rfl, Below.refl _ _⟩

set_option maxRecDepth 100000 in
set_option maxHeartbeats 4000000 in
theorem early4 (q m f s b k0 : Int) (p : Option Addr) (len cap : Nat) (w : World) (hcap : len ≤ 9223372036854775807) (h1 : len ≤ 4096) (h2 : 1 ≤ k0) (h3 : ¬ k0 ≤ 4611686018427387904) :
    Calls Trym.prog 5 #[.int .i64 q, .int .i64 m, .int .i64 f, .int .i64 s, .int .i64 b, .int .i64 k0, .slice p len cap] w fun e w' => e = .returned (.bool true) ∧ Below w.heap.size w w' := by
  have hd : decide (len ≤ 1048576) = true := by simp; omega
  go_enter Trym.func5, Trym.ntmps5
  go_wp2_with fail
  refine (zzbytes5_any w q m f s b k0 p len cap hcap).mono ?_
  rintro e w' ⟨rfl, rfl⟩
  rw [hd]
  go_wp2_with fail
  go_ret
  exact ⟨rfl, Below.refl _ _⟩

set_option maxRecDepth 100000 in
set_option maxHeartbeats 4000000 in
theorem part_a (q m f s b k0 : Int) (p : Option Addr) (len cap : Nat) (R : Nat → Rd) (w : World) (hcap : len ≤ 9223372036854775807)
    (hL : len ≤ 4096) (hk1 : 1 ≤ k0) (hk2 : k0 ≤ 4611686018427387904) (hq : q ≤ 9223372036854775807) (hm : m ≤ 9223372036854775807) (hR : Lies w p len R) :
    Calls Trym.prog 5 #[.int .i64 q, .int .i64 m, .int .i64 f, .int .i64 s, .int .i64 b, .int .i64 k0, .slice p len cap] w fun e w' => e = .returned (.bool true) ∧ Below w.heap.size w w' := by
  have hd : decide (len ≤ 1048576) = true := by simp; omega
  go_enter Trym.func5, Trym.ntmps5
  go_wp2_with fail
  refine (zzbytes5_any w q m f s b k0 p len cap hcap).mono ?_
  rintro e w' ⟨rfl, hw⟩
  obtain rfl : w = w' := hw.symm
  rw [hd]
  clear hd
  go_upto_region 8 with fail
  go_cut [76] from 63 to 75 (fun s wx => ∃ bb, s = .bool bb ∧ w = wx)
  case first => as_aux_lemma =>
    go_wp2_with fail
    all_goals (go_meet; exact ⟨_, rfl, rfl⟩)
  case rest =>
  obtain ⟨bb, rfl, rfl⟩ := hcut
  go_upto_if 76 with fail
  cases bb with
  | true => as_aux_lemma =>
    go_wp2_with fail
    go_ret
    exact ⟨rfl, Below.refl _ _⟩
  | false =>
  go_upto_block 0 with fail
  go_cut [15, 16] from 77 to 108 (fun _ _ wx => Below w.heap.size w wx)
  case first => as_aux_lemma =>
    go_wp2_with fail
    go_loopg [15, 16] len (fun g i _ wx => ∃ k : Nat, g + k = len ∧ i = .int .i64 (k : Int) ∧ Below w.heap.size w wx)
    case atStart => exact ⟨0, rfl, rfl, Below.refl _ _⟩
    case round =>
      obtain ⟨k, hg, rfl, hbel⟩ := hrel
      by_cases hlt : k < len
      · obtain ⟨bb, off, rfl, hbb, hcells⟩ := (hR.below hbel).lies (by omega)
        obtain ⟨c0, c1, c2, c3, c4⟩ := hcells k hlt
        clear hcells hR
        have hb2 := hbel.alloc hbel.size (.cells #[.int .i64 (R k).msg, .int .i64 (R k).bit, .int .i64 (R k).smsg, .int .i64 (R k).sbit, .bool (R k).fired] 39)
        go_upto_region 14 with fail
        go_cut [108] from 77 to 107 (fun s wx => ∃ bb, s = .bool bb ∧ wr.alloc (.cells #[.int .i64 (R k).msg, .int .i64 (R k).bit, .int .i64 (R k).smsg, .int .i64 (R k).sbit, .bool (R k).fired] 39) = wx)
        case first => as_aux_lemma =>
          clear c0 c1 c2 c3 c4
          go_wp2_with (go_at_call 13; refine (within_any _ _).mono ?_; rintro e w' ⟨rfl, rfl⟩)
          all_goals (go_meet; exact ⟨_, rfl, rfl⟩)
        case rest =>
        obtain ⟨bt, rfl, rfl⟩ := hcut
        go_upto_if 108 with fail
        cases bt with
        | true => as_aux_lemma =>
          go_wp2_with fail
          go_ret
          exact ⟨rfl, hb2⟩
        | false => as_aux_lemma =>
          go_wp2_with fail
          go_roundg (gk - 1)
          case measure => omega
          case rel => exact ⟨k + 1, by omega, by go_num, hb2⟩
      · go_wp2_with fail
        go_meet
        case rel => exact hbel
  case rest =>
  have hbel := hcut
  clear hcut
  apply_assumption
  exact part_b q m f s b k0 p len cap R w wc _ _ _ _ _ _ _ _ _ _ _ _ _ _ _ _ _ _ _ _ _ _ _ _ _ _ _ _ _ _ _ _ _ _ _ _ _ _ _ _ _ _ _ _ _ _ _ _ _ _ _ _ _ _ _ _ _ _ _ _ _ _ _ _ _ _ _ _ _ _ _ _ _ _ _ _ _ _ _ _ _ _ _ _ _ _ _ _ _ _ _ _ _ _ _ _ _ _ _ _ _ _ _ _ _ _ _ _ _ _ _ _ _ _ _ _ _ _ _ _ _ _ _ _ _ _ _ _ _ _ _ _ _ _ _ _ _ _ _ _ _ _ _ _ _ _ _ _ _ _ _ _ _ _ _ _ _ _ _ _ _ _ _ _ _ _ _ _ _ _ _ _ _ _ _ _ _ _ _ _ _ _ _ _ _ _ _ _ _ _ _ _ _ _ _ _ _ _ _ _ _ _ _ _ _ _ _ _ _ _ _ _ _ _ _ _ _ _ _ _ _ _ _ _ _ _ _ _ _ _ _ _ _ _ _ _ _ _ _ _ _ _ _ _ _ _ _ _ _ _ _ _ _ _ _ _ _ _ _ _ _ _ _ _ _ _ _ _ _ _ _ _ _ _ _ _ _ _ _ _ _ _ _ _ _ _ _ _ _ _ _ _ _ _ _ _ _ _ _ _ _ _ _ _ _ hL hk1 hk2 hq hm hR hbel

theorem meter_walk (q m f s b k0 : Int) (p : Option Addr) (len cap : Nat) (R : Nat → Rd) (w : World) (hcap : len ≤ 9223372036854775807)
    (hq : q ≤ 9223372036854775807) (hm : m ≤ 9223372036854775807) (hR : Lies w p len R) :
    Calls Trym.prog 5 #[.int .i64 q, .int .i64 m, .int .i64 f, .int .i64 s, .int .i64 b, .int .i64 k0, .slice p len cap] w fun e w' => e = .returned (.bool true) ∧ Below w.heap.size w w' := by
  by_cases h1 : len ≤ 1048576
  · by_cases h2 : len ≤ 4096
    · by_cases h3 : 1 ≤ k0
      · by_cases h4 : k0 ≤ 4611686018427387904
        · exact part_a q m f s b k0 p len cap R w hcap h2 h3 h4 hq hm hR
        · exact early4 q m f s b k0 p len cap w hcap h2 h3 h4
      · exact early3 q m f s b k0 p len cap w hcap h2 (by omega)
    · exact early2 q m f s b k0 p len cap w hcap h1 h2
  · exact early1 q m f s b k0 p len cap w hcap h1
end Go.Proofs.Qxb6617332aMods
