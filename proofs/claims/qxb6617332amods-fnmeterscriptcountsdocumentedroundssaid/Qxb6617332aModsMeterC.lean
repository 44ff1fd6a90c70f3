import Derived.Test.Qxb6617332aModsMeterD
namespace Go.Proofs.Qxb6617332aMods
open Go.RowKit

theorem fired_bd {R : Nat → Rd} {n : Nat} {F : Int} (h : FiredIs R n F) : -1 ≤ F ∧ F < n := by
  rcases h with ⟨rfl, _⟩ | ⟨j, rfl, hj, _⟩
  · exact ⟨by decide, by omega⟩
  · exact ⟨by omega, by omega⟩
theorem sHi_nat (q k0 : Int) (n : Nat) : sHi q k0 n = ((sHi q k0 n).toNat : Int) ∧ (sHi q k0 n).toNat ≤ n := by
  have h : 0 ≤ sHi q k0 n ∧ sHi q k0 n ≤ n := by unfold sHi; (repeat' split) <;> omega
  omega
theorem bLo_nat (m k0 : Int) (n : Nat) : bLo m k0 n = ((bLo m k0 n).toNat : Int) := by
  have h : 0 ≤ bLo m k0 n := by unfold bLo; (repeat' split) <;> omega
  omega
theorem bHi_nat (f F : Int) (n : Nat) (hF : F < n) : bHi f F n = ((bHi f F n).toNat : Int) ∧ (bHi f F n).toNat ≤ n := by
  have h : 0 ≤ bHi f F n ∧ bHi f F n ≤ n := by unfold bHi; (repeat' split) <;> omega
  omega
theorem run_is (R : Nat → Rd) (q m f s b k0 : Int) (hk : 1 ≤ k0) (n : Nat) (F : Int) (hF : FiredIs R n F) :
    runM R ⟨q, m, f, s, b⟩ k0 n = ⟨q, m, wantFire f k0 F, sumS R s (sHi q k0 n).toNat, sumB R b (bLo m k0 n).toNat ((bHi f F n).toNat - (bLo m k0 n).toNat)⟩ :=
  Mt.same (runM_q R _ k0 n) (runM_m R _ k0 n) (runM_f R _ k0 hk n F hF) (runM_s R _ k0 n) (runM_b R _ k0 hk n F hF)

set_option maxRecDepth 100000 in
set_option maxHeartbeats 4000000 in
/-- The third loop: the first round that fired. -/
theorem part_c (q m f s b k0 : Int) (p : Option Addr) (len cap bw bs : Nat) (R : Nat → Rd) (w wa : World) (u7 u8 u9 u10 u11 u12 u13 u14 u15 u16 u20 u21 u22 u23 u24 u25 u26 u27 u28 u29 u30 u31 u32 u33 u34 u35 u36 u37 u38 u39 u40 u41 u42 u43 u44 u45 u46 u47 u48 u49 u50 u51 u52 u53 u54 u55 u56 u57 u58 u59 u60 u61 u62 u63 u64 u65 u66 u67 u68 u69 u70 u71 u72 u73 u74 u75 u76 u77 u78 u79 u80 u81 u82 u83 u84 u85 u86 u87 u88 u89 u90 u91 u92 u93 u94 u95 u96 u97 u98 u99 u100 u101 u102 u103 u104 u105 u106 u107 u108 u109 u110 u111 u112 u113 u114 u115 u116 u117 u118 u119 u120 u121 u122 u123 u124 u125 u126 u127 u128 u129 u130 u131 u132 u133 u134 u135 u136 u137 u138 u139 u140 u141 u142 u143 u144 u145 u146 u147 u148 u149 u150 u151 u152 u153 u154 u155 u156 u157 u158 u159 u160 u161 u162 u163 u164 u165 u166 u167 u168 u169 u170 u171 u172 u173 u174 u175 u176 u177 u178 u179 u180 u181 u182 u183 u184 u185 u186 u187 u188 u189 u190 u191 u192 u193 u194 u195 u196 u197 u198 u199 u200 u201 u202 u203 u204 u205 u206 u207 u208 u209 u210 u211 u212 u213 u214 u215 u216 u217 u218 u219 u220 u221 u222 u223 u224 u225 u226 u227 u228 u229 u230 u231 u232 u233 u234 u235 u236 u237 u238 u239 u240 u241 u242 u243 u244 u245 u246 u247 u248 u249 u250 u251 u252 u253 u254 u255 u256 u257 u258 u259 u260 u261 u262 u263 u264 u265 u266 u267 u268 u269 u270 u271 u272 u273 u274 u275 u276 u277 u278 u279 u280 u281 u282 u283 u284 u285 u286 u287 u288 u289 u290 u291 u292 u293 u294 u295 u296 u297 u298 u299 u300 u301 u302 u303 u304 u305 u306 u307 u308 u309 u310 u311 : Value)
    (hL : len ≤ 4096) (hk1 : 1 ≤ k0) (hk2 : k0 ≤ 4611686018427387904) (hq : q ≤ 9223372036854775807) (hm : m ≤ 9223372036854775807) (hR : Lies wa p len R)
    (hbel : Below w.heap.size w wa) (hw : Am wa bw (runM R ⟨q, m, f, s, b⟩ k0 len)) (hs : Am wa bs (runM R ⟨q, m, f, s, b⟩ k0 len)) :
    Code.wp Trym.prog (dropS 11 (Trym.f5.body.getD .skip)) (bodyPost Trym.prog Trym.f5 (fun e w' => e = .returned (.bool true) ∧ Below w.heap.size w w')) ⟨#[.int .i64 q, .int .i64 m, .int .i64 f, .int .i64 s, .int .i64 b, .int .i64 k0, .slice p len cap, u7, u8, u9, u10, u11, u12, u13, u14, u15, u16, .int .i64 len, .pointer (some ⟨bw, 0, none⟩), .pointer (some ⟨bs, 0, none⟩), u20, u21, u22, u23, u24, u25, u26, u27, u28, u29, u30, u31, u32, u33, u34, u35, u36, u37, u38, u39, u40, u41, u42, u43, u44, u45, u46, u47, u48, u49, u50, u51, u52, u53, u54, u55, u56, u57, u58, u59, u60, u61, u62, u63, u64, u65, u66, u67, u68, u69, u70, u71, u72, u73, u74, u75, u76, u77, u78, u79, u80, u81, u82, u83, u84, u85, u86, u87, u88, u89, u90, u91, u92, u93, u94, u95, u96, u97, u98, u99, u100, u101, u102, u103, u104, u105, u106, u107, u108, u109, u110, u111, u112, u113, u114, u115, u116, u117, u118, u119, u120, u121, u122, u123, u124, u125, u126, u127, u128, u129, u130, u131, u132, u133, u134, u135, u136, u137, u138, u139, u140, u141, u142, u143, u144, u145, u146, u147, u148, u149, u150, u151, u152, u153, u154, u155, u156, u157, u158, u159, u160, u161, u162, u163, u164, u165, u166, u167, u168, u169, u170, u171, u172, u173, u174, u175, u176, u177, u178, u179, u180, u181, u182, u183, u184, u185, u186, u187, u188, u189, u190, u191, u192, u193, u194, u195, u196, u197, u198, u199, u200, u201, u202, u203, u204, u205, u206, u207, u208, u209, u210, u211, u212, u213, u214, u215, u216, u217, u218, u219, u220, u221, u222, u223, u224, u225, u226, u227, u228, u229, u230, u231, u232, u233, u234, u235, u236, u237, u238, u239, u240, u241, u242, u243, u244, u245, u246, u247, u248, u249, u250, u251, u252, u253, u254, u255, u256, u257, u258, u259, u260, u261, u262, u263, u264, u265, u266, u267, u268, u269, u270, u271, u272, u273, u274, u275, u276, u277, u278, u279, u280, u281, u282, u283, u284, u285, u286, u287, u288, u289, u290, u291, u292, u293, u294, u295, u296, u297, u298, u299, u300, u301, u302, u303, u304, u305, u306, u307, u308, u309, u310, u311], []⟩ wa := by
  conv => arg 2; whnf
  go_upto_block 4 with fail
  go_cut [23, 24] (fun a _ wx => ∃ F : Int, a = .int .i64 F ∧ FiredIs R len F ∧ wa = wx)
  case first => as_aux_lemma =>
    clear hw hs
    go_wp2_with fail
    go_loopg [23, 24] len (fun g a i wx => ∃ j : Nat, g + j = len ∧ i = .int .i64 (j : Int) ∧ a = .int .i64 (-1) ∧ (∀ i, i < j → (R i).fired = false) ∧ wa = wx)
    case atStart => exact ⟨0, rfl, rfl, rfl, fun i hi => absurd hi (Nat.not_lt_zero _), rfl⟩
    case round =>
      obtain ⟨j, hg, rfl, rfl, hno, rfl⟩ := hrel
      have Hno : Hid (∀ i, i < j → (R i).fired = false) := hno
      clear hno
      by_cases hlt : j < len
      · obtain ⟨bb, off, rfl, hbb, hcells⟩ := hR.lies (by omega)
        obtain ⟨c0, c1, c2, c3, c4⟩ := hcells j (by omega)
        clear hcells
        cases hf : (R j).fired with
        | true =>
          have HF : Hid (FiredIs R len j) := Or.inr ⟨j, rfl, hlt, hf, Hno.out⟩
          go_wp2
          go_meet
          case rel => exact ⟨j, rfl, HF.out, rfl⟩
        | false =>
          have HF : Hid (∀ i, i < j + 1 → (R i).fired = false) := by
            intro i hi
            rcases Nat.lt_succ_iff_lt_or_eq.1 hi with h | h
            · exact Hno.out i h
            · rw [h]; exact hf
          go_wp2
          go_roundg (gk - 1)
          case measure => omega
          case rel => exact ⟨j + 1, by omega, by go_num, rfl, HF.out, rfl⟩
      · have HF : Hid (FiredIs R len (-1)) := Or.inl ⟨rfl, fun i hi => Hno.out i (by omega)⟩
        go_wp2
        go_meet
        case rel => exact ⟨-1, rfl, HF.out, rfl⟩
  case rest =>
  obtain ⟨F, rfl, hF, rfl⟩ := hcut
  rw [run_is R q m f s b k0 hk1 len F hF] at hw hs
  have hb := fired_bd hF
  apply_assumption
  exact part_d q m f s b k0 F _ p len cap bw bs _ _ _ R w wa _ _ _ _ _ _ _ _ _ _ _ _ _ _ _ _ _ _ _ _ _ _ _ _ _ _ _ _ _ _ _ _ _ _ _ _ _ _ _ _ _ _ _ _ _ _ _ _ _ _ _ _ _ _ _ _ _ _ _ _ _ _ _ _ _ _ _ _ _ _ _ _ _ _ _ _ _ _ _ _ _ _ _ _ _ _ _ _ _ _ _ _ _ _ _ _ _ _ _ _ _ _ _ _ _ _ _ _ _ _ _ _ _ _ _ _ _ _ _ _ _ _ _ _ _ _ _ _ _ _ _ _ _ _ _ _ _ _ _ _ _ _ _ _ _ _ _ _ _ _ _ _ _ _ _ _ _ _ _ _ _ _ _ _ _ _ _ _ _ _ _ _ _ _ _ _ _ _ _ _ _ _ _ _ _ _ _ _ _ _ _ _ _ _ _ _ _ _ _ _ _ _ _ _ _ _ _ _ _ _ _ _ _ _ _ _ _ _ _ _ _ _ _ _ _ _ _ _ _ _ _ _ _ _ _ _ _ _ _ _ _ _ _ _ _ _ _ _ _ _ _ _ _ _ _ _ _ _ _ _ _ _ _ _ _ _ _ _ _ _ _ _ _ _ _ _ _ _ _ _ _ _ _ _ _ _ _ _ _ _ _ _ _ _ _ _ _ _ _ _ _ hL hk1 hk2 hq hm hb.1 hb.2 rfl (sHi_nat q k0 len).1 (bLo_nat m k0 len) (bHi_nat f F len hb.2).1 (sHi_nat q k0 len).2 (bHi_nat f F len hb.2).2 hR hbel hw hs
end Go.Proofs.Qxb6617332aMods
