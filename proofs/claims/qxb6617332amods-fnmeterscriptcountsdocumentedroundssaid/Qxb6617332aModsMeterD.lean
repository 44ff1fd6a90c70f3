import Derived.Test.Qxb6617332aModsMeterF
namespace Go.Proofs.Qxb6617332aMods
open Go.RowKit

def gF (f F : Int) : Bool := decide (f = 0 ∧ 0 ≤ F)
theorem gF_t {f F : Int} (h : (f == 0) = true) : gF f F = decide (0 ≤ F) := by simp at h; simp [gF, h]
theorem gF_f {f F : Int} (h : (f == 0) = false) : gF f F = false := by simp at h; simp [gF, h]

set_option maxRecDepth 100000 in
set_option maxHeartbeats 4000000 in
/-- What is wanted: the tests between the loops. -/
theorem part_d (q m f s b k0 F wf : Int) (p : Option Addr) (len cap bw bs hi lo bh : Nat) (R : Nat → Rd) (w wa : World) (u7 u8 u9 u10 u11 u12 u13 u14 u15 u16 u20 u21 u22 u24 u25 u26 u27 u28 u29 u30 u31 u32 u33 u34 u35 u36 u37 u38 u39 u40 u41 u42 u43 u44 u45 u46 u47 u48 u49 u50 u51 u52 u53 u54 u55 u56 u57 u58 u59 u60 u61 u62 u63 u64 u65 u66 u67 u68 u69 u70 u71 u72 u73 u74 u75 u76 u77 u78 u79 u80 u81 u82 u83 u84 u85 u86 u87 u88 u89 u90 u91 u92 u93 u94 u95 u96 u97 u98 u99 u100 u101 u102 u103 u104 u105 u106 u107 u108 u109 u110 u111 u112 u113 u114 u115 u116 u117 u118 u119 u120 u121 u122 u123 u124 u125 u126 u127 u128 u129 u130 u131 u132 u133 u134 u135 u136 u137 u138 u139 u140 u141 u142 u143 u144 u145 u146 u147 u148 u149 u150 u151 u152 u153 u154 u155 u156 u157 u158 u159 u160 u161 u162 u163 u164 u165 u166 u167 u168 u169 u170 u171 u172 u173 u174 u175 u176 u177 u178 u179 u180 u181 u182 u183 u184 u185 u186 u187 u188 u189 u190 u191 u192 u193 u194 u195 u196 u197 u198 u199 u200 u201 u202 u203 u204 u205 u206 u207 u208 u209 u210 u211 u212 u213 u214 u215 u216 u217 u218 u219 u220 u221 u222 u223 u224 u225 u226 u227 u228 u229 u230 u231 u232 u233 u234 u235 u236 u237 u238 u239 u240 u241 u242 u243 u244 u245 u246 u247 u248 u249 u250 u251 u252 u253 u254 u255 u256 u257 u258 u259 u260 u261 u262 u263 u264 u265 u266 u267 u268 u269 u270 u271 u272 u273 u274 u275 u276 u277 u278 u279 u280 u281 u282 u283 u284 u285 u286 u287 u288 u289 u290 u291 u292 u293 u294 u295 u296 u297 u298 u299 u300 u301 u302 u303 u304 u305 u306 u307 u308 u309 u310 u311 : Value)
    (hL : len ≤ 4096) (hk1 : 1 ≤ k0) (hk2 : k0 ≤ 4611686018427387904) (hq : q ≤ 9223372036854775807) (hm : m ≤ 9223372036854775807) (_hF1 : -1 ≤ F) (hF2 : F < len)
    (ewf : Hid (wantFire f k0 F = wf)) (ehi : Hid (sHi q k0 len = hi)) (elo : Hid (bLo m k0 len = lo)) (ebh : Hid (bHi f F len = bh)) (hhi : hi ≤ len) (hbh : bh ≤ len) (hR : Lies wa p len R)
    (hbel : Below w.heap.size w wa) (hw : Am wa bw ⟨q, m, wf, sumS R s hi, sumB R b lo (bh - lo)⟩) (hs : Am wa bs ⟨q, m, wf, sumS R s hi, sumB R b lo (bh - lo)⟩) :
    Code.wp Trym.prog (dropS 13 (Trym.f5.body.getD .skip)) (bodyPost Trym.prog Trym.f5 (fun e w' => e = .returned (.bool true) ∧ Below w.heap.size w w')) ⟨#[.int .i64 q, .int .i64 m, .int .i64 f, .int .i64 s, .int .i64 b, .int .i64 k0, .slice p len cap, u7, u8, u9, u10, u11, u12, u13, u14, u15, u16, .int .i64 len, .pointer (some ⟨bw, 0, none⟩), .pointer (some ⟨bs, 0, none⟩), u20, u21, u22, .int .i64 F, u24, u25, u26, u27, u28, u29, u30, u31, u32, u33, u34, u35, u36, u37, u38, u39, u40, u41, u42, u43, u44, u45, u46, u47, u48, u49, u50, u51, u52, u53, u54, u55, u56, u57, u58, u59, u60, u61, u62, u63, u64, u65, u66, u67, u68, u69, u70, u71, u72, u73, u74, u75, u76, u77, u78, u79, u80, u81, u82, u83, u84, u85, u86, u87, u88, u89, u90, u91, u92, u93, u94, u95, u96, u97, u98, u99, u100, u101, u102, u103, u104, u105, u106, u107, u108, u109, u110, u111, u112, u113, u114, u115, u116, u117, u118, u119, u120, u121, u122, u123, u124, u125, u126, u127, u128, u129, u130, u131, u132, u133, u134, u135, u136, u137, u138, u139, u140, u141, u142, u143, u144, u145, u146, u147, u148, u149, u150, u151, u152, u153, u154, u155, u156, u157, u158, u159, u160, u161, u162, u163, u164, u165, u166, u167, u168, u169, u170, u171, u172, u173, u174, u175, u176, u177, u178, u179, u180, u181, u182, u183, u184, u185, u186, u187, u188, u189, u190, u191, u192, u193, u194, u195, u196, u197, u198, u199, u200, u201, u202, u203, u204, u205, u206, u207, u208, u209, u210, u211, u212, u213, u214, u215, u216, u217, u218, u219, u220, u221, u222, u223, u224, u225, u226, u227, u228, u229, u230, u231, u232, u233, u234, u235, u236, u237, u238, u239, u240, u241, u242, u243, u244, u245, u246, u247, u248, u249, u250, u251, u252, u253, u254, u255, u256, u257, u258, u259, u260, u261, u262, u263, u264, u265, u266, u267, u268, u269, u270, u271, u272, u273, u274, u275, u276, u277, u278, u279, u280, u281, u282, u283, u284, u285, u286, u287, u288, u289, u290, u291, u292, u293, u294, u295, u296, u297, u298, u299, u300, u301, u302, u303, u304, u305, u306, u307, u308, u309, u310, u311], []⟩ wa := by
  conv => arg 2; whnf
  go_upto_region 34 with fail
  go_cut [183] from 178 to 182 (fun sx wx => sx = .bool (gF f F) ∧ wa = wx)
  case first => as_aux_lemma =>
    clear hw hs hR hbel
    cases h1 : f == 0 with
    | true =>
      have E : Hid (gF f F = decide (0 ≤ F)) := gF_t h1
      go_wp2_with fail
      go_meet
      case rel => exact ⟨by rw [E.out], rfl⟩
    | false =>
      have E : Hid (gF f F = false) := gF_f h1
      go_wp2_with fail
      go_meet
      case rel => exact ⟨by rw [E.out], rfl⟩
  case rest =>
  obtain ⟨rfl, rfl⟩ := hcut
  go_upto_if 183 with fail
  go_cut [25] from 177 to 186 (fun sx wx => sx = .int .i64 wf ∧ wa = wx)
  case first => as_aux_lemma =>
    clear hw hs hR hbel
    cases h1 : gF f F with
    | true =>
      have e1 := of_decide_eq_true h1
      have E : Hid (wf = k0 + F) := by rw [Hid, ← ewf.out]; simp [wantFire, e1]
      have hF0 := e1.2
      clear e1
      go_wp2_with fail
      go_meet
      case rel => exact ⟨by rw [E.out], rfl⟩
    | false =>
      have e1 := of_decide_eq_false h1
      have E : Hid (wf = f) := by rw [Hid, ← ewf.out]; unfold wantFire; rw [if_neg e1]
      clear e1
      go_wp2_with fail
      go_meet
      case rel => exact ⟨by rw [E.out], rfl⟩
  case rest =>
  obtain ⟨rfl, rfl⟩ := hcut
  go_upto_if 189 with fail
  go_cut [26] from 187 to 200 (fun sx wx => sx = .int .i64 hi ∧ wa = wx)
  case first => as_aux_lemma =>
    clear hw hs hR hbel
    cases h1 : q != 0 with
    | true =>
      have e1 : ¬ q = 0 := by simpa using h1
      by_cases h2 : q ≤ k0
      · have E : Hid ((hi : Int) = 0) := by rw [Hid, ← ehi.out]; simp [sHi, e1, h2]
        clear e1
        go_wp2_with fail
        go_meet
        case rel => exact ⟨by rw [E.out], rfl⟩
      · by_cases h3 : q - k0 < len
        · have E : Hid ((hi : Int) = q - k0) := by rw [Hid, ← ehi.out]; simp [sHi, e1, h2, h3]
          clear e1
          go_wp2_with fail
          go_meet
          case rel => exact ⟨by rw [E.out], rfl⟩
        · have E : Hid ((hi : Int) = len) := by rw [Hid, ← ehi.out]; simp [sHi, e1, h2, h3]
          clear e1
          go_wp2_with fail
          go_meet
          case rel => exact ⟨by rw [E.out], rfl⟩
    | false =>
      have e1 : q = 0 := by simpa using h1
      have E : Hid ((hi : Int) = len) := by rw [Hid, ← ehi.out]; simp [sHi, e1]
      clear e1
      go_wp2_with fail
      go_meet
      case rel => exact ⟨by rw [E.out], rfl⟩
  case rest =>
  obtain ⟨rfl, rfl⟩ := hcut
  go_upto_if 203 with fail
  go_cut [27] from 201 to 212 (fun sx wx => sx = .int .i64 lo ∧ wa = wx)
  case first => as_aux_lemma =>
    clear hw hs hR hbel
    by_cases h1 : k0 < m
    · by_cases h2 : m - k0 < len
      · have E : Hid ((lo : Int) = m - k0) := by rw [Hid, ← elo.out]; simp [bLo, h1, h2]
        go_wp2_with fail
        go_meet
        case rel => exact ⟨by rw [E.out], rfl⟩
      · have E : Hid ((lo : Int) = len) := by rw [Hid, ← elo.out]; simp [bLo, h1, h2]
        go_wp2_with fail
        go_meet
        case rel => exact ⟨by rw [E.out], rfl⟩
    · have E : Hid ((lo : Int) = 0) := by rw [Hid, ← elo.out]; simp [bLo, h1]
      go_wp2_with fail
      go_meet
      case rel => exact ⟨by rw [E.out], rfl⟩
  case rest =>
  obtain ⟨rfl, rfl⟩ := hcut
  go_upto_if 214 with fail
  go_cut [28] from 213 to 218 (fun sx wx => sx = .int .i64 bh ∧ wa = wx)
  case first => as_aux_lemma =>
    clear hw hs hR hbel
    cases h1 : f == 0 with
    | true =>
      have e1 : f = 0 := by simpa using h1
      by_cases h2 : 0 ≤ F
      · have E : Hid ((bh : Int) = F) := by rw [Hid, ← ebh.out]; simp [bHi, e1, h2]
        clear e1
        go_wp2_with fail
        go_meet
        case rel => exact ⟨by rw [E.out], rfl⟩
      · have E : Hid ((bh : Int) = len) := by rw [Hid, ← ebh.out]; simp [bHi, e1, h2]
        clear e1
        go_wp2_with fail
        go_meet
        case rel => exact ⟨by rw [E.out], rfl⟩
    | false =>
      have e1 : ¬ f = 0 := by simpa using h1
      have E : Hid ((bh : Int) = 0) := by rw [Hid, ← ebh.out]; simp [bHi, e1]
      clear e1
      go_wp2_with fail
      go_meet
      case rel => exact ⟨by rw [E.out], rfl⟩
  case rest =>
  obtain ⟨rfl, rfl⟩ := hcut
  apply_assumption
  exact part_e1 q m f s b k0 wf p len cap bw bs hi lo bh R w wa _ _ _ _ _ _ _ _ _ _ _ _ _ _ _ _ _ _ _ _ _ _ _ _ _ _ _ _ _ _ _ _ _ _ _ _ _ _ _ _ _ _ _ _ _ _ _ _ _ _ _ _ _ _ _ _ _ _ _ _ _ _ _ _ _ _ _ _ _ _ _ _ _ _ _ _ _ _ _ _ _ _ _ _ _ _ _ _ _ _ _ _ _ _ _ _ _ _ _ _ _ _ _ _ _ _ _ _ _ _ _ _ _ _ _ _ _ _ _ _ _ _ _ _ _ _ _ _ _ _ _ _ _ _ _ _ _ _ _ _ _ _ _ _ _ _ _ _ _ _ _ _ _ _ _ _ _ _ _ _ _ _ _ _ _ _ _ _ _ _ _ _ _ _ _ _ _ _ _ _ _ _ _ _ _ _ _ _ _ _ _ _ _ _ _ _ _ _ _ _ _ _ _ _ _ _ _ _ _ _ _ _ _ _ _ _ _ _ _ _ _ _ _ _ _ _ _ _ _ _ _ _ _ _ _ _ _ _ _ _ _ _ _ _ _ _ _ _ _ _ _ _ _ _ _ _ _ _ _ _ _ _ _ _ _ _ _ _ _ _ _ _ _ _ _ _ _ _ _ _ _ _ _ _ _ _ _ _ _ _ _ _ _ _ _ _ _ _ hL hhi hbh hR hbel hw hs
end Go.Proofs.Qxb6617332aMods
