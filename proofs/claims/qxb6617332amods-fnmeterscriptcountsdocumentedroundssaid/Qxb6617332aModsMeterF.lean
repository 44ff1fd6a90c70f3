import Derived.Test.Qxb6617332aModsMeter
import Derived.Deep.LoopGhost
import Derived.Deep.CutBlock
import Derived.LoopTactic
namespace Go.Proofs.Qxb6617332aMods
open Go.RowKit

/-- The script lies in memory: round i at five cells. -/
structure Lies (w : World) (p : Option Addr) (len : Nat) (R : Nat → Rd) : Prop where
  lies : 0 < len → ∃ b off, p = some ⟨b, off, none⟩ ∧ b < w.heap.size ∧ ∀ i, i < len →
    w.cell? ⟨b, off + i * 5, none⟩ = some (.int .i64 (R i).msg) ∧ w.cell? ⟨b, off + i * 5 + 1, none⟩ = some (.int .i64 (R i).bit) ∧ w.cell? ⟨b, off + i * 5 + 2, none⟩ = some (.int .i64 (R i).smsg) ∧
    w.cell? ⟨b, off + i * 5 + 3, none⟩ = some (.int .i64 (R i).sbit) ∧ w.cell? ⟨b, off + i * 5 + 4, none⟩ = some (.bool (R i).fired)

theorem Lies.below {w w' : World} {p : Option Addr} {len : Nat} {R : Nat → Rd} (h : Lies w p len R) (hb : Below w.heap.size w w') : Lies w' p len R := by
  refine ⟨fun hl => ?_⟩
  obtain ⟨b, off, rfl, hlt, hc⟩ := h.lies hl
  refine ⟨b, off, rfl, Nat.lt_of_lt_of_le hlt hb.size, fun i hi => ?_⟩
  obtain ⟨c0, c1, c2, c3, c4⟩ := hc i hi
  exact ⟨(hb.cell (p := ⟨b, _, none⟩) hlt).trans c0, (hb.cell (p := ⟨b, _, none⟩) hlt).trans c1, (hb.cell (p := ⟨b, _, none⟩) hlt).trans c2, (hb.cell (p := ⟨b, _, none⟩) hlt).trans c3, (hb.cell (p := ⟨b, _, none⟩) hlt).trans c4⟩

/-- What is left of a body behind its first statements. -/
def dropS : Nat → Code → Code
  | 0, c => c
  | n + 1, .seq _ b => dropS n b
  | _ + 1, c => c

set_option maxRecDepth 100000 in
set_option maxHeartbeats 4000000 in
/-- The last statements: two meters read, each against what is wanted. -/
theorem part_f (q m f s b k0 wf ws wb : Int) (p : Option Addr) (len cap bw bs : Nat) (w wr : World) (u7 u8 u9 u10 u11 u12 u13 u14 u15 u16 u20 u21 u22 u23 u24 u26 u27 u28 u30 u32 u33 u34 u35 u36 u37 u38 u39 u40 u41 u42 u43 u44 u45 u46 u47 u48 u49 u50 u51 u52 u53 u54 u55 u56 u57 u58 u59 u60 u61 u62 u63 u64 u65 u66 u67 u68 u69 u70 u71 u72 u73 u74 u75 u76 u77 u78 u79 u80 u81 u82 u83 u84 u85 u86 u87 u88 u89 u90 u91 u92 u93 u94 u95 u96 u97 u98 u99 u100 u101 u102 u103 u104 u105 u106 u107 u108 u109 u110 u111 u112 u113 u114 u115 u116 u117 u118 u119 u120 u121 u122 u123 u124 u125 u126 u127 u128 u129 u130 u131 u132 u133 u134 u135 u136 u137 u138 u139 u140 u141 u142 u143 u144 u145 u146 u147 u148 u149 u150 u151 u152 u153 u154 u155 u156 u157 u158 u159 u160 u161 u162 u163 u164 u165 u166 u167 u168 u169 u170 u171 u172 u173 u174 u175 u176 u177 u178 u179 u180 u181 u182 u183 u184 u185 u186 u187 u188 u189 u190 u191 u192 u193 u194 u195 u196 u197 u198 u199 u200 u201 u202 u203 u204 u205 u206 u207 u208 u209 u210 u211 u212 u213 u214 u215 u216 u217 u218 u219 u220 u221 u222 u223 u224 u225 u226 u227 u228 u229 u230 u231 u232 u233 u234 u235 u236 u237 u238 u239 u240 u241 u242 u243 u244 u245 u246 u247 u248 u249 u250 u251 u252 u253 u254 u255 u256 u257 u258 u259 u260 u261 u262 u263 u264 u265 u266 u267 u268 u269 u270 u271 u272 u273 u274 u275 u276 u277 u278 u279 u280 u281 u282 u283 u284 u285 u286 u287 u288 u289 u290 u291 u292 u293 u294 u295 u296 u297 u298 u299 u300 u301 u302 u303 u304 u305 u306 u307 u308 u309 u310 u311 : Value)
    (hbel : Below w.heap.size w wr) (hw : Am wr bw ⟨q, m, wf, ws, wb⟩) (hs : Am wr bs ⟨q, m, wf, ws, wb⟩) :
    Code.wp Trym.prog (dropS 25 (Trym.f5.body.getD .skip)) (bodyPost Trym.prog Trym.f5 (fun e w' => e = .returned (.bool true) ∧ Below w.heap.size w w')) ⟨#[.int .i64 q, .int .i64 m, .int .i64 f, .int .i64 s, .int .i64 b, .int .i64 k0, .slice p len cap, u7, u8, u9, u10, u11, u12, u13, u14, u15, u16, .int .i64 len, .pointer (some ⟨bw, 0, none⟩), .pointer (some ⟨bs, 0, none⟩), u20, u21, u22, u23, u24, .int .i64 wf, u26, u27, u28, .int .i64 ws, u30, .int .i64 wb, u32, u33, u34, u35, u36, u37, u38, u39, u40, u41, u42, u43, u44, u45, u46, u47, u48, u49, u50, u51, u52, u53, u54, u55, u56, u57, u58, u59, u60, u61, u62, u63, u64, u65, u66, u67, u68, u69, u70, u71, u72, u73, u74, u75, u76, u77, u78, u79, u80, u81, u82, u83, u84, u85, u86, u87, u88, u89, u90, u91, u92, u93, u94, u95, u96, u97, u98, u99, u100, u101, u102, u103, u104, u105, u106, u107, u108, u109, u110, u111, u112, u113, u114, u115, u116, u117, u118, u119, u120, u121, u122, u123, u124, u125, u126, u127, u128, u129, u130, u131, u132, u133, u134, u135, u136, u137, u138, u139, u140, u141, u142, u143, u144, u145, u146, u147, u148, u149, u150, u151, u152, u153, u154, u155, u156, u157, u158, u159, u160, u161, u162, u163, u164, u165, u166, u167, u168, u169, u170, u171, u172, u173, u174, u175, u176, u177, u178, u179, u180, u181, u182, u183, u184, u185, u186, u187, u188, u189, u190, u191, u192, u193, u194, u195, u196, u197, u198, u199, u200, u201, u202, u203, u204, u205, u206, u207, u208, u209, u210, u211, u212, u213, u214, u215, u216, u217, u218, u219, u220, u221, u222, u223, u224, u225, u226, u227, u228, u229, u230, u231, u232, u233, u234, u235, u236, u237, u238, u239, u240, u241, u242, u243, u244, u245, u246, u247, u248, u249, u250, u251, u252, u253, u254, u255, u256, u257, u258, u259, u260, u261, u262, u263, u264, u265, u266, u267, u268, u269, u270, u271, u272, u273, u274, u275, u276, u277, u278, u279, u280, u281, u282, u283, u284, u285, u286, u287, u288, u289, u290, u291, u292, u293, u294, u295, u296, u297, u298, u299, u300, u301, u302, u303, u304, u305, u306, u307, u308, u309, u310, u311], []⟩ wr := by
  conv => arg 2; whnf
  go_wp2_with fail
  refine (zzstate_any wr bw ⟨q, m, wf, ws, wb⟩ hw).mono ?_
  rintro e w' ⟨rfl, n1, rfl⟩
  have hs1 : Am (wr.drewN n1) bs ⟨q, m, wf, ws, wb⟩ := hs.of_block rfl
  go_wp2_with fail
  refine (zzstate_any _ bs ⟨q, m, wf, ws, wb⟩ hs1).mono ?_
  rintro e w' ⟨rfl, n2, rfl⟩
  go_wp2_with fail
  go_ret
  exact ⟨rfl, hbel.os, hbel.tape, hbel.output, hbel.size, hbel.block⟩

set_option maxRecDepth 100000 in
set_option maxHeartbeats 4000000 in
/-- The fifth loop: the bits. -/
theorem part_e2 (q m f s b k0 wf ws : Int) (p : Option Addr) (len cap bw bs lo bh : Nat) (R : Nat → Rd) (w wa : World) (u7 u8 u9 u10 u11 u12 u13 u14 u15 u16 u20 u21 u22 u23 u24 u26 u30 u31 u32 u33 u34 u35 u36 u37 u38 u39 u40 u41 u42 u43 u44 u45 u46 u47 u48 u49 u50 u51 u52 u53 u54 u55 u56 u57 u58 u59 u60 u61 u62 u63 u64 u65 u66 u67 u68 u69 u70 u71 u72 u73 u74 u75 u76 u77 u78 u79 u80 u81 u82 u83 u84 u85 u86 u87 u88 u89 u90 u91 u92 u93 u94 u95 u96 u97 u98 u99 u100 u101 u102 u103 u104 u105 u106 u107 u108 u109 u110 u111 u112 u113 u114 u115 u116 u117 u118 u119 u120 u121 u122 u123 u124 u125 u126 u127 u128 u129 u130 u131 u132 u133 u134 u135 u136 u137 u138 u139 u140 u141 u142 u143 u144 u145 u146 u147 u148 u149 u150 u151 u152 u153 u154 u155 u156 u157 u158 u159 u160 u161 u162 u163 u164 u165 u166 u167 u168 u169 u170 u171 u172 u173 u174 u175 u176 u177 u178 u179 u180 u181 u182 u183 u184 u185 u186 u187 u188 u189 u190 u191 u192 u193 u194 u195 u196 u197 u198 u199 u200 u201 u202 u203 u204 u205 u206 u207 u208 u209 u210 u211 u212 u213 u214 u215 u216 u217 u218 u219 u220 u221 u222 u223 u224 u225 u226 u227 u228 u229 u230 u231 u232 u233 u234 u235 u236 u237 u238 u239 u240 u241 u242 u243 u244 u245 u246 u247 u248 u249 u250 u251 u252 u253 u254 u255 u256 u257 u258 u259 u260 u261 u262 u263 u264 u265 u266 u267 u268 u269 u270 u271 u272 u273 u274 u275 u276 u277 u278 u279 u280 u281 u282 u283 u284 u285 u286 u287 u288 u289 u290 u291 u292 u293 u294 u295 u296 u297 u298 u299 u300 u301 u302 u303 u304 u305 u306 u307 u308 u309 u310 u311 : Value)
    (hL : len ≤ 4096) (hbh : bh ≤ len) (hR : Lies wa p len R)
    (hbel : Below w.heap.size w wa) (hw : Am wa bw ⟨q, m, wf, ws, sumB R b lo (bh - lo)⟩) (hs : Am wa bs ⟨q, m, wf, ws, sumB R b lo (bh - lo)⟩) :
    Code.wp Trym.prog (dropS 23 (Trym.f5.body.getD .skip)) (bodyPost Trym.prog Trym.f5 (fun e w' => e = .returned (.bool true) ∧ Below w.heap.size w w')) ⟨#[.int .i64 q, .int .i64 m, .int .i64 f, .int .i64 s, .int .i64 b, .int .i64 k0, .slice p len cap, u7, u8, u9, u10, u11, u12, u13, u14, u15, u16, .int .i64 len, .pointer (some ⟨bw, 0, none⟩), .pointer (some ⟨bs, 0, none⟩), u20, u21, u22, u23, u24, .int .i64 wf, u26, .int .i64 lo, .int .i64 bh, .int .i64 ws, u30, u31, u32, u33, u34, u35, u36, u37, u38, u39, u40, u41, u42, u43, u44, u45, u46, u47, u48, u49, u50, u51, u52, u53, u54, u55, u56, u57, u58, u59, u60, u61, u62, u63, u64, u65, u66, u67, u68, u69, u70, u71, u72, u73, u74, u75, u76, u77, u78, u79, u80, u81, u82, u83, u84, u85, u86, u87, u88, u89, u90, u91, u92, u93, u94, u95, u96, u97, u98, u99, u100, u101, u102, u103, u104, u105, u106, u107, u108, u109, u110, u111, u112, u113, u114, u115, u116, u117, u118, u119, u120, u121, u122, u123, u124, u125, u126, u127, u128, u129, u130, u131, u132, u133, u134, u135, u136, u137, u138, u139, u140, u141, u142, u143, u144, u145, u146, u147, u148, u149, u150, u151, u152, u153, u154, u155, u156, u157, u158, u159, u160, u161, u162, u163, u164, u165, u166, u167, u168, u169, u170, u171, u172, u173, u174, u175, u176, u177, u178, u179, u180, u181, u182, u183, u184, u185, u186, u187, u188, u189, u190, u191, u192, u193, u194, u195, u196, u197, u198, u199, u200, u201, u202, u203, u204, u205, u206, u207, u208, u209, u210, u211, u212, u213, u214, u215, u216, u217, u218, u219, u220, u221, u222, u223, u224, u225, u226, u227, u228, u229, u230, u231, u232, u233, u234, u235, u236, u237, u238, u239, u240, u241, u242, u243, u244, u245, u246, u247, u248, u249, u250, u251, u252, u253, u254, u255, u256, u257, u258, u259, u260, u261, u262, u263, u264, u265, u266, u267, u268, u269, u270, u271, u272, u273, u274, u275, u276, u277, u278, u279, u280, u281, u282, u283, u284, u285, u286, u287, u288, u289, u290, u291, u292, u293, u294, u295, u296, u297, u298, u299, u300, u301, u302, u303, u304, u305, u306, u307, u308, u309, u310, u311], []⟩ wa := by
  conv => arg 2; whnf
  go_upto_block 8 with fail
  go_cut [31, 32] (fun a _ wx => a = .int .i64 (sumB R b lo (bh - lo)) ∧ wa = wx)
  case first =>
    clear hw hs
    go_wp2_with fail
    go_loopg [31, 32] (bh - lo) (fun g a i wx => ∃ k : Nat, g + k = bh - lo ∧ i = .int .i64 ((lo + k : Nat) : Int) ∧ a = .int .i64 (sumB R b lo k) ∧ wa = wx)
    case atStart => exact ⟨0, rfl, rfl, rfl, rfl⟩
    case round =>
      obtain ⟨k, hg, rfl, rfl, rfl⟩ := hrel
      generalize hj : lo + k = j
      have Hj : Hid (lo + k = j) := hj
      have hjl : lo + k ≤ j := by omega
      have hjl' : j ≤ lo + k := by omega
      clear hj
      by_cases hlt : j < bh
      · obtain ⟨bb, off, rfl, hbb, hcells⟩ := hR.lies (by omega)
        obtain ⟨c0, c1, c2, c3, c4⟩ := hcells j (by omega)
        clear hcells
        have HS : Hid (sumB R b lo (k + 1) = wrap64 (sumB R b lo k + (R j).bit)) := by rw [Hid, sumB, Hj.out]
        have hlen : j < len := by omega
        go_wp2
        go_roundg (gk - 1)
        case measure => omega
        case rel => exact ⟨k + 1, by omega, by go_num, by rw [HS.out], rfl⟩
      · have HK : Hid (k = bh - lo) := by show k = bh - lo; omega
        go_wp2
        go_meet
        case rel => exact ⟨by rw [← HK.out], rfl⟩
  case rest =>
  obtain ⟨rfl, rfl⟩ := hcut
  apply_assumption
  exact part_f q m f s b k0 wf ws _ p len cap bw bs w wa _ _ _ _ _ _ _ _ _ _ _ _ _ _ _ _ _ _ _ _ _ _ _ _ _ _ _ _ _ _ _ _ _ _ _ _ _ _ _ _ _ _ _ _ _ _ _ _ _ _ _ _ _ _ _ _ _ _ _ _ _ _ _ _ _ _ _ _ _ _ _ _ _ _ _ _ _ _ _ _ _ _ _ _ _ _ _ _ _ _ _ _ _ _ _ _ _ _ _ _ _ _ _ _ _ _ _ _ _ _ _ _ _ _ _ _ _ _ _ _ _ _ _ _ _ _ _ _ _ _ _ _ _ _ _ _ _ _ _ _ _ _ _ _ _ _ _ _ _ _ _ _ _ _ _ _ _ _ _ _ _ _ _ _ _ _ _ _ _ _ _ _ _ _ _ _ _ _ _ _ _ _ _ _ _ _ _ _ _ _ _ _ _ _ _ _ _ _ _ _ _ _ _ _ _ _ _ _ _ _ _ _ _ _ _ _ _ _ _ _ _ _ _ _ _ _ _ _ _ _ _ _ _ _ _ _ _ _ _ _ _ _ _ _ _ _ _ _ _ _ _ _ _ _ _ _ _ _ _ _ _ _ _ _ _ _ _ _ _ _ _ _ _ _ _ _ _ _ _ _ _ _ _ _ _ _ _ _ _ _ _ _ _ _ _ _ _ _ _ hbel hw hs

set_option maxRecDepth 100000 in
set_option maxHeartbeats 4000000 in
/-- The fourth loop: the signals. -/
theorem part_e1 (q m f s b k0 wf : Int) (p : Option Addr) (len cap bw bs hi lo bh : Nat) (R : Nat → Rd) (w wa : World) (u7 u8 u9 u10 u11 u12 u13 u14 u15 u16 u20 u21 u22 u23 u24 u29 u30 u31 u32 u33 u34 u35 u36 u37 u38 u39 u40 u41 u42 u43 u44 u45 u46 u47 u48 u49 u50 u51 u52 u53 u54 u55 u56 u57 u58 u59 u60 u61 u62 u63 u64 u65 u66 u67 u68 u69 u70 u71 u72 u73 u74 u75 u76 u77 u78 u79 u80 u81 u82 u83 u84 u85 u86 u87 u88 u89 u90 u91 u92 u93 u94 u95 u96 u97 u98 u99 u100 u101 u102 u103 u104 u105 u106 u107 u108 u109 u110 u111 u112 u113 u114 u115 u116 u117 u118 u119 u120 u121 u122 u123 u124 u125 u126 u127 u128 u129 u130 u131 u132 u133 u134 u135 u136 u137 u138 u139 u140 u141 u142 u143 u144 u145 u146 u147 u148 u149 u150 u151 u152 u153 u154 u155 u156 u157 u158 u159 u160 u161 u162 u163 u164 u165 u166 u167 u168 u169 u170 u171 u172 u173 u174 u175 u176 u177 u178 u179 u180 u181 u182 u183 u184 u185 u186 u187 u188 u189 u190 u191 u192 u193 u194 u195 u196 u197 u198 u199 u200 u201 u202 u203 u204 u205 u206 u207 u208 u209 u210 u211 u212 u213 u214 u215 u216 u217 u218 u219 u220 u221 u222 u223 u224 u225 u226 u227 u228 u229 u230 u231 u232 u233 u234 u235 u236 u237 u238 u239 u240 u241 u242 u243 u244 u245 u246 u247 u248 u249 u250 u251 u252 u253 u254 u255 u256 u257 u258 u259 u260 u261 u262 u263 u264 u265 u266 u267 u268 u269 u270 u271 u272 u273 u274 u275 u276 u277 u278 u279 u280 u281 u282 u283 u284 u285 u286 u287 u288 u289 u290 u291 u292 u293 u294 u295 u296 u297 u298 u299 u300 u301 u302 u303 u304 u305 u306 u307 u308 u309 u310 u311 : Value)
    (hL : len ≤ 4096) (hhi : hi ≤ len) (hbh : bh ≤ len) (hR : Lies wa p len R)
    (hbel : Below w.heap.size w wa) (hw : Am wa bw ⟨q, m, wf, sumS R s hi, sumB R b lo (bh - lo)⟩) (hs : Am wa bs ⟨q, m, wf, sumS R s hi, sumB R b lo (bh - lo)⟩) :
    Code.wp Trym.prog (dropS 21 (Trym.f5.body.getD .skip)) (bodyPost Trym.prog Trym.f5 (fun e w' => e = .returned (.bool true) ∧ Below w.heap.size w w')) ⟨#[.int .i64 q, .int .i64 m, .int .i64 f, .int .i64 s, .int .i64 b, .int .i64 k0, .slice p len cap, u7, u8, u9, u10, u11, u12, u13, u14, u15, u16, .int .i64 len, .pointer (some ⟨bw, 0, none⟩), .pointer (some ⟨bs, 0, none⟩), u20, u21, u22, u23, u24, .int .i64 wf, .int .i64 hi, .int .i64 lo, .int .i64 bh, u29, u30, u31, u32, u33, u34, u35, u36, u37, u38, u39, u40, u41, u42, u43, u44, u45, u46, u47, u48, u49, u50, u51, u52, u53, u54, u55, u56, u57, u58, u59, u60, u61, u62, u63, u64, u65, u66, u67, u68, u69, u70, u71, u72, u73, u74, u75, u76, u77, u78, u79, u80, u81, u82, u83, u84, u85, u86, u87, u88, u89, u90, u91, u92, u93, u94, u95, u96, u97, u98, u99, u100, u101, u102, u103, u104, u105, u106, u107, u108, u109, u110, u111, u112, u113, u114, u115, u116, u117, u118, u119, u120, u121, u122, u123, u124, u125, u126, u127, u128, u129, u130, u131, u132, u133, u134, u135, u136, u137, u138, u139, u140, u141, u142, u143, u144, u145, u146, u147, u148, u149, u150, u151, u152, u153, u154, u155, u156, u157, u158, u159, u160, u161, u162, u163, u164, u165, u166, u167, u168, u169, u170, u171, u172, u173, u174, u175, u176, u177, u178, u179, u180, u181, u182, u183, u184, u185, u186, u187, u188, u189, u190, u191, u192, u193, u194, u195, u196, u197, u198, u199, u200, u201, u202, u203, u204, u205, u206, u207, u208, u209, u210, u211, u212, u213, u214, u215, u216, u217, u218, u219, u220, u221, u222, u223, u224, u225, u226, u227, u228, u229, u230, u231, u232, u233, u234, u235, u236, u237, u238, u239, u240, u241, u242, u243, u244, u245, u246, u247, u248, u249, u250, u251, u252, u253, u254, u255, u256, u257, u258, u259, u260, u261, u262, u263, u264, u265, u266, u267, u268, u269, u270, u271, u272, u273, u274, u275, u276, u277, u278, u279, u280, u281, u282, u283, u284, u285, u286, u287, u288, u289, u290, u291, u292, u293, u294, u295, u296, u297, u298, u299, u300, u301, u302, u303, u304, u305, u306, u307, u308, u309, u310, u311], []⟩ wa := by
  conv => arg 2; whnf
  go_upto_block 6 with fail
  go_cut [29, 30] (fun a _ wx => a = .int .i64 (sumS R s hi) ∧ wa = wx)
  case first =>
    clear hw hs
    go_wp2_with fail
    go_loopg [29, 30] hi (fun g a i wx => ∃ j : Nat, g + j = hi ∧ i = .int .i64 (j : Int) ∧ a = .int .i64 (sumS R s j) ∧ wa = wx)
    case atStart => exact ⟨0, rfl, rfl, rfl, rfl⟩
    case round =>
      obtain ⟨j, hg, rfl, rfl, rfl⟩ := hrel
      by_cases hlt : j < hi
      · obtain ⟨bb, off, rfl, hbb, hcells⟩ := hR.lies (by omega)
        obtain ⟨c0, c1, c2, c3, c4⟩ := hcells j (by omega)
        clear hcells
        have HS : Hid (sumS R s (j + 1) = wrap64 (sumS R s j + (R j).msg)) := by rw [Hid, sumS]
        have hlen : j < len := by omega
        go_wp2
        go_roundg (gk - 1)
        case measure => omega
        case rel => exact ⟨j + 1, by omega, by go_num, by rw [HS.out], rfl⟩
      · have HK : Hid (j = hi) := by show j = hi; omega
        go_wp2
        go_meet
        case rel => exact ⟨by rw [← HK.out], rfl⟩
  case rest =>
  obtain ⟨rfl, rfl⟩ := hcut
  apply_assumption
  exact part_e2 q m f s b k0 wf _ p len cap bw bs lo bh R w wa _ _ _ _ _ _ _ _ _ _ _ _ _ _ _ _ _ _ _ _ _ _ _ _ _ _ _ _ _ _ _ _ _ _ _ _ _ _ _ _ _ _ _ _ _ _ _ _ _ _ _ _ _ _ _ _ _ _ _ _ _ _ _ _ _ _ _ _ _ _ _ _ _ _ _ _ _ _ _ _ _ _ _ _ _ _ _ _ _ _ _ _ _ _ _ _ _ _ _ _ _ _ _ _ _ _ _ _ _ _ _ _ _ _ _ _ _ _ _ _ _ _ _ _ _ _ _ _ _ _ _ _ _ _ _ _ _ _ _ _ _ _ _ _ _ _ _ _ _ _ _ _ _ _ _ _ _ _ _ _ _ _ _ _ _ _ _ _ _ _ _ _ _ _ _ _ _ _ _ _ _ _ _ _ _ _ _ _ _ _ _ _ _ _ _ _ _ _ _ _ _ _ _ _ _ _ _ _ _ _ _ _ _ _ _ _ _ _ _ _ _ _ _ _ _ _ _ _ _ _ _ _ _ _ _ _ _ _ _ _ _ _ _ _ _ _ _ _ _ _ _ _ _ _ _ _ _ _ _ _ _ _ _ _ _ _ _ _ _ _ _ _ _ _ _ _ _ _ _ _ _ _ _ _ _ _ _ _ _ _ _ _ _ _ _ _ _ _ hL hbh hR hbel hw hs
end Go.Proofs.Qxb6617332aMods
