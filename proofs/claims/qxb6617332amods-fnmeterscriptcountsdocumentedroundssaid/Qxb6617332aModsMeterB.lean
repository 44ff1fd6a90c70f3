import Derived.Test.Qxb6617332aModsMeterC
namespace Go.Proofs.Qxb6617332aMods
open Go.RowKit

/-- A copy of a round, in a block of its own. -/
structure Xr (w : World) (b : Nat) (r : Rd) : Prop where
  c0 : w.cell? ⟨b, 0, none⟩ = some (.int .i64 r.msg)
  c1 : w.cell? ⟨b, 1, none⟩ = some (.int .i64 r.bit)
  c2 : w.cell? ⟨b, 2, none⟩ = some (.int .i64 r.smsg)
  c3 : w.cell? ⟨b, 3, none⟩ = some (.int .i64 r.sbit)
  c4 : w.cell? ⟨b, 4, none⟩ = some (.bool r.fired)
theorem Xr.of_block {w w' : World} {b : Nat} {x : Rd} (h : Xr w b x) (e : w'.heap[b]? = w.heap[b]?) : Xr w' b x := by
  have hc : ∀ i, w'.cell? ⟨b, i, none⟩ = w.cell? ⟨b, i, none⟩ := fun i => World.cell?_of_block (w := w) (a := ⟨b, i, none⟩) e
  exact ⟨(hc 0).trans h.c0, (hc 1).trans h.c1, (hc 2).trans h.c2, (hc 3).trans h.c3, (hc 4).trans h.c4⟩
theorem Xr.lt {w : World} {b : Nat} {x : Rd} (h : Xr w b x) : b < w.heap.size := by
  rcases Nat.lt_or_ge b w.heap.size with h' | h'
  · exact h'
  · have := h.c0
    simp [World.cell?, Array.getElem?_eq_none h'] at this
theorem Xr.turn {w w' : World} {b c : Nat} {x : Rd} (h : Xr w b x) (t : Turn c w w') (hn : b ≠ c) : Xr w' b x := h.of_block (t.block b h.lt hn)
theorem xr_alloc (w : World) (r : Rd) : Xr (w.alloc (.cells #[.int .i64 r.msg, .int .i64 r.bit, .int .i64 r.smsg, .int .i64 r.sbit, .bool r.fired] 39)) w.heap.size r := by
  refine ⟨?_, ?_, ?_, ?_, ?_⟩ <;> go_simp
theorem am_alloc (w : World) (q m f s b : Int) : Am (w.alloc (.cells #[.int .i64 q, .int .i64 m, .int .i64 f, .int .i64 s, .int .i64 b] 50)) w.heap.size ⟨q, m, f, s, b⟩ := by
  refine ⟨?_, ?_, ?_, ?_, ?_, ?_⟩ <;> (try intro i) <;> go_simp

/-- Inside the second loop: both meters after n rounds. -/
structure Two (w : World) (bw bs : Nat) (x : Mt) (wx : World) : Prop where
  whole : Am wx bw x
  split : Am wx bs x
  below : Below w.heap.size w wx
  ow : w.heap.size ≤ bw
  os : w.heap.size ≤ bs
  apart : bw ≠ bs
theorem two_start (w wa : World) (h : Below w.heap.size w wa) (q m f s b : Int) :
    Two w wa.heap.size (wa.heap.size + 1) ⟨q, m, f, s, b⟩ ((wa.alloc (.cells #[.int .i64 q, .int .i64 m, .int .i64 f, .int .i64 s, .int .i64 b] 50)).alloc (.cells #[.int .i64 q, .int .i64 m, .int .i64 f, .int .i64 s, .int .i64 b] 50)) := by
  have h1 := am_alloc wa q m f s b
  have h2 := am_alloc (wa.alloc (.cells #[.int .i64 q, .int .i64 m, .int .i64 f, .int .i64 s, .int .i64 b] 50)) q m f s b
  have hz := h.size
  refine ⟨h1.of_block (Below.heap_alloc _ _ _ (by simp)), by simpa using h2, (h.alloc h.size _).alloc (by simp; omega) _, h.size, by omega, by omega⟩
theorem round_below {w wr w1 w2 w3 w4 : World} {bw bs : Nat} {x : Mt} {o : Obj} (h : Two w bw bs x wr) (e1 : w1 = wr.alloc o) (t2 : Turn bw w1 w2) (t3 : Turn bs w2 w3) (t4 : Turn bs w3 w4) : Below w.heap.size w w4 := by
  subst e1
  have hz := h.below.size
  have z1 := t2.size
  have z2 := t3.size
  simp at z1
  exact (((h.below.alloc h.below.size o).trans (t2.below h.ow (by simp; omega))).trans (t3.below h.os (by omega))).trans (t4.below h.os (by omega))

set_option maxRecDepth 100000 in
set_option maxHeartbeats 4000000 in
/-- The second loop: the script counted twice. -/
theorem part_b (q m f s b k0 : Int) (p : Option Addr) (len cap : Nat) (R : Nat → Rd) (w wa : World) (u7 u8 u9 u10 u11 u12 u13 u14 u15 u16 u17 u18 u19 u20 u21 u22 u23 u24 u25 u26 u27 u28 u29 u30 u31 u32 u33 u34 u35 u36 u37 u38 u39 u40 u41 u42 u43 u44 u45 u46 u47 u48 u49 u50 u51 u52 u53 u54 u55 u56 u57 u58 u59 u60 u61 u62 u63 u64 u65 u66 u67 u68 u69 u70 u71 u72 u73 u74 u75 u76 u77 u78 u79 u80 u81 u82 u83 u84 u85 u86 u87 u88 u89 u90 u91 u92 u93 u94 u95 u96 u97 u98 u99 u100 u101 u102 u103 u104 u105 u106 u107 u108 u109 u110 u111 u112 u113 u114 u115 u116 u117 u118 u119 u120 u121 u122 u123 u124 u125 u126 u127 u128 u129 u130 u131 u132 u133 u134 u135 u136 u137 u138 u139 u140 u141 u142 u143 u144 u145 u146 u147 u148 u149 u150 u151 u152 u153 u154 u155 u156 u157 u158 u159 u160 u161 u162 u163 u164 u165 u166 u167 u168 u169 u170 u171 u172 u173 u174 u175 u176 u177 u178 u179 u180 u181 u182 u183 u184 u185 u186 u187 u188 u189 u190 u191 u192 u193 u194 u195 u196 u197 u198 u199 u200 u201 u202 u203 u204 u205 u206 u207 u208 u209 u210 u211 u212 u213 u214 u215 u216 u217 u218 u219 u220 u221 u222 u223 u224 u225 u226 u227 u228 u229 u230 u231 u232 u233 u234 u235 u236 u237 u238 u239 u240 u241 u242 u243 u244 u245 u246 u247 u248 u249 u250 u251 u252 u253 u254 u255 u256 u257 u258 u259 u260 u261 u262 u263 u264 u265 u266 u267 u268 u269 u270 u271 u272 u273 u274 u275 u276 u277 u278 u279 u280 u281 u282 u283 u284 u285 u286 u287 u288 u289 u290 u291 u292 u293 u294 u295 u296 u297 u298 u299 u300 u301 u302 u303 u304 u305 u306 u307 u308 u309 u310 u311 : Value)
    (hL : len ≤ 4096) (hk1 : 1 ≤ k0) (hk2 : k0 ≤ 4611686018427387904) (hq : q ≤ 9223372036854775807) (hm : m ≤ 9223372036854775807) (hR : Lies w p len R)
    (hbel : Below w.heap.size w wa) :
    Code.wp Trym.prog (dropS 7 (Trym.f5.body.getD .skip)) (bodyPost Trym.prog Trym.f5 (fun e w' => e = .returned (.bool true) ∧ Below w.heap.size w w')) ⟨#[.int .i64 q, .int .i64 m, .int .i64 f, .int .i64 s, .int .i64 b, .int .i64 k0, .slice p len cap, u7, u8, u9, u10, u11, u12, u13, u14, u15, u16, u17, u18, u19, u20, u21, u22, u23, u24, u25, u26, u27, u28, u29, u30, u31, u32, u33, u34, u35, u36, u37, u38, u39, u40, u41, u42, u43, u44, u45, u46, u47, u48, u49, u50, u51, u52, u53, u54, u55, u56, u57, u58, u59, u60, u61, u62, u63, u64, u65, u66, u67, u68, u69, u70, u71, u72, u73, u74, u75, u76, u77, u78, u79, u80, u81, u82, u83, u84, u85, u86, u87, u88, u89, u90, u91, u92, u93, u94, u95, u96, u97, u98, u99, u100, u101, u102, u103, u104, u105, u106, u107, u108, u109, u110, u111, u112, u113, u114, u115, u116, u117, u118, u119, u120, u121, u122, u123, u124, u125, u126, u127, u128, u129, u130, u131, u132, u133, u134, u135, u136, u137, u138, u139, u140, u141, u142, u143, u144, u145, u146, u147, u148, u149, u150, u151, u152, u153, u154, u155, u156, u157, u158, u159, u160, u161, u162, u163, u164, u165, u166, u167, u168, u169, u170, u171, u172, u173, u174, u175, u176, u177, u178, u179, u180, u181, u182, u183, u184, u185, u186, u187, u188, u189, u190, u191, u192, u193, u194, u195, u196, u197, u198, u199, u200, u201, u202, u203, u204, u205, u206, u207, u208, u209, u210, u211, u212, u213, u214, u215, u216, u217, u218, u219, u220, u221, u222, u223, u224, u225, u226, u227, u228, u229, u230, u231, u232, u233, u234, u235, u236, u237, u238, u239, u240, u241, u242, u243, u244, u245, u246, u247, u248, u249, u250, u251, u252, u253, u254, u255, u256, u257, u258, u259, u260, u261, u262, u263, u264, u265, u266, u267, u268, u269, u270, u271, u272, u273, u274, u275, u276, u277, u278, u279, u280, u281, u282, u283, u284, u285, u286, u287, u288, u289, u290, u291, u292, u293, u294, u295, u296, u297, u298, u299, u300, u301, u302, u303, u304, u305, u306, u307, u308, u309, u310, u311], []⟩ wa := by
  have h0 := two_start w wa hbel q m f s b
  clear hbel
  conv => arg 2; whnf
  go_wp2_with fail
  refine (zznew_any _ q m f s b).mono ?_
  rintro e w1 ⟨rfl, rfl⟩
  go_wp2_with fail
  refine (zznew_any _ q m f s b).mono ?_
  rintro e w1 ⟨rfl, rfl⟩
  go_upto_block 2 with fail
  go_cut [20, 21, 22] (fun _ _ _ wx => Two w wa.heap.size (wa.heap.size + 1) (runM R ⟨q, m, f, s, b⟩ k0 len) wx)
  case first => as_aux_lemma =>
    go_wp2_with fail
    go_loopg [20, 21, 22] len (fun g j _ _ wx => ∃ n : Nat, g + n = len ∧ j = .int .i64 (n : Int) ∧ Two w wa.heap.size (wa.heap.size + 1) (runM R ⟨q, m, f, s, b⟩ k0 n) wx)
    case atStart => exact ⟨0, rfl, rfl, h0⟩
    case round =>
      obtain ⟨n, hg, rfl, ht⟩ := hrel
      clear h0
      generalize wa.heap.size = bw at *
      generalize hbs : bw + 1 = bs at *
      clear hbs
      by_cases hlt : n < len
      · have hRr := hR.below ht.below
        obtain ⟨bb, off, rfl, hbb, hcells⟩ := hRr.lies (by omega)
        obtain ⟨c0, c1, c2, c3, c4⟩ := hcells n (by omega)
        clear hcells hR hRr
        have HN : Hid (runM R ⟨q, m, f, s, b⟩ k0 (n + 1) = roundM (runM R ⟨q, m, f, s, b⟩ k0 n) (k0 + n) (R n).msg (R n).bit (R n).fired) := rfl
        generalize runM R ⟨q, m, f, s, b⟩ k0 n = x at *
        go_upto_region 24 with fail
        obtain ⟨w1, hw1⟩ : ∃ w1, w1 = wr.alloc (.cells #[.int .i64 (R n).msg, .int .i64 (R n).bit, .int .i64 (R n).smsg, .int .i64 (R n).sbit, .bool (R n).fired] 39) := ⟨_, rfl⟩
        rw [← hw1]
        have x1 : Xr w1 wr.heap.size (R n) := by rw [hw1]; exact xr_alloc wr (R n)
        have aw1 : Am w1 bw x := by rw [hw1]; exact ht.whole.of_block (Below.heap_alloc _ _ _ ht.whole.lt)
        have as1 : Am w1 bs x := by rw [hw1]; exact ht.split.of_block (Below.heap_alloc _ _ _ ht.split.lt)
        have lw := ht.whole.lt
        have ls := ht.split.lt
        have Hw1 : Hid (w1 = wr.alloc (.cells #[.int .i64 (R n).msg, .int .i64 (R n).bit, .int .i64 (R n).smsg, .int .i64 (R n).sbit, .bool (R n).fired] 39)) := hw1
        clear hw1 c0 c1 c2 c3 c4
        obtain ⟨c0, c1, c2, c3, c4⟩ := x1
        go_wp2_with fail
        refine (zzround_any w1 bw x (k0 + n) (R n).msg (R n).bit (R n).fired aw1).mono ?_
        rintro e w2 ⟨rfl, t2, aw2⟩
        have x1 : Xr w1 wr.heap.size (R n) := ⟨c0, c1, c2, c3, c4⟩
        have x2 := x1.turn t2 (by omega)
        have as2 := as1.turn t2 (Ne.symm ht.apart)
        clear c0 c1 c2 c3 c4
        obtain ⟨c0, c1, c2, c3, c4⟩ := x2
        go_wp2_with fail
        refine (zzround_any w2 bs x (k0 + n) (R n).smsg (R n).sbit (R n).fired as2).mono ?_
        rintro e w3 ⟨rfl, t3, as3⟩
        have x2 : Xr w2 wr.heap.size (R n) := ⟨c0, c1, c2, c3, c4⟩
        have x3 := x2.turn t3 (by omega)
        have aw3 := aw2.turn t3 ht.apart
        clear c0 c1 c2 c3 c4
        obtain ⟨c0, c1, c2, c3, c4⟩ := x3
        go_wp2_with fail
        refine (zzround_any w3 bs _ (k0 + n) (wrap64 ((R n).msg - (R n).smsg)) (wrap64 ((R n).bit - (R n).sbit)) false as3).mono ?_
        rintro e w4 ⟨rfl, t4, as4⟩
        have aw4 := aw3.turn t4 ht.apart
        rw [round_split, ← HN.out] at as4
        rw [← HN.out] at aw4
        have h4 := round_below ht Hw1.out t2 t3 t4
        clear c0 c1 c2 c3 c4
        go_wp2_with fail
        go_roundg (gk - 1)
        case measure => omega
        case rel => exact ⟨n + 1, by omega, by go_num, aw4, as4, h4, ht.ow, ht.os, ht.apart⟩
      · have HK : Hid (n = len) := by show n = len; omega
        go_wp2_with fail
        go_meet
        case rel => rw [← HK.out]; exact ht
  case rest =>
  clear h0
  have ht := hcut
  clear hcut
  apply_assumption
  exact part_c q m f s b k0 p len cap _ _ R w wc _ _ _ _ _ _ _ _ _ _ _ _ _ _ _ _ _ _ _ _ _ _ _ _ _ _ _ _ _ _ _ _ _ _ _ _ _ _ _ _ _ _ _ _ _ _ _ _ _ _ _ _ _ _ _ _ _ _ _ _ _ _ _ _ _ _ _ _ _ _ _ _ _ _ _ _ _ _ _ _ _ _ _ _ _ _ _ _ _ _ _ _ _ _ _ _ _ _ _ _ _ _ _ _ _ _ _ _ _ _ _ _ _ _ _ _ _ _ _ _ _ _ _ _ _ _ _ _ _ _ _ _ _ _ _ _ _ _ _ _ _ _ _ _ _ _ _ _ _ _ _ _ _ _ _ _ _ _ _ _ _ _ _ _ _ _ _ _ _ _ _ _ _ _ _ _ _ _ _ _ _ _ _ _ _ _ _ _ _ _ _ _ _ _ _ _ _ _ _ _ _ _ _ _ _ _ _ _ _ _ _ _ _ _ _ _ _ _ _ _ _ _ _ _ _ _ _ _ _ _ _ _ _ _ _ _ _ _ _ _ _ _ _ _ _ _ _ _ _ _ _ _ _ _ _ _ _ _ _ _ _ _ _ _ _ _ _ _ _ _ _ _ _ _ _ _ _ _ _ _ _ _ _ _ _ _ _ _ _ _ _ _ _ _ _ _ _ _ _ _ _ _ hL hk1 hk2 hq hm (hR.below ht.below) ht.below ht.whole ht.split
end Go.Proofs.Qxb6617332aMods
