import Derived.Test.YbulkaobwFmtLawB
namespace Go.Proofs.YbulkaobwFmt
open Go.RowKit
set_option linter.unusedVariables false
set_option linter.unusedSimpArgs false

set_option maxHeartbeats 2000000 in
set_option maxRecDepth 100000 in
theorem partA (a0 a1 a2 a5 : Option Addr) (l0 l1 l2 l5 c0 c1 c2 c5 : Nat) (Z0 Z1 Z2 Z5 : Nat → Int) (tg pr : Int) (w : World)
    (r0 : RowK .i64 w a0 l0 Z0) (r1 : RowK .i64 w a1 l1 Z1) (r2 : RowK .u8 w a2 l2 Z2) (r5 : RowK .u8 w a5 l5 Z5) (z2 : ∀ i, i < l2 → 0 ≤ Z2 i ∧ Z2 i ≤ 255) (z5 : ∀ i, i < l5 → 0 ≤ Z5 i ∧ Z5 i ≤ 255)
    (h0 : l0 ≤ 256) (h1 : l1 ≤ 256) (h2 : l2 ≤ 256) (h5 : l5 ≤ 256) (t0 : 0 ≤ tg) (t1 : tg ≤ 255) (p0 : 0 ≤ pr) (p1 : pr ≤ 255) (n : Nat) (hn0 : 0 < n) (hn1 : n ≤ 256) (u6 u7 u8 u9 u10 u11 u12 u14 u15 u16 u17 u18 u19 u20 u21 u22 u23 u24 u25 u26 u27 u28 u29 u30 u31 u32 u33 u34 u35 u36 u37 u38 u39 u40 u41 u42 u43 u44 u45 u46 u47 u48 u49 u50 u51 u52 u53 u54 u55 u56 u57 u58 u59 u60 u61 u62 u63 u64 u65 u66 u67 u68 u69 u70 u71 u72 u73 u74 u75 u76 u77 u78 u79 u80 u81 u82 u83 u84 u85 u86 u87 u88 u89 u90 u91 u92 u93 u94 u95 u96 u97 u98 u99 u100 u101 u102 u103 u104 u105 u106 u107 u108 u109 u110 u111 u112 u113 u114 u115 u116 u117 u118 u119 u120 u121 u122 u123 u124 u125 u126 u127 u128 u129 u130 u131 u132 u133 u134 u135 u136 u137 u138 u139 u140 u141 u142 u143 u144 u145 u146 u147 u148 u149 u150 u151 u152 u153 u154 u155 u156 u157 u158 u159 u160 u161 u162 u163 u164 u165 u166 u167 u168 u169 u170 u171 u172 u173 u174 u175 u176 u177 u178 u179 u180 u181 u182 u183 u184 u185 u186 u187 u188 u189 u190 u191 u192 u193 u194 u195 u196 u197 u198 u199 u200 u201 u202 u203 u204 u205 u206 u207 u208 u209 u210 u211 u212 u213 u214 u215 u216 u217 u218 u219 u220 u221 u222 u223 u224 u225 u226 u227 u228 u229 u230 u231 u232 u233 u234 u235 u236 u237 u238 u239 u240 u241 u242 u243 u244 u245 u246 u247 u248 u249 u250 u251 u252 u253 u254 u255 u256 u257 u258 u259 u260 u261 u262 u263 u264 u265 u266 u267 u268 u269 u270 u271 u272 u273 u274 u275 u276 u277 u278 u279 u280 u281 u282 u283 u284 u285 u286 u287 u288 u289 u290 u291 u292 u293 u294 u295 u296 u297 u298 u299 u300 u301 u302 u303 u304 u305 u306 u307 u308 u309 u310 u311 u312 u313 u314 u315 u316 u317 u318 u319 u320 u321 u322 : Value) :
    Code.wp Ybaf.prog (tl (tl (tl (tl (Option.getD Ybaf.f4.body Code.skip))))) (bodyPost Ybaf.prog Ybaf.f4 fun e w' => e = .returned (.bool true) ∧ Below w.heap.size w w') { tmps := #[.slice a0 l0 c0, .slice a1 l1 c1, .slice a2 l2 c2, .int .u8 tg, .int .u8 pr, .slice a5 l5 c5, u6, u7, u8, u9, u10, u11, u12, .int .i64 (n : Int), u14, u15, u16, u17, u18, u19, u20, u21, u22, u23, u24, u25, u26, u27, u28, u29, u30, u31, u32, u33, u34, u35, u36, u37, u38, u39, u40, u41, u42, u43, u44, u45, u46, u47, u48, u49, u50, u51, u52, u53, u54, u55, u56, u57, u58, u59, u60, u61, u62, u63, u64, u65, u66, u67, u68, u69, u70, u71, u72, u73, u74, u75, u76, u77, u78, u79, u80, u81, u82, u83, u84, u85, u86, u87, u88, u89, u90, u91, u92, u93, u94, u95, u96, u97, u98, u99, u100, u101, u102, u103, u104, u105, u106, u107, u108, u109, u110, u111, u112, u113, u114, u115, u116, u117, u118, u119, u120, u121, u122, u123, u124, u125, u126, u127, u128, u129, u130, u131, u132, u133, u134, u135, u136, u137, u138, u139, u140, u141, u142, u143, u144, u145, u146, u147, u148, u149, u150, u151, u152, u153, u154, u155, u156, u157, u158, u159, u160, u161, u162, u163, u164, u165, u166, u167, u168, u169, u170, u171, u172, u173, u174, u175, u176, u177, u178, u179, u180, u181, u182, u183, u184, u185, u186, u187, u188, u189, u190, u191, u192, u193, u194, u195, u196, u197, u198, u199, u200, u201, u202, u203, u204, u205, u206, u207, u208, u209, u210, u211, u212, u213, u214, u215, u216, u217, u218, u219, u220, u221, u222, u223, u224, u225, u226, u227, u228, u229, u230, u231, u232, u233, u234, u235, u236, u237, u238, u239, u240, u241, u242, u243, u244, u245, u246, u247, u248, u249, u250, u251, u252, u253, u254, u255, u256, u257, u258, u259, u260, u261, u262, u263, u264, u265, u266, u267, u268, u269, u270, u271, u272, u273, u274, u275, u276, u277, u278, u279, u280, u281, u282, u283, u284, u285, u286, u287, u288, u289, u290, u291, u292, u293, u294, u295, u296, u297, u298, u299, u300, u301, u302, u303, u304, u305, u306, u307, u308, u309, u310, u311, u312, u313, u314, u315, u316, u317, u318, u319, u320, u321, u322], defers := [] } w := by
  have hn1' : (n : Int) ≤ 256 := by omega
  have hmk := run_make_row' (P := Ybaf.prog) 57 59 (.pointer none) 8 Ybaf.underlying57 Ybaf.info59 rfl .i64 .i64 n (by omega) (by omega)
  have hmk2 := make58 n hn1
  -- 4
  show Code.wp Ybaf.prog (Code.seq _ _) _ _ _
  apply wp_seq_k
  intro K4 h4
  have HK : Hid (∀ a w, _ → _) := h4
  clear h4
  go_wp2_with fail
  refine HK.out _ _ ?_
  clear HK
  -- 5
  apply wp_seq_k
  intro K5 h5
  have HK : Hid (∀ a w, _ → _) := h5
  clear h5
  go_wp2_with fail
  refine HK.out _ _ ?_
  clear HK
  -- 6
  apply wp_seq_k
  intro K6 h6
  have HK : Hid (∀ a w, _ → _) := h6
  clear h6
  go_upto_region 9 with fail
  have hst := Built.made w n (lineOf l0 Z0) (colOf l1 Z1) #[] (madeCells #[.int .i64 0, .int .i64 0] (n * 2)) (size_madeCells _ _)
  clear hmk hmk2
  go_loopg [16, 17, 18] n (fun q s16 s17 s18 wx => ∃ i : Nat, i + q = n ∧ s16 = .int .i64 (i : Int) ∧ Built w wx n i (lineOf l0 Z0) (colOf l1 Z1))
  case atStart => exact ⟨0, by omega, rfl, hst⟩
  case round =>
    clear hst
    obtain ⟨i, hi, rfl, hst⟩ := hrel
    by_cases hlt : i < n
    · have hi0' : (0 : Int) ≤ (i : Int) := by omega
      have hi1 : (i : Int) < (n : Int) := by omega
      go_upto_if 75 with fail
      go_cut [17] from 65 to 108 (fun s17 wx => s17 = .int .i64 (lineOf l0 Z0 i) ∧ wx = wr)
      case first =>
        by_cases hl : i < l0
        · obtain ⟨b, off, rfl, hc⟩ := r0.at hst.bel hl
          have e : lineOf l0 Z0 i = Z0 i := if_pos hl
          have hl1 : (i : Int) < (l0 : Int) := by omega
          go_wp2_with fail
          go_meet
          case rel => exact ⟨by rw [e], rfl⟩
        · have e : lineOf l0 Z0 i = (i : Int) + 1 := if_neg hl
          have hl1 : ¬ (i : Int) < (l0 : Int) := by omega
          go_wp2_with fail
          go_meet
          case rel => exact ⟨by rw [e], rfl⟩
      case rest =>
      obtain ⟨rfl, rfl⟩ := hcut
      go_upto_if 84 with fail
      go_cut [18] from 65 to 108 (fun s18 wx => s18 = .int .i64 (colOf l1 Z1 i) ∧ wx = wc)
      case first =>
        by_cases hl : i < l1
        · obtain ⟨b, off, rfl, hc⟩ := r1.at hst.bel hl
          have e : colOf l1 Z1 i = Z1 i := if_pos hl
          have hl1 : (i : Int) < (l1 : Int) := by omega
          go_wp2_with fail
          go_meet
          case rel => exact ⟨by rw [e], rfl⟩
        · have e : colOf l1 Z1 i = (i : Int) := if_neg hl
          have hl1 : ¬ (i : Int) < (l1 : Int) := by omega
          go_wp2_with fail
          go_meet
          case rel => exact ⟨by rw [e], rfl⟩
      case rest =>
      obtain ⟨rfl, rfl⟩ := hcut
      obtain ⟨F1, hrd, hF1⟩ := hst.rd
      obtain ⟨F2, hrq, hF2⟩ := hst.rq
      have x0 := hrq.cell (i := i * 2) (by omega)
      have x1 := hrq.cell (i := i * 2 + 1) (by omega)
      have y0 := hrq.frozen (i * 2)
      have y1 := hrq.frozen (i * 2 + 1)
      go_upto_region 18 with fail
      have hp := hst.pos
      clear x0 x1 y0 y1 hrq hrd hF1 hF2 hst
      generalize ((wc.setCell ⟨w.heap.size + 1, i * 2, none⟩ (.int .i64 (lineOf l0 Z0 i))).setCell ⟨w.heap.size + 1, i * 2 + 1, none⟩ (.int .i64 (colOf l1 Z1 i))) = W1 at hp ⊢
      obtain ⟨F1, hrd, hF1⟩ := hp.b.rd
      obtain ⟨F2, hrq, hF2⟩ := hp.rq
      have x0 := hrq.cell (i := i * 2) (by omega)
      have x1 := hrq.cell (i := i * 2 + 1) (by omega)
      rw [(hF2 i (by omega)).1] at x0
      rw [(hF2 i (by omega)).2] at x1
      have hr3 := ((hrd.alloc (.cells #[.int .i64 (lineOf l0 Z0 i), .int .i64 (colOf l1 Z1 i), .string ⟨#[]⟩] 51)).alloc (.cells #[.pointer (some ⟨w.heap.size + 2 + 3 * i, 0, none⟩), .slice none 0 0, .nilIface] 65)).alloc (.cells #[.string ⟨#[84]⟩, .pointer (some ⟨w.heap.size + 2 + 3 * i + 1, 0, none⟩), .slice none 0 0, .slice none 0 0, .map none] 71)
      have y0 := hr3.cell hlt
      have y1 := hr3.frozen i
      have hsz := hp.b.size
      have hnx := hp.next #[] [.slice none 0 0, .nilIface] [.slice none 0 0, .slice none 0 0, .map none] (w.heap.size + 2 + 3 * i) (w.heap.size + 2 + 3 * i + 1) (w.heap.size + 2 + 3 * i + 1 + 1) rfl rfl rfl
      clear hr3 hrd hrq hF1 hF2 hp
      go_upto_region 10 with fail
      clear y0 y1 x0 x1 hsz
      go_wp2_with fail
      go_roundg (gk - 1)
      case measure => omega
      case rel => exact ⟨i + 1, by omega, by go_num, hnx⟩
    · have hin : n = i := by omega
      subst hin
      have hE := hst.env
      clear hst hi hlt
      go_wp2_with fail
      exact HK.out _ _ (partB tg pr a2 a5 l2 c2 l5 c5 Z2 Z5 r2 r5 z2 z5 h5 h2 t0 t1 p0 p1 hE hn0 hn1 _ _ _ _ _ _ _ _ _ _ _ _ _ _ _ _ _ _ _ _ _ _ _ _ _ _ _ _ _ _ _ _ _ _ _ _ _ _ _ _ _ _ _ _ _ _ _ _ _ _ _ _ _ _ _ _ _ _ _ _ _ _ _ _ _ _ _ _ _ _ _ _ _ _ _ _ _ _ _ _ _ _ _ _ _ _ _ _ _ _ _ _ _ _ _ _ _ _ _ _ _ _ _ _ _ _ _ _ _ _ _ _ _ _ _ _ _ _ _ _ _ _ _ _ _ _ _ _ _ _ _ _ _ _ _ _ _ _ _ _ _ _ _ _ _ _ _ _ _ _ _ _ _ _ _ _ _ _ _ _ _ _ _ _ _ _ _ _ _ _ _ _ _ _ _ _ _ _ _ _ _ _ _ _ _ _ _ _ _ _ _ _ _ _ _ _ _ _ _ _ _ _ _ _ _ _ _ _ _ _ _ _ _ _ _ _ _ _ _ _ _ _ _ _ _ _ _ _ _ _ _ _ _ _ _ _ _ _ _ _ _ _ _ _ _ _ _ _ _ _ _ _ _ _ _ _ _ _ _ _ _ _ _ _ _ _ _ _ _ _ _ _ _ _ _ _ _ _ _ _ _ _ _ _ _ _ _ _ _ _ _ _ _ _ _ _ _ _ _ _ _ _ _ _ _ _ _ _ _ _ _ _ _ _ _ _)

set_option maxHeartbeats 2000000 in
set_option maxRecDepth 100000 in
theorem law_walk (a0 a1 a2 a5 : Option Addr) (l0 l1 l2 l5 c0 c1 c2 c5 : Nat) (Z0 Z1 Z2 Z5 : Nat → Int) (tg pr : Int) (w : World)
    (r0 : RowK .i64 w a0 l0 Z0) (r1 : RowK .i64 w a1 l1 Z1) (r2 : RowK .u8 w a2 l2 Z2) (r5 : RowK .u8 w a5 l5 Z5) (z2 : ∀ i, i < l2 → 0 ≤ Z2 i ∧ Z2 i ≤ 255) (z5 : ∀ i, i < l5 → 0 ≤ Z5 i ∧ Z5 i ≤ 255)
    (h0 : l0 ≤ 256) (h1 : l1 ≤ 256) (h2 : l2 ≤ 256) (h5 : l5 ≤ 256) (t0 : 0 ≤ tg) (t1 : tg ≤ 255) (p0 : 0 ≤ pr) (p1 : pr ≤ 255) :
    Calls Ybaf.prog 4 #[.slice a0 l0 c0, .slice a1 l1 c1, .slice a2 l2 c2, .int .u8 tg, .int .u8 pr, .slice a5 l5 c5] w fun e w' => e = .returned (.bool true) ∧ Below w.heap.size w w' := by
  go_enter Ybaf.func4, Ybaf.ntmps4
  -- 0
  apply wp_seq_k
  intro K0 h0
  have HK : Hid (∀ a w, _ → _) := h0
  clear h0
  go_wp2_with fail
  refine HK.out _ _ ?_
  clear HK
  -- 1
  apply wp_seq_k
  intro K1 h1
  have HK : Hid (∀ a w, _ → _) := h1
  clear h1
  go_wp2_with fail
  refine HK.out _ _ ?_
  clear HK
  -- 2
  apply wp_seq_k
  intro K2 h2
  have HK : Hid (∀ a w, _ → _) := h2
  clear h2
  go_wp2_with fail
  refine HK.out _ _ ?_
  clear HK
  -- 3
  apply wp_seq_k
  intro K3 h3
  have HK : Hid (∀ a w, _ → _) := h3
  clear h3
  by_cases e0 : l0 = 0
  · subst e0
    go_wp2_with fail
    exact HK.out _ _ (partA a0 a1 a2 a5 0 l1 l2 l5 c0 c1 c2 c5 Z0 Z1 Z2 Z5 tg pr w r0 r1 r2 r5 z2 z5 h0 h1 h2 h5 t0 t1 p0 p1 1 (by omega) (by omega) _ _ _ _ _ _ _ _ _ _ _ _ _ _ _ _ _ _ _ _ _ _ _ _ _ _ _ _ _ _ _ _ _ _ _ _ _ _ _ _ _ _ _ _ _ _ _ _ _ _ _ _ _ _ _ _ _ _ _ _ _ _ _ _ _ _ _ _ _ _ _ _ _ _ _ _ _ _ _ _ _ _ _ _ _ _ _ _ _ _ _ _ _ _ _ _ _ _ _ _ _ _ _ _ _ _ _ _ _ _ _ _ _ _ _ _ _ _ _ _ _ _ _ _ _ _ _ _ _ _ _ _ _ _ _ _ _ _ _ _ _ _ _ _ _ _ _ _ _ _ _ _ _ _ _ _ _ _ _ _ _ _ _ _ _ _ _ _ _ _ _ _ _ _ _ _ _ _ _ _ _ _ _ _ _ _ _ _ _ _ _ _ _ _ _ _ _ _ _ _ _ _ _ _ _ _ _ _ _ _ _ _ _ _ _ _ _ _ _ _ _ _ _ _ _ _ _ _ _ _ _ _ _ _ _ _ _ _ _ _ _ _ _ _ _ _ _ _ _ _ _ _ _ _ _ _ _ _ _ _ _ _ _ _ _ _ _ _ _ _ _ _ _ _ _ _ _ _ _ _ _ _ _ _ _ _ _ _ _ _ _ _ _ _ _ _ _ _ _ _ _ _ _ _ _ _ _ _ _ _ _ _ _ _ _ _)
  · go_wp2_with fail
    exact HK.out _ _ (partA a0 a1 a2 a5 l0 l1 l2 l5 c0 c1 c2 c5 Z0 Z1 Z2 Z5 tg pr w r0 r1 r2 r5 z2 z5 h0 h1 h2 h5 t0 t1 p0 p1 l0 (by omega) (by omega) _ _ _ _ _ _ _ _ _ _ _ _ _ _ _ _ _ _ _ _ _ _ _ _ _ _ _ _ _ _ _ _ _ _ _ _ _ _ _ _ _ _ _ _ _ _ _ _ _ _ _ _ _ _ _ _ _ _ _ _ _ _ _ _ _ _ _ _ _ _ _ _ _ _ _ _ _ _ _ _ _ _ _ _ _ _ _ _ _ _ _ _ _ _ _ _ _ _ _ _ _ _ _ _ _ _ _ _ _ _ _ _ _ _ _ _ _ _ _ _ _ _ _ _ _ _ _ _ _ _ _ _ _ _ _ _ _ _ _ _ _ _ _ _ _ _ _ _ _ _ _ _ _ _ _ _ _ _ _ _ _ _ _ _ _ _ _ _ _ _ _ _ _ _ _ _ _ _ _ _ _ _ _ _ _ _ _ _ _ _ _ _ _ _ _ _ _ _ _ _ _ _ _ _ _ _ _ _ _ _ _ _ _ _ _ _ _ _ _ _ _ _ _ _ _ _ _ _ _ _ _ _ _ _ _ _ _ _ _ _ _ _ _ _ _ _ _ _ _ _ _ _ _ _ _ _ _ _ _ _ _ _ _ _ _ _ _ _ _ _ _ _ _ _ _ _ _ _ _ _ _ _ _ _ _ _ _ _ _ _ _ _ _ _ _ _ _ _ _ _ _ _ _ _ _ _ _ _ _ _ _ _ _ _ _ _)
end Go.Proofs.YbulkaobwFmt
