import Derived.Test.YbulkaobwFmtLawC
namespace Go.Proofs.YbulkaobwFmt
open Go.RowKit
set_option linter.unusedVariables false
set_option linter.unusedSimpArgs false

set_option maxHeartbeats 2000000 in
set_option maxRecDepth 100000 in
theorem partB {w w1 : World} {n : Nat} {D S N : Nat → Nat} {L C : Nat → Int} (tg pr : Int) (a2 a5 : Option Addr) (l2 c2 l5 c5 : Nat) (Z2 Z5 : Nat → Int) (r2 : RowK .u8 w a2 l2 Z2) (r5 : RowK .u8 w a5 l5 Z5) (z2 : ∀ i, i < l2 → 0 ≤ Z2 i ∧ Z2 i ≤ 255) (z5 : ∀ i, i < l5 → 0 ≤ Z5 i ∧ Z5 i ≤ 255) (h5 : l5 ≤ 256) (h2 : l2 ≤ 256) (t0 : 0 ≤ tg) (t1 : tg ≤ 255) (p0 : 0 ≤ pr) (p1 : pr ≤ 255)
    (hE : Env w w1 n w.heap.size (w.heap.size + 1) D S N L C) (hn0 : 0 < n) (hn1 : n ≤ 256) (u0 u1 u6 u7 u8 u9 u10 u11 u12 u16 u17 u18 u19 u20 u21 u22 u23 u24 u25 u26 u27 u28 u29 u30 u31 u32 u33 u34 u35 u36 u37 u38 u39 u40 u41 u42 u43 u44 u45 u46 u47 u48 u49 u50 u51 u52 u53 u54 u55 u56 u57 u58 u59 u60 u61 u62 u63 u64 u65 u66 u67 u68 u69 u70 u71 u72 u73 u74 u75 u76 u77 u78 u79 u80 u81 u82 u83 u84 u85 u86 u87 u88 u89 u90 u91 u92 u93 u94 u95 u96 u97 u98 u99 u100 u101 u102 u103 u104 u105 u106 u107 u108 u109 u110 u111 u112 u113 u114 u115 u116 u117 u118 u119 u120 u121 u122 u123 u124 u125 u126 u127 u128 u129 u130 u131 u132 u133 u134 u135 u136 u137 u138 u139 u140 u141 u142 u143 u144 u145 u146 u147 u148 u149 u150 u151 u152 u153 u154 u155 u156 u157 u158 u159 u160 u161 u162 u163 u164 u165 u166 u167 u168 u169 u170 u171 u172 u173 u174 u175 u176 u177 u178 u179 u180 u181 u182 u183 u184 u185 u186 u187 u188 u189 u190 u191 u192 u193 u194 u195 u196 u197 u198 u199 u200 u201 u202 u203 u204 u205 u206 u207 u208 u209 u210 u211 u212 u213 u214 u215 u216 u217 u218 u219 u220 u221 u222 u223 u224 u225 u226 u227 u228 u229 u230 u231 u232 u233 u234 u235 u236 u237 u238 u239 u240 u241 u242 u243 u244 u245 u246 u247 u248 u249 u250 u251 u252 u253 u254 u255 u256 u257 u258 u259 u260 u261 u262 u263 u264 u265 u266 u267 u268 u269 u270 u271 u272 u273 u274 u275 u276 u277 u278 u279 u280 u281 u282 u283 u284 u285 u286 u287 u288 u289 u290 u291 u292 u293 u294 u295 u296 u297 u298 u299 u300 u301 u302 u303 u304 u305 u306 u307 u308 u309 u310 u311 u312 u313 u314 u315 u316 u317 u318 u319 u320 u321 u322 : Value) :
    Code.wp Ybaf.prog (tl (tl (tl (tl (tl (tl (tl (Option.getD Ybaf.f4.body Code.skip)))))))) (bodyPost Ybaf.prog Ybaf.f4 fun e w' => e = .returned (.bool true) ∧ Below w.heap.size w w') { tmps := #[u0, u1, .slice a2 l2 c2, .int .u8 tg, .int .u8 pr, .slice a5 l5 c5, u6, u7, u8, u9, u10, u11, u12, .int .i64 (n : Int), .slice (some ⟨w.heap.size, 0, none⟩) n n, .slice (some ⟨w.heap.size + 1, 0, none⟩) n n, u16, u17, u18, u19, u20, u21, u22, u23, u24, u25, u26, u27, u28, u29, u30, u31, u32, u33, u34, u35, u36, u37, u38, u39, u40, u41, u42, u43, u44, u45, u46, u47, u48, u49, u50, u51, u52, u53, u54, u55, u56, u57, u58, u59, u60, u61, u62, u63, u64, u65, u66, u67, u68, u69, u70, u71, u72, u73, u74, u75, u76, u77, u78, u79, u80, u81, u82, u83, u84, u85, u86, u87, u88, u89, u90, u91, u92, u93, u94, u95, u96, u97, u98, u99, u100, u101, u102, u103, u104, u105, u106, u107, u108, u109, u110, u111, u112, u113, u114, u115, u116, u117, u118, u119, u120, u121, u122, u123, u124, u125, u126, u127, u128, u129, u130, u131, u132, u133, u134, u135, u136, u137, u138, u139, u140, u141, u142, u143, u144, u145, u146, u147, u148, u149, u150, u151, u152, u153, u154, u155, u156, u157, u158, u159, u160, u161, u162, u163, u164, u165, u166, u167, u168, u169, u170, u171, u172, u173, u174, u175, u176, u177, u178, u179, u180, u181, u182, u183, u184, u185, u186, u187, u188, u189, u190, u191, u192, u193, u194, u195, u196, u197, u198, u199, u200, u201, u202, u203, u204, u205, u206, u207, u208, u209, u210, u211, u212, u213, u214, u215, u216, u217, u218, u219, u220, u221, u222, u223, u224, u225, u226, u227, u228, u229, u230, u231, u232, u233, u234, u235, u236, u237, u238, u239, u240, u241, u242, u243, u244, u245, u246, u247, u248, u249, u250, u251, u252, u253, u254, u255, u256, u257, u258, u259, u260, u261, u262, u263, u264, u265, u266, u267, u268, u269, u270, u271, u272, u273, u274, u275, u276, u277, u278, u279, u280, u281, u282, u283, u284, u285, u286, u287, u288, u289, u290, u291, u292, u293, u294, u295, u296, u297, u298, u299, u300, u301, u302, u303, u304, u305, u306, u307, u308, u309, u310, u311, u312, u313, u314, u315, u316, u317, u318, u319, u320, u321, u322], defers := [] } w1 := by
  have hn1' : (n : Int) ≤ 256 := by omega
  have hl2' : (l2 : Int) ≤ 256 := by omega
  have hmk := run_make_row' (P := Ybaf.prog) 72 73 (.pointer none) 8 Ybaf.underlying72 Ybaf.info73 rfl .i64 .i64 l2 (by omega) (by omega)
  -- 7
  show Code.wp Ybaf.prog (Code.seq _ _) _ _ _
  apply wp_seq_k
  intro K7 h7
  have HK : Hid (∀ a w, _ → _) := h7
  clear h7
  go_wp2_with fail
  refine HK.out _ _ ?_
  clear HK
  -- 8
  apply wp_seq_k
  intro K8 h8
  have HK : Hid (∀ a w, _ → _) := h8
  clear h8
  go_upto_region 21 with fail
  have hpt := Pathed.made w1 l2 D (fun j => (Z2 j % (n : Int)).toNat)
  clear hmk
  go_loopg [20] l2 (fun q s20 wx => ∃ m : Nat, m + q = l2 ∧ s20 = .int .i64 (m : Int) ∧ Pathed w1 wx l2 m D (fun j => (Z2 j % (n : Int)).toNat))
  case atStart => exact ⟨0, by omega, rfl, hpt⟩
  case round =>
    clear hpt
    obtain ⟨m, hm, rfl, hpt⟩ := hrel
    by_cases hlt : m < l2
    · have hm0 : (0 : Int) ≤ (m : Int) := by omega
      have hm1 : (m : Int) < (l2 : Int) := by omega
      obtain ⟨b, off, rfl, hc⟩ := r2.at (hE.bel.trans ⟨hpt.bel.os, hpt.bel.tape, hpt.bel.output, hpt.bel.size, fun k hk => hpt.bel.block k (Nat.lt_of_lt_of_le hk hE.bel.size)⟩) hlt
      have hz := z2 m hlt
      have hj : Z2 m % (n : Int) = ((Z2 m % (n : Int)).toNat : Int) := by have := Int.emod_nonneg (Z2 m) (show (n : Int) ≠ 0 by omega); omega
      have hjn : (Z2 m % (n : Int)).toNat < n := by have := Int.emod_lt_of_pos (Z2 m) (show (0 : Int) < (n : Int) by omega); omega
      have hdc := (hE.below hpt.bel).dc _ hjn
      have hnx : Pathed w1 ((wr.alloc (.cells #[.pointer (some ⟨D ((Z2 m % (n : Int)).toNat), 0, none⟩), .slice none 0 0] 76)).setCell ⟨w1.heap.size, m, none⟩ (.pointer (some ⟨wr.heap.size, 0, none⟩))) l2 (m + 1) D (fun j => (Z2 j % (n : Int)).toNat) := hpt.next wr.heap.size hpt.size
      generalize (Z2 m % (n : Int)).toNat = jm at hj hjn hdc hnx
      have hj0 : (0 : Int) ≤ (jm : Int) := by omega
      have hj1 : (jm : Int) < (n : Int) := by omega
      obtain ⟨F1, hrd, hF1⟩ := hpt.row
      have hr3 := hrd.alloc (.cells #[.pointer (some ⟨D jm, 0, none⟩), .slice none 0 0] 76)
      have y0 := hr3.cell hlt
      have y1 := hr3.frozen m
      clear hr3 hrd hF1 hpt
      go_upto_region 22 with fail
      clear y0 y1 hc hdc hj
      go_wp2_with fail
      go_roundg (gk - 1)
      case measure => omega
      case rel => exact ⟨m + 1, by omega, by go_num, hnx⟩
    · have hml : l2 = m := by omega
      subst hml
      clear hm hlt
      go_wp2_with fail
      exact HK.out _ _ (partC tg pr a5 l5 c5 Z5 r5 z5 h5 h2 t0 t1 p0 p1 hE hpt (fun j hj => by have := Int.emod_lt_of_pos (Z2 j) (show (0 : Int) < (n : Int) by omega); have := Int.emod_nonneg (Z2 j) (show (n : Int) ≠ 0 by omega); omega) hn0 hn1 _ _ _ _ _ _ _ _ _ _ _ _ _ _ _ _ _ _ _ _ _ _ _ _ _ _ _ _ _ _ _ _ _ _ _ _ _ _ _ _ _ _ _ _ _ _ _ _ _ _ _ _ _ _ _ _ _ _ _ _ _ _ _ _ _ _ _ _ _ _ _ _ _ _ _ _ _ _ _ _ _ _ _ _ _ _ _ _ _ _ _ _ _ _ _ _ _ _ _ _ _ _ _ _ _ _ _ _ _ _ _ _ _ _ _ _ _ _ _ _ _ _ _ _ _ _ _ _ _ _ _ _ _ _ _ _ _ _ _ _ _ _ _ _ _ _ _ _ _ _ _ _ _ _ _ _ _ _ _ _ _ _ _ _ _ _ _ _ _ _ _ _ _ _ _ _ _ _ _ _ _ _ _ _ _ _ _ _ _ _ _ _ _ _ _ _ _ _ _ _ _ _ _ _ _ _ _ _ _ _ _ _ _ _ _ _ _ _ _ _ _ _ _ _ _ _ _ _ _ _ _ _ _ _ _ _ _ _ _ _ _ _ _ _ _ _ _ _ _ _ _ _ _ _ _ _ _ _ _ _ _ _ _ _ _ _ _ _ _ _ _ _ _ _ _ _ _ _ _ _ _ _ _ _ _ _ _ _ _ _ _ _ _ _ _ _ _ _ _ _ _ _ _ _ _ _ _ _ _ _ _ _ _ _ _ _)
end Go.Proofs.YbulkaobwFmt
