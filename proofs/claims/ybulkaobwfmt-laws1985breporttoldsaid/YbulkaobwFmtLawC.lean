import Derived.Test.YbulkaobwFmtLawD
namespace Go.Proofs.YbulkaobwFmt
open Go.RowKit
set_option linter.unusedVariables false
set_option linter.unusedSimpArgs false

set_option maxHeartbeats 2000000 in
set_option maxRecDepth 100000 in
theorem partC {w w1 w2 : World} {n l2 : Nat} {D S N J : Nat → Nat} {L C : Nat → Int} (tg pr : Int) (a5 : Option Addr) (l5 c5 : Nat) (Z5 : Nat → Int) (r5 : RowK .u8 w a5 l5 Z5) (z5 : ∀ i, i < l5 → 0 ≤ Z5 i ∧ Z5 i ≤ 255) (h5 : l5 ≤ 256) (h2 : l2 ≤ 256) (t0 : 0 ≤ tg) (t1 : tg ≤ 255) (p0 : 0 ≤ pr) (p1 : pr ≤ 255)
    (hE : Env w w1 n w.heap.size (w.heap.size + 1) D S N L C) (hpt : Pathed w1 w2 l2 l2 D J) (hJ : ∀ j, j < l2 → J j < n) (hn0 : 0 < n) (hn1 : n ≤ 256) (u0 u1 u2 u6 u7 u8 u9 u10 u11 u12 u16 u17 u18 u20 u21 u22 u23 u24 u25 u26 u27 u28 u29 u30 u31 u32 u33 u34 u35 u36 u37 u38 u39 u40 u41 u42 u43 u44 u45 u46 u47 u48 u49 u50 u51 u52 u53 u54 u55 u56 u57 u58 u59 u60 u61 u62 u63 u64 u65 u66 u67 u68 u69 u70 u71 u72 u73 u74 u75 u76 u77 u78 u79 u80 u81 u82 u83 u84 u85 u86 u87 u88 u89 u90 u91 u92 u93 u94 u95 u96 u97 u98 u99 u100 u101 u102 u103 u104 u105 u106 u107 u108 u109 u110 u111 u112 u113 u114 u115 u116 u117 u118 u119 u120 u121 u122 u123 u124 u125 u126 u127 u128 u129 u130 u131 u132 u133 u134 u135 u136 u137 u138 u139 u140 u141 u142 u143 u144 u145 u146 u147 u148 u149 u150 u151 u152 u153 u154 u155 u156 u157 u158 u159 u160 u161 u162 u163 u164 u165 u166 u167 u168 u169 u170 u171 u172 u173 u174 u175 u176 u177 u178 u179 u180 u181 u182 u183 u184 u185 u186 u187 u188 u189 u190 u191 u192 u193 u194 u195 u196 u197 u198 u199 u200 u201 u202 u203 u204 u205 u206 u207 u208 u209 u210 u211 u212 u213 u214 u215 u216 u217 u218 u219 u220 u221 u222 u223 u224 u225 u226 u227 u228 u229 u230 u231 u232 u233 u234 u235 u236 u237 u238 u239 u240 u241 u242 u243 u244 u245 u246 u247 u248 u249 u250 u251 u252 u253 u254 u255 u256 u257 u258 u259 u260 u261 u262 u263 u264 u265 u266 u267 u268 u269 u270 u271 u272 u273 u274 u275 u276 u277 u278 u279 u280 u281 u282 u283 u284 u285 u286 u287 u288 u289 u290 u291 u292 u293 u294 u295 u296 u297 u298 u299 u300 u301 u302 u303 u304 u305 u306 u307 u308 u309 u310 u311 u312 u313 u314 u315 u316 u317 u318 u319 u320 u321 u322 : Value) :
    Code.wp Ybaf.prog (tl (tl (tl (tl (tl (tl (tl (tl (tl (Option.getD Ybaf.f4.body Code.skip)))))))))) (bodyPost Ybaf.prog Ybaf.f4 fun e w' => e = .returned (.bool true) ∧ Below w.heap.size w w') { tmps := #[u0, u1, u2, .int .u8 tg, .int .u8 pr, .slice a5 l5 c5, u6, u7, u8, u9, u10, u11, u12, .int .i64 (n : Int), .slice (some ⟨w.heap.size, 0, none⟩) n n, .slice (some ⟨w.heap.size + 1, 0, none⟩) n n, u16, u17, u18, .slice (some ⟨w1.heap.size, 0, none⟩) l2 l2, u20, u21, u22, u23, u24, u25, u26, u27, u28, u29, u30, u31, u32, u33, u34, u35, u36, u37, u38, u39, u40, u41, u42, u43, u44, u45, u46, u47, u48, u49, u50, u51, u52, u53, u54, u55, u56, u57, u58, u59, u60, u61, u62, u63, u64, u65, u66, u67, u68, u69, u70, u71, u72, u73, u74, u75, u76, u77, u78, u79, u80, u81, u82, u83, u84, u85, u86, u87, u88, u89, u90, u91, u92, u93, u94, u95, u96, u97, u98, u99, u100, u101, u102, u103, u104, u105, u106, u107, u108, u109, u110, u111, u112, u113, u114, u115, u116, u117, u118, u119, u120, u121, u122, u123, u124, u125, u126, u127, u128, u129, u130, u131, u132, u133, u134, u135, u136, u137, u138, u139, u140, u141, u142, u143, u144, u145, u146, u147, u148, u149, u150, u151, u152, u153, u154, u155, u156, u157, u158, u159, u160, u161, u162, u163, u164, u165, u166, u167, u168, u169, u170, u171, u172, u173, u174, u175, u176, u177, u178, u179, u180, u181, u182, u183, u184, u185, u186, u187, u188, u189, u190, u191, u192, u193, u194, u195, u196, u197, u198, u199, u200, u201, u202, u203, u204, u205, u206, u207, u208, u209, u210, u211, u212, u213, u214, u215, u216, u217, u218, u219, u220, u221, u222, u223, u224, u225, u226, u227, u228, u229, u230, u231, u232, u233, u234, u235, u236, u237, u238, u239, u240, u241, u242, u243, u244, u245, u246, u247, u248, u249, u250, u251, u252, u253, u254, u255, u256, u257, u258, u259, u260, u261, u262, u263, u264, u265, u266, u267, u268, u269, u270, u271, u272, u273, u274, u275, u276, u277, u278, u279, u280, u281, u282, u283, u284, u285, u286, u287, u288, u289, u290, u291, u292, u293, u294, u295, u296, u297, u298, u299, u300, u301, u302, u303, u304, u305, u306, u307, u308, u309, u310, u311, u312, u313, u314, u315, u316, u317, u318, u319, u320, u321, u322], defers := [] } w2 := by
  have hn1' : (n : Int) ≤ 256 := by omega
  have hj : tg % (n : Int) = ((tg % (n : Int)).toNat : Int) := by have := Int.emod_nonneg tg (show (n : Int) ≠ 0 by omega); omega
  have hjn : (tg % (n : Int)).toNat < n := by have := Int.emod_lt_of_pos tg (show (0 : Int) < (n : Int) by omega); omega
  generalize (tg % (n : Int)).toNat = ti at hj hjn
  have hdc := (hE.below hpt.bel).dc ti hjn
  have hj0 : (0 : Int) ≤ (ti : Int) := by omega
  have hj1 : (ti : Int) < (n : Int) := by omega
  obtain ⟨K, hK, hK8⟩ : ∃ K : Nat, pr % 9 = (K : Int) ∧ K ≤ 8 := ⟨(pr % 9).toNat, by omega, by omega⟩
  have hmk := run_make_row' (P := Ybaf.prog) 23 24 (.pointer none) 8 Ybaf.underlying23 Ybaf.info24 rfl .i64 .i64 K (by omega) (by omega)
  -- 9
  show Code.wp Ybaf.prog (Code.seq _ _) _ _ _
  apply wp_seq_k
  intro K9 h9
  have HK : Hid (∀ a w, _ → _) := h9
  clear h9
  go_wp2_with fail
  refine HK.out _ _ ?_
  clear HK
  -- 10
  apply wp_seq_k
  intro K10 h10
  have HK : Hid (∀ a w, _ → _) := h10
  clear h10
  go_wp2_with fail
  refine HK.out _ _ ?_
  clear HK
  -- 11
  apply wp_seq_k
  intro K11 h11
  have HK : Hid (∀ a w, _ → _) := h11
  clear h11
  go_wp2_with fail
  refine HK.out _ _ ?_
  clear HK
  -- 12
  apply wp_seq_k
  intro K12 h12
  have HK : Hid (∀ a w, _ → _) := h12
  clear h12
  go_wp2_with fail
  refine HK.out _ _ ?_
  clear HK
  -- 13
  apply wp_seq_k
  intro K13 h13
  have HK : Hid (∀ a w, _ → _) := h13
  clear h13
  go_wp2_with fail
  refine HK.out _ _ ?_
  clear HK
  -- 14
  apply wp_seq_k
  intro K14 h14
  have HK : Hid (∀ a w, _ → _) := h14
  clear h14
  go_wp2_with fail
  refine HK.out _ _ ?_
  clear HK
  -- 15
  apply wp_seq_k
  intro K15 h15
  have HK : Hid (∀ a w, _ → _) := h15
  clear h15
  go_upto_region 31 with fail
  rw [hj, hK]
  have hL := Log.made w2 K (D ti) [.pointer none, .slice none 0 0, .slice none 0 0] [.map none, .map none, .pointer none, .map none, .map none, .map none] [.bool false, .map none, .map none, .bool false, .slice none 0 0]
  clear hmk hdc hj hK
  obtain ⟨i0, hi0, hz0, hz1, hz2⟩ := info_parts Ybaf.info24
  go_loopg [27, 28] K (fun q s27 s28 wx => ∃ (i cap : Nat) (ao : Option Addr) (es : List Nat), i + q = K ∧ es.length = i ∧ s27 = .int .i64 (i : Int) ∧ Log w2 wx K (D ti) i (.slice ao i cap) (.slice ao i cap) es es)
  case atStart => exact ⟨0, 0, none, [], by omega, rfl, rfl, hL⟩
  case round =>
    clear hL
    obtain ⟨i, cap, ao, es, hi, hes, rfl, hL⟩ := hrel
    by_cases hlt : i < K
    · have hm0 : (0 : Int) ≤ (i : Int) := by omega
      have hm1 : (i : Int) < (K : Int) := by omega
      have hA := hL.alloc (.cells #[.string ⟨#[]⟩, .int .i64 0, .int .i64 0, .string ⟨#[120]⟩] 28)
      obtain ⟨F, hF, hF2⟩ := hA.old
      have y0 := hF.cell hlt
      have y1 := hF.frozen i
      have hB := hA.setOld hes wr.heap.size
      go_upto_region 35 with fail
      clear y0 y1 hF hF2 hA hL
      generalize ((wr.alloc (.cells #[.string ⟨#[]⟩, .int .i64 0, .int .i64 0, .string ⟨#[120]⟩] 28)).setCell ⟨w2.heap.size + 1 + 1 + 1 + 1, i, none⟩ (.pointer (some ⟨wr.heap.size, 0, none⟩))) = W1 at hB ⊢
      generalize wr.heap.size = eb at hB ⊢
      have x9 := hB.c1
      have hB2 := hB.alloc (.cells #[.pointer (some ⟨eb, 0, none⟩)] 24)
      go_upto_region 32 with (first | (at_builtin; refine wpList_append_lies _ rfl (.tmp 170) (.tmp 172) 23 rfl (w2.heap.size + 1 + 1 + 1 + 1 + 1) 24 i0 (.pointer none) 1 8 Ybaf.underlying23 hi0 hz0 hz1 hz2 rfl (by omega) (.slice ao i cap) i (eptrs es) rfl hB2.own ⟨W1.heap.size, 0, none⟩ 1 1 [.pointer (some ⟨eb, 0, none⟩)] rfl rfl (newsOf _ _ _ _ rfl) (by simp [Value.oneCell']) (by omega) (by unfold maxLen; omega) (by omega) hB2.hs (W1.heap.size + 1) (by simp) ?_; intro g1 cp1 v1 o1 gr1 at1 lt1; have hB3 := hB2.append o1 gr1; have x1 := hB3.c1; have x2 := hB3.fz))
      have hB4 := hB3.setC (.slice (some ⟨g1, 0, none⟩) (i + 1) cp1)
      clear x1 x2 hB3 hB2 hB x9 o1 gr1 at1 lt1
      go_wp2_with fail
      go_roundg (gk - 1)
      case measure => omega
      case rel => exact ⟨i + 1, cp1, some ⟨g1, 0, none⟩, es ++ [eb], by omega, by simp [hes], by go_num, hB4⟩
    · have hik : K = i := by omega
      subst hik
      clear hi hlt
      go_wp2_with fail
      exact HK.out _ _ (partD a5 l5 c5 Z5 r5 z5 h5 h2 hE hpt hJ hL hes hn0 hn1 hjn hK8 _ _ _ _ _ _ _ _ _ _ _ _ _ _ _ _ _ _ _ _ _ _ _ _ _ _ _ _ _ _ _ _ _ _ _ _ _ _ _ _ _ _ _ _ _ _ _ _ _ _ _ _ _ _ _ _ _ _ _ _ _ _ _ _ _ _ _ _ _ _ _ _ _ _ _ _ _ _ _ _ _ _ _ _ _ _ _ _ _ _ _ _ _ _ _ _ _ _ _ _ _ _ _ _ _ _ _ _ _ _ _ _ _ _ _ _ _ _ _ _ _ _ _ _ _ _ _ _ _ _ _ _ _ _ _ _ _ _ _ _ _ _ _ _ _ _ _ _ _ _ _ _ _ _ _ _ _ _ _ _ _ _ _ _ _ _ _ _ _ _ _ _ _ _ _ _ _ _ _ _ _ _ _ _ _ _ _ _ _ _ _ _ _ _ _ _ _ _ _ _ _ _ _ _ _ _ _ _ _ _ _ _ _ _ _ _ _ _ _ _ _ _ _ _ _ _ _ _ _ _ _ _ _ _ _ _ _ _ _ _ _ _ _ _ _ _ _ _ _ _ _ _ _ _ _ _ _ _ _ _ _ _ _ _ _ _ _ _ _ _ _ _ _ _ _ _ _ _ _ _ _ _ _ _ _ _ _ _ _ _ _ _ _ _ _ _ _ _ _ _ _ _ _ _ _ _ _ _ _ _ _ _)
end Go.Proofs.YbulkaobwFmt
