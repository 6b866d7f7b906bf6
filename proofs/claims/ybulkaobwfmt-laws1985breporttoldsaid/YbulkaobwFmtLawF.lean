import Derived.Test.YbulkaobwFmtStage4
import Derived.Lib.Builder
namespace Go.Proofs.YbulkaobwFmt
open Go.RowKit
set_option linter.unusedVariables false
set_option linter.unusedSimpArgs false

/-- The law's code behind its first statement. -/
def tl : Code → Code
  | .seq _ c => c
  | c => c

set_option maxHeartbeats 2000000 in
set_option maxRecDepth 100000 in
theorem partF {w wc : World} {n K ti db qb tb fb pb cb ob mb wb ub g cap eb : Nat} {D : Nat → Nat} {L C : Int} {es ks : List Nat} (hF2 : Fin w wc n K ti db qb tb fb pb cb ob mb wb ub g cap eb D L C es ks) (hn1 : n ≤ 256) (u0 u1 u2 u3 u4 u5 u6 u7 u8 u9 u10 u11 u12 u15 u16 u17 u18 u19 u20 u22 u23 u24 u25 u26 u27 u28 u31 u32 u33 u34 u35 u36 u37 u38 u39 u40 u41 u42 u43 u44 u45 u46 u47 u48 u49 u50 u51 u52 u53 u54 u55 u56 u57 u58 u59 u60 u61 u62 u63 u64 u65 u66 u67 u68 u69 u70 u71 u72 u73 u74 u75 u76 u77 u78 u79 u80 u81 u82 u83 u84 u85 u86 u87 u88 u89 u90 u91 u92 u93 u94 u95 u96 u97 u98 u99 u100 u101 u102 u103 u104 u105 u106 u107 u108 u109 u110 u111 u112 u113 u114 u115 u116 u117 u118 u119 u120 u121 u122 u123 u124 u125 u126 u127 u128 u129 u130 u131 u132 u133 u134 u135 u136 u137 u138 u139 u140 u141 u142 u143 u144 u145 u146 u147 u148 u149 u150 u151 u152 u153 u154 u155 u156 u157 u158 u159 u160 u161 u162 u163 u164 u165 u166 u167 u168 u169 u170 u171 u172 u173 u174 u175 u176 u177 u178 u179 u180 u181 u182 u183 u184 u185 u186 u187 u188 u189 u190 u191 u192 u193 u194 u195 u196 u197 u198 u199 u200 u201 u202 u203 u204 u205 u206 u207 u208 u209 u210 u211 u212 u213 u214 u215 u216 u217 u218 u219 u220 u221 u222 u223 u224 u225 u226 u227 u228 u229 u230 u231 u232 u233 u234 u235 u236 u237 u238 u239 u240 u241 u242 u243 u244 u245 u246 u247 u248 u249 u250 u251 u252 u253 u254 u255 u256 u257 u258 u259 u260 u261 u262 u263 u264 u265 u266 u267 u268 u269 u270 u271 u272 u273 u274 u275 u276 u277 u278 u279 u280 u281 u282 u283 u284 u285 u286 u287 u288 u289 u290 u291 u292 u293 u294 u295 u296 u297 u298 u299 u300 u301 u302 u303 u304 u305 u306 u307 u308 u309 u310 u311 u312 u313 u314 u315 u316 u317 u318 u319 u320 u321 u322 : Value) :
    Code.wp Ybaf.prog (tl (tl (tl (tl (tl (tl (tl (tl (tl (tl (tl (tl (tl (tl (tl (tl (tl (tl (tl (tl (tl (tl (tl (tl (tl (tl (tl (tl (tl (tl (Option.getD Ybaf.f4.body Code.skip))))))))))))))))))))))))))))))) (bodyPost Ybaf.prog Ybaf.f4 fun e w' => e = .returned (.bool true) ∧ Below w.heap.size w w') { tmps := #[u0, u1, u2, u3, u4, u5, u6, u7, u8, u9, u10, u11, u12, .int .i64 (n : Int), .slice (some ⟨db, 0, none⟩) n n, u15, u16, u17, u18, u19, u20, .int .i64 (ti : Int), u22, u23, u24, u25, u26, u27, u28, .pointer (some ⟨wb, 0, none⟩), .slice (some ⟨ub, 0, none⟩) n n, u31, u32, u33, u34, u35, u36, u37, u38, u39, u40, u41, u42, u43, u44, u45, u46, u47, u48, u49, u50, u51, u52, u53, u54, u55, u56, u57, u58, u59, u60, u61, u62, u63, u64, u65, u66, u67, u68, u69, u70, u71, u72, u73, u74, u75, u76, u77, u78, u79, u80, u81, u82, u83, u84, u85, u86, u87, u88, u89, u90, u91, u92, u93, u94, u95, u96, u97, u98, u99, u100, u101, u102, u103, u104, u105, u106, u107, u108, u109, u110, u111, u112, u113, u114, u115, u116, u117, u118, u119, u120, u121, u122, u123, u124, u125, u126, u127, u128, u129, u130, u131, u132, u133, u134, u135, u136, u137, u138, u139, u140, u141, u142, u143, u144, u145, u146, u147, u148, u149, u150, u151, u152, u153, u154, u155, u156, u157, u158, u159, u160, u161, u162, u163, u164, u165, u166, u167, u168, u169, u170, u171, u172, u173, u174, u175, u176, u177, u178, u179, u180, u181, u182, u183, u184, u185, u186, u187, u188, u189, u190, u191, u192, u193, u194, u195, u196, u197, u198, u199, u200, u201, u202, u203, u204, u205, u206, u207, u208, u209, u210, u211, u212, u213, u214, u215, u216, u217, u218, u219, u220, u221, u222, u223, u224, u225, u226, u227, u228, u229, u230, u231, u232, u233, u234, u235, u236, u237, u238, u239, u240, u241, u242, u243, u244, u245, u246, u247, u248, u249, u250, u251, u252, u253, u254, u255, u256, u257, u258, u259, u260, u261, u262, u263, u264, u265, u266, u267, u268, u269, u270, u271, u272, u273, u274, u275, u276, u277, u278, u279, u280, u281, u282, u283, u284, u285, u286, u287, u288, u289, u290, u291, u292, u293, u294, u295, u296, u297, u298, u299, u300, u301, u302, u303, u304, u305, u306, u307, u308, u309, u310, u311, u312, u313, u314, u315, u316, u317, u318, u319, u320, u321, u322], defers := [] } wc := by
  have hn1' : (n : Int) ≤ 256 := by omega
  show Code.wp Ybaf.prog (Code.seq _ _) _ _ _
  apply wp_seq_k
  intro K30 h30
  have HK : Hid (∀ a w, _ → _) := h30
  clear h30
  go_upto_region 65 with fail
  go_loopg [38] n (fun q s38 wx => ∃ j qq : Nat, j + q = n ∧ s38 = .int .i64 (j : Int) ∧ wx = wc.drewN qq)
  case atStart => exact ⟨0, 0, by omega, rfl, rfl⟩
  case round =>
    obtain ⟨j, qq, hj, rfl, rfl⟩ := hrel
    by_cases hlt : j < n
    · have hja : (0 : Int) ≤ (j : Int) := by omega
      have hjb : (j : Int) < (n : Int) := by omega
      by_cases e : j = ti
      · subst e
        go_wp2_with fail
        go_roundg (gk - 1)
        case measure => omega
        case rel => exact ⟨j + 1, qq, by omega, by go_num, rfl⟩
      · have hjt : ((j : Int) == (ti : Int)) = false := by simp; omega
        have w2c := hF2.w2
        have dcc := hF2.dc j hlt
        have wsc := hF2.was j hlt
        have lk : ∀ q, (Instr.lookup 79 (.map (some mb)) (.pointer (some ⟨D j, 0, none⟩)) false).run Ybaf.prog (wc.drewN q) = .ok (.bool (decide (D j ∈ ks))) (wc.drewN q) := fun q => by rw [hF2.look q j hlt]; simp [e]
        clear e
        generalize decide (D j ∈ ks) = bb at lk wsc
        go_upto_region 68 with fail
        go_quiet (fail)
        go_wp2_with fail
        go_roundg (gk - 1)
        case measure => omega
        case rel => exact ⟨j + 1, _, by omega, by go_num, rfl⟩
    · have hje : n = j := by omega
      have hbel := (hF2.drewN qq).bel
      clear hF2
      subst hje
      clear hj hlt
      go_wp2_with fail
      refine HK.out _ _ ?_
      go_wp2_with fail
      go_ret
      exact ⟨rfl, hbel⟩
end Go.Proofs.YbulkaobwFmt
