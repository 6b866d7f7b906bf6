import Derived.Test.YbulkaobwFmtLawF
namespace Go.Proofs.YbulkaobwFmt
open Go.RowKit
set_option linter.unusedVariables false
set_option linter.unusedSimpArgs false

theorem Ybaf.neq24b (a : Addr) (w : World) : (binOp .neq 24 (.pointer (some a)) (.pointer (some a))).run Ybaf.prog w = .ok (.bool false) w := by
  obtain ⟨j, hj⟩ := Option.isSome_iff_exists.1 (show (Ybaf.prog.info? 28).isSome = true by kernel_rfl)
  exact Lib.run_neq_ptr_same w a Ybaf.underlying24 hj

set_option maxHeartbeats 2000000 in
set_option maxRecDepth 100000 in
theorem partE2 {w w5 : World} {n K ti db qb tb fb pb cb ob mb wb ub g cap eb : Nat} {D : Nat → Nat} {L C : Int} {es ks : List Nat} (hF : Fin w w5 n K ti db qb tb fb pb cb ob mb wb ub g cap eb D L C es ks) (hn1 : n ≤ 256) (hjn : ti < n) (hK8 : K ≤ 8) (hkl : ks.length ≤ 256) (u0 u1 u2 u3 u4 u5 u6 u7 u8 u9 u10 u11 u12 u16 u17 u18 u19 u20 u27 u28 u31 u32 u35 u36 u37 u38 u39 u40 u41 u42 u43 u44 u45 u46 u47 u48 u49 u50 u51 u52 u53 u54 u55 u56 u57 u58 u59 u60 u61 u62 u63 u64 u65 u66 u67 u68 u69 u70 u71 u72 u73 u74 u75 u76 u77 u78 u79 u80 u81 u82 u83 u84 u85 u86 u87 u88 u89 u90 u91 u92 u93 u94 u95 u96 u97 u98 u99 u100 u101 u102 u103 u104 u105 u106 u107 u108 u109 u110 u111 u112 u113 u114 u115 u116 u117 u118 u119 u120 u121 u122 u123 u124 u125 u126 u127 u128 u129 u130 u131 u132 u133 u134 u135 u136 u137 u138 u139 u140 u141 u142 u143 u144 u145 u146 u147 u148 u149 u150 u151 u152 u153 u154 u155 u156 u157 u158 u159 u160 u161 u162 u163 u164 u165 u166 u167 u168 u169 u170 u171 u172 u173 u174 u175 u176 u177 u178 u179 u180 u181 u182 u183 u184 u185 u186 u187 u188 u189 u190 u191 u192 u193 u194 u195 u196 u197 u198 u199 u200 u201 u202 u203 u204 u205 u206 u207 u208 u209 u210 u211 u212 u213 u214 u215 u216 u217 u218 u219 u220 u221 u222 u223 u224 u225 u226 u227 u228 u229 u230 u231 u232 u233 u234 u235 u236 u237 u238 u239 u240 u241 u242 u243 u244 u245 u246 u247 u248 u249 u250 u251 u252 u253 u254 u255 u256 u257 u258 u259 u260 u261 u262 u263 u264 u265 u266 u267 u268 u269 u270 u271 u272 u273 u274 u275 u276 u277 u278 u279 u280 u281 u282 u283 u284 u285 u286 u287 u288 u289 u290 u291 u292 u293 u294 u295 u296 u297 u298 u299 u300 u301 u302 u303 u304 u305 u306 u307 u308 u309 u310 u311 u312 u313 u314 u315 u316 u317 u318 u319 u320 u321 u322 : Value) :
    Code.wp Ybaf.prog (tl (tl (tl (tl (tl (tl (tl (tl (tl (tl (tl (tl (tl (tl (tl (tl (tl (tl (tl (tl (tl (tl (tl (tl (Option.getD Ybaf.f4.body Code.skip))))))))))))))))))))))))) (bodyPost Ybaf.prog Ybaf.f4 fun e w' => e = .returned (.bool true) ∧ Below w.heap.size w w') { tmps := #[u0, u1, u2, u3, u4, u5, u6, u7, u8, u9, u10, u11, u12, .int .i64 (n : Int), .slice (some ⟨db, 0, none⟩) n n, .slice (some ⟨qb, 0, none⟩) n n, u16, u17, u18, u19, u20, .int .i64 (ti : Int), .pointer (some ⟨tb, 0, none⟩), .pointer (some ⟨pb, 0, none⟩), .pointer (some ⟨cb, 0, none⟩), .int .i64 (K : Int), .slice (some ⟨ob, 0, none⟩) K K, u27, u28, .pointer (some ⟨wb, 0, none⟩), .slice (some ⟨ub, 0, none⟩) n n, u31, u32, .int .i64 (ks.length : Int), .bool (decide (D ti ∈ ks)), u35, u36, u37, u38, u39, u40, u41, u42, u43, u44, u45, u46, u47, u48, u49, u50, u51, u52, u53, u54, u55, u56, u57, u58, u59, u60, u61, u62, u63, u64, u65, u66, u67, u68, u69, u70, u71, u72, u73, u74, u75, u76, u77, u78, u79, u80, u81, u82, u83, u84, u85, u86, u87, u88, u89, u90, u91, u92, u93, u94, u95, u96, u97, u98, u99, u100, u101, u102, u103, u104, u105, u106, u107, u108, u109, u110, u111, u112, u113, u114, u115, u116, u117, u118, u119, u120, u121, u122, u123, u124, u125, u126, u127, u128, u129, u130, u131, u132, u133, u134, u135, u136, u137, u138, u139, u140, u141, u142, u143, u144, u145, u146, u147, u148, u149, u150, u151, u152, u153, u154, u155, u156, u157, u158, u159, u160, u161, u162, u163, u164, u165, u166, u167, u168, u169, u170, u171, u172, u173, u174, u175, u176, u177, u178, u179, u180, u181, u182, u183, u184, u185, u186, u187, u188, u189, u190, u191, u192, u193, u194, u195, u196, u197, u198, u199, u200, u201, u202, u203, u204, u205, u206, u207, u208, u209, u210, u211, u212, u213, u214, u215, u216, u217, u218, u219, u220, u221, u222, u223, u224, u225, u226, u227, u228, u229, u230, u231, u232, u233, u234, u235, u236, u237, u238, u239, u240, u241, u242, u243, u244, u245, u246, u247, u248, u249, u250, u251, u252, u253, u254, u255, u256, u257, u258, u259, u260, u261, u262, u263, u264, u265, u266, u267, u268, u269, u270, u271, u272, u273, u274, u275, u276, u277, u278, u279, u280, u281, u282, u283, u284, u285, u286, u287, u288, u289, u290, u291, u292, u293, u294, u295, u296, u297, u298, u299, u300, u301, u302, u303, u304, u305, u306, u307, u308, u309, u310, u311, u312, u313, u314, u315, u316, u317, u318, u319, u320, u321, u322], defers := [] } w5 := by
  have hn1' : (n : Int) ≤ 256 := by omega
  have hj0 : (0 : Int) ≤ (ti : Int) := by omega
  have hj1 : (ti : Int) < (n : Int) := by omega
  -- 24
  show Code.wp Ybaf.prog (Code.seq _ _) _ _ _
  apply wp_seq_k
  intro K24 h24
  have HK : Hid (∀ a w, _ → _) := h24
  clear h24
  have x9 := hF.c1
  have x1 := hF.last
  have hja : (0 : Int) ≤ (K : Int) := by omega
  have hjc : (K : Int) < (K : Int) + 1 := by omega
  go_wp2_with fail
  refine HK.out _ _ ?_
  clear HK
  -- 25
  apply wp_seq_k
  intro K25 h25
  have HK : Hid (∀ a w, _ → _) := h25
  clear h25
  have e0 := hF.e0
  have e1 := hF.e1
  have e2 := hF.e2
  have q0 := hF.q0
  have q1 := hF.q1
  have p0' := hF.p0
  have f0 := hF.f0
  go_upto_region 55 with fail
  go_quiet (fail)
  have hF1 := hF.drewN nq
  clear hF x9 x1 e0 e1 e2 q0 q1 p0' f0
  generalize w5.drewN nq = W1 at hF1 ⊢
  go_wp2_with fail
  refine HK.out _ _ ?_
  clear HK
  -- 26
  apply wp_seq_k
  intro K26 h26
  have HK : Hid (∀ a w, _ → _) := h26
  clear h26
  have w2c := hF1.w2
  have t0c := hF1.t0
  have lk : ∀ q, (Instr.lookup 79 (.map (some mb)) (.pointer (some ⟨D ti, 0, none⟩)) false).run Ybaf.prog (W1.drewN q) = .ok (.bool true) (W1.drewN q) := fun q => by rw [hF1.look q ti hjn]; simp
  go_upto_region 57 with fail
  go_quiet (fail)
  have hF2 := hF1.drewN nq
  clear hF1 w2c t0c lk
  generalize W1.drewN nq = W2 at hF2 ⊢
  go_wp2_with fail
  refine HK.out _ _ ?_
  clear HK
  -- 27
  apply wp_seq_k
  intro K27 h27
  have HK : Hid (∀ a w, _ → _) := h27
  clear h27
  go_wp2_with fail
  refine HK.out _ _ ?_
  clear HK
  -- 28
  apply wp_seq_k
  intro K28 h28
  have HK : Hid (∀ a w, _ → _) := h28
  clear h28
  have hk0 : (0 : Int) ≤ (ks.length : Int) := by omega
  have hk1 : (ks.length : Int) ≤ 256 := by omega
  go_wp2_with fail
  · rename_i hmem
    have hmem' : ¬ D ti ∈ ks := by simpa using hmem
    refine HK.out _ _ ?_
    clear HK
    apply wp_seq_k
    intro K29 h29
    have HK : Hid (∀ a w, _ → _) := h29
    clear h29
    have hlen := hF2.map.len
    have w2c := hF2.w2
    rw [if_neg hmem'] at hlen
    clear hmem hmem'
    go_wp2_with fail
    exact HK.out _ _ (partF hF2 hn1 _ _ _ _ _ _ _ _ _ _ _ _ _ _ _ _ _ _ _ _ _ _ _ _ _ _ _ _ _ _ _ _ _ _ _ _ _ _ _ _ _ _ _ _ _ _ _ _ _ _ _ _ _ _ _ _ _ _ _ _ _ _ _ _ _ _ _ _ _ _ _ _ _ _ _ _ _ _ _ _ _ _ _ _ _ _ _ _ _ _ _ _ _ _ _ _ _ _ _ _ _ _ _ _ _ _ _ _ _ _ _ _ _ _ _ _ _ _ _ _ _ _ _ _ _ _ _ _ _ _ _ _ _ _ _ _ _ _ _ _ _ _ _ _ _ _ _ _ _ _ _ _ _ _ _ _ _ _ _ _ _ _ _ _ _ _ _ _ _ _ _ _ _ _ _ _ _ _ _ _ _ _ _ _ _ _ _ _ _ _ _ _ _ _ _ _ _ _ _ _ _ _ _ _ _ _ _ _ _ _ _ _ _ _ _ _ _ _ _ _ _ _ _ _ _ _ _ _ _ _ _ _ _ _ _ _ _ _ _ _ _ _ _ _ _ _ _ _ _ _ _ _ _ _ _ _ _ _ _ _ _ _ _ _ _ _ _ _ _ _ _ _ _ _ _ _ _ _ _ _ _ _ _ _ _ _ _ _ _ _ _ _ _ _ _ _ _ _ _ _ _ _ _ _ _ _ _ _ _ _ _ _ _ _ _ _ _ _)
  · rename_i hmem
    have hmem' : D ti ∈ ks := by simpa using hmem
    refine HK.out _ _ ?_
    clear HK
    apply wp_seq_k
    intro K29 h29
    have HK : Hid (∀ a w, _ → _) := h29
    clear h29
    have hlen := hF2.map.len
    have w2c := hF2.w2
    rw [if_pos hmem'] at hlen
    clear hmem hmem'
    go_wp2_with fail
    exact HK.out _ _ (partF hF2 hn1 _ _ _ _ _ _ _ _ _ _ _ _ _ _ _ _ _ _ _ _ _ _ _ _ _ _ _ _ _ _ _ _ _ _ _ _ _ _ _ _ _ _ _ _ _ _ _ _ _ _ _ _ _ _ _ _ _ _ _ _ _ _ _ _ _ _ _ _ _ _ _ _ _ _ _ _ _ _ _ _ _ _ _ _ _ _ _ _ _ _ _ _ _ _ _ _ _ _ _ _ _ _ _ _ _ _ _ _ _ _ _ _ _ _ _ _ _ _ _ _ _ _ _ _ _ _ _ _ _ _ _ _ _ _ _ _ _ _ _ _ _ _ _ _ _ _ _ _ _ _ _ _ _ _ _ _ _ _ _ _ _ _ _ _ _ _ _ _ _ _ _ _ _ _ _ _ _ _ _ _ _ _ _ _ _ _ _ _ _ _ _ _ _ _ _ _ _ _ _ _ _ _ _ _ _ _ _ _ _ _ _ _ _ _ _ _ _ _ _ _ _ _ _ _ _ _ _ _ _ _ _ _ _ _ _ _ _ _ _ _ _ _ _ _ _ _ _ _ _ _ _ _ _ _ _ _ _ _ _ _ _ _ _ _ _ _ _ _ _ _ _ _ _ _ _ _ _ _ _ _ _ _ _ _ _ _ _ _ _ _ _ _ _ _ _ _ _ _ _ _ _ _ _ _ _ _ _ _ _ _ _ _ _ _ _ _ _ _)

set_option maxHeartbeats 2000000 in
set_option maxRecDepth 100000 in
theorem partE {w w5 : World} {n K ti db qb tb fb pb cb ob mb wb ub g cap eb : Nat} {D : Nat → Nat} {L C : Int} {es ks : List Nat} (hF : Fin w w5 n K ti db qb tb fb pb cb ob mb wb ub g cap eb D L C es ks) (hn1 : n ≤ 256) (hjn : ti < n) (hK8 : K ≤ 8) (hkl : ks.length ≤ 256) (u0 u1 u2 u3 u4 u5 u6 u7 u8 u9 u10 u11 u12 u16 u17 u18 u19 u20 u27 u28 u31 u32 u35 u36 u37 u38 u39 u40 u41 u42 u43 u44 u45 u46 u47 u48 u49 u50 u51 u52 u53 u54 u55 u56 u57 u58 u59 u60 u61 u62 u63 u64 u65 u66 u67 u68 u69 u70 u71 u72 u73 u74 u75 u76 u77 u78 u79 u80 u81 u82 u83 u84 u85 u86 u87 u88 u89 u90 u91 u92 u93 u94 u95 u96 u97 u98 u99 u100 u101 u102 u103 u104 u105 u106 u107 u108 u109 u110 u111 u112 u113 u114 u115 u116 u117 u118 u119 u120 u121 u122 u123 u124 u125 u126 u127 u128 u129 u130 u131 u132 u133 u134 u135 u136 u137 u138 u139 u140 u141 u142 u143 u144 u145 u146 u147 u148 u149 u150 u151 u152 u153 u154 u155 u156 u157 u158 u159 u160 u161 u162 u163 u164 u165 u166 u167 u168 u169 u170 u171 u172 u173 u174 u175 u176 u177 u178 u179 u180 u181 u182 u183 u184 u185 u186 u187 u188 u189 u190 u191 u192 u193 u194 u195 u196 u197 u198 u199 u200 u201 u202 u203 u204 u205 u206 u207 u208 u209 u210 u211 u212 u213 u214 u215 u216 u217 u218 u219 u220 u221 u222 u223 u224 u225 u226 u227 u228 u229 u230 u231 u232 u233 u234 u235 u236 u237 u238 u239 u240 u241 u242 u243 u244 u245 u246 u247 u248 u249 u250 u251 u252 u253 u254 u255 u256 u257 u258 u259 u260 u261 u262 u263 u264 u265 u266 u267 u268 u269 u270 u271 u272 u273 u274 u275 u276 u277 u278 u279 u280 u281 u282 u283 u284 u285 u286 u287 u288 u289 u290 u291 u292 u293 u294 u295 u296 u297 u298 u299 u300 u301 u302 u303 u304 u305 u306 u307 u308 u309 u310 u311 u312 u313 u314 u315 u316 u317 u318 u319 u320 u321 u322 : Value) :
    Code.wp Ybaf.prog (tl (tl (tl (tl (tl (tl (tl (tl (tl (tl (tl (tl (tl (tl (tl (tl (tl (tl (tl (tl (tl (tl (Option.getD Ybaf.f4.body Code.skip))))))))))))))))))))))) (bodyPost Ybaf.prog Ybaf.f4 fun e w' => e = .returned (.bool true) ∧ Below w.heap.size w w') { tmps := #[u0, u1, u2, u3, u4, u5, u6, u7, u8, u9, u10, u11, u12, .int .i64 (n : Int), .slice (some ⟨db, 0, none⟩) n n, .slice (some ⟨qb, 0, none⟩) n n, u16, u17, u18, u19, u20, .int .i64 (ti : Int), .pointer (some ⟨tb, 0, none⟩), .pointer (some ⟨pb, 0, none⟩), .pointer (some ⟨cb, 0, none⟩), .int .i64 (K : Int), .slice (some ⟨ob, 0, none⟩) K K, u27, u28, .pointer (some ⟨wb, 0, none⟩), .slice (some ⟨ub, 0, none⟩) n n, u31, u32, .int .i64 (ks.length : Int), .bool (decide (D ti ∈ ks)), u35, u36, u37, u38, u39, u40, u41, u42, u43, u44, u45, u46, u47, u48, u49, u50, u51, u52, u53, u54, u55, u56, u57, u58, u59, u60, u61, u62, u63, u64, u65, u66, u67, u68, u69, u70, u71, u72, u73, u74, u75, u76, u77, u78, u79, u80, u81, u82, u83, u84, u85, u86, u87, u88, u89, u90, u91, u92, u93, u94, u95, u96, u97, u98, u99, u100, u101, u102, u103, u104, u105, u106, u107, u108, u109, u110, u111, u112, u113, u114, u115, u116, u117, u118, u119, u120, u121, u122, u123, u124, u125, u126, u127, u128, u129, u130, u131, u132, u133, u134, u135, u136, u137, u138, u139, u140, u141, u142, u143, u144, u145, u146, u147, u148, u149, u150, u151, u152, u153, u154, u155, u156, u157, u158, u159, u160, u161, u162, u163, u164, u165, u166, u167, u168, u169, u170, u171, u172, u173, u174, u175, u176, u177, u178, u179, u180, u181, u182, u183, u184, u185, u186, u187, u188, u189, u190, u191, u192, u193, u194, u195, u196, u197, u198, u199, u200, u201, u202, u203, u204, u205, u206, u207, u208, u209, u210, u211, u212, u213, u214, u215, u216, u217, u218, u219, u220, u221, u222, u223, u224, u225, u226, u227, u228, u229, u230, u231, u232, u233, u234, u235, u236, u237, u238, u239, u240, u241, u242, u243, u244, u245, u246, u247, u248, u249, u250, u251, u252, u253, u254, u255, u256, u257, u258, u259, u260, u261, u262, u263, u264, u265, u266, u267, u268, u269, u270, u271, u272, u273, u274, u275, u276, u277, u278, u279, u280, u281, u282, u283, u284, u285, u286, u287, u288, u289, u290, u291, u292, u293, u294, u295, u296, u297, u298, u299, u300, u301, u302, u303, u304, u305, u306, u307, u308, u309, u310, u311, u312, u313, u314, u315, u316, u317, u318, u319, u320, u321, u322], defers := [] } w5 := by
  have hn1' : (n : Int) ≤ 256 := by omega
  show Code.wp Ybaf.prog (Code.seq _ _) _ _ _
  apply wp_seq_k
  intro K22 h22
  have HK : Hid (∀ a w, _ → _) := h22
  clear h22
  have x9 := hF.c1
  go_wp2_with fail
  refine HK.out _ _ ?_
  clear HK
  apply wp_seq_k
  intro K23 h23
  have HK : Hid (∀ a w, _ → _) := h23
  clear h23 x9
  go_upto_region 50 with fail
  go_loopg [35] K (fun q s35 wx => ∃ j qq : Nat, j + q = K ∧ s35 = .int .i64 (j : Int) ∧ wx = w5.drewN qq)
  case atStart => exact ⟨0, 0, by omega, rfl, rfl⟩
  case round =>
    obtain ⟨j, qq, hj, rfl, rfl⟩ := hrel
    by_cases hlt : j < K
    · have x9 := hF.c1
      obtain ⟨b, x1, x2⟩ := hF.ent j hlt
      have hja : (0 : Int) ≤ (j : Int) := by omega
      have hjb : (j : Int) < (K : Int) := by omega
      have hjc : (j : Int) < (K : Int) + 1 := by omega
      have hjd : decide ((K : Int) + 1 ≤ (j : Int)) = false := decide_eq_false (by omega)
      have q24 := Ybaf.neq24b
      go_wp2_with fail
      go_quiet (fail)
      go_wp2_with fail
      go_roundg (gk - 1)
      case measure => omega
      case rel => exact ⟨j + 1, _, by omega, by go_num, rfl⟩
    · have hjk : K = j := by omega
      subst hjk
      clear hj hlt
      go_wp2_with fail
      exact HK.out _ _ (partE2 (hF.drewN qq) hn1 hjn hK8 hkl _ _ _ _ _ _ _ _ _ _ _ _ _ _ _ _ _ _ _ _ _ _ _ _ _ _ _ _ _ _ _ _ _ _ _ _ _ _ _ _ _ _ _ _ _ _ _ _ _ _ _ _ _ _ _ _ _ _ _ _ _ _ _ _ _ _ _ _ _ _ _ _ _ _ _ _ _ _ _ _ _ _ _ _ _ _ _ _ _ _ _ _ _ _ _ _ _ _ _ _ _ _ _ _ _ _ _ _ _ _ _ _ _ _ _ _ _ _ _ _ _ _ _ _ _ _ _ _ _ _ _ _ _ _ _ _ _ _ _ _ _ _ _ _ _ _ _ _ _ _ _ _ _ _ _ _ _ _ _ _ _ _ _ _ _ _ _ _ _ _ _ _ _ _ _ _ _ _ _ _ _ _ _ _ _ _ _ _ _ _ _ _ _ _ _ _ _ _ _ _ _ _ _ _ _ _ _ _ _ _ _ _ _ _ _ _ _ _ _ _ _ _ _ _ _ _ _ _ _ _ _ _ _ _ _ _ _ _ _ _ _ _ _ _ _ _ _ _ _ _ _ _ _ _ _ _ _ _ _ _ _ _ _ _ _ _ _ _ _ _ _ _ _ _ _ _ _ _ _ _ _ _ _ _ _ _ _ _ _ _ _ _ _ _ _ _ _ _ _ _ _ _ _ _ _ _ _ _ _ _)
end Go.Proofs.YbulkaobwFmt
