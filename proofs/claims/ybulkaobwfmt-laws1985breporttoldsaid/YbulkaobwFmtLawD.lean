import Derived.Test.YbulkaobwFmtLawE
namespace Go.Proofs.YbulkaobwFmt
open Go.RowKit
set_option linter.unusedVariables false
set_option linter.unusedSimpArgs false

theorem put_length {ks : List Nat} {a m : Nat} (h : ks.length ≤ m) : (if a ∈ ks then ks else ks ++ [a]).length ≤ m + 1 := by
  split
  · omega
  · simp; omega

set_option maxHeartbeats 2000000 in
set_option maxRecDepth 100000 in
theorem partD {w w1 w2 w3 : World} {n l2 K cap ti : Nat} {ao : Option Addr} {D S N J : Nat → Nat} {L C : Nat → Int} {es : List Nat} (a5 : Option Addr) (l5 c5 : Nat) (Z5 : Nat → Int) (r5 : RowK .u8 w a5 l5 Z5) (z5 : ∀ i, i < l5 → 0 ≤ Z5 i ∧ Z5 i ≤ 255) (h5 : l5 ≤ 256) (h2 : l2 ≤ 256)
    (hE : Env w w1 n w.heap.size (w.heap.size + 1) D S N L C) (hpt : Pathed w1 w2 l2 l2 D J) (hJ : ∀ j, j < l2 → J j < n) (hL : Log w2 w3 K (D ti) K (.slice ao K cap) (.slice ao K cap) es es) (hes : es.length = K) (hn0 : 0 < n) (hn1 : n ≤ 256) (hjn : ti < n) (hK8 : K ≤ 8) (u0 u1 u2 u3 u4 u6 u7 u8 u9 u10 u11 u12 u16 u17 u18 u20 u27 u28 u29 u30 u31 u32 u33 u34 u35 u36 u37 u38 u39 u40 u41 u42 u43 u44 u45 u46 u47 u48 u49 u50 u51 u52 u53 u54 u55 u56 u57 u58 u59 u60 u61 u62 u63 u64 u65 u66 u67 u68 u69 u70 u71 u72 u73 u74 u75 u76 u77 u78 u79 u80 u81 u82 u83 u84 u85 u86 u87 u88 u89 u90 u91 u92 u93 u94 u95 u96 u97 u98 u99 u100 u101 u102 u103 u104 u105 u106 u107 u108 u109 u110 u111 u112 u113 u114 u115 u116 u117 u118 u119 u120 u121 u122 u123 u124 u125 u126 u127 u128 u129 u130 u131 u132 u133 u134 u135 u136 u137 u138 u139 u140 u141 u142 u143 u144 u145 u146 u147 u148 u149 u150 u151 u152 u153 u154 u155 u156 u157 u158 u159 u160 u161 u162 u163 u164 u165 u166 u167 u168 u169 u170 u171 u172 u173 u174 u175 u176 u177 u178 u179 u180 u181 u182 u183 u184 u185 u186 u187 u188 u189 u190 u191 u192 u193 u194 u195 u196 u197 u198 u199 u200 u201 u202 u203 u204 u205 u206 u207 u208 u209 u210 u211 u212 u213 u214 u215 u216 u217 u218 u219 u220 u221 u222 u223 u224 u225 u226 u227 u228 u229 u230 u231 u232 u233 u234 u235 u236 u237 u238 u239 u240 u241 u242 u243 u244 u245 u246 u247 u248 u249 u250 u251 u252 u253 u254 u255 u256 u257 u258 u259 u260 u261 u262 u263 u264 u265 u266 u267 u268 u269 u270 u271 u272 u273 u274 u275 u276 u277 u278 u279 u280 u281 u282 u283 u284 u285 u286 u287 u288 u289 u290 u291 u292 u293 u294 u295 u296 u297 u298 u299 u300 u301 u302 u303 u304 u305 u306 u307 u308 u309 u310 u311 u312 u313 u314 u315 u316 u317 u318 u319 u320 u321 u322 : Value) :
    Code.wp Ybaf.prog (tl (tl (tl (tl (tl (tl (tl (tl (tl (tl (tl (tl (tl (tl (tl (tl (Option.getD Ybaf.f4.body Code.skip))))))))))))))))) (bodyPost Ybaf.prog Ybaf.f4 fun e w' => e = .returned (.bool true) ∧ Below w.heap.size w w') { tmps := #[u0, u1, u2, u3, u4, .slice a5 l5 c5, u6, u7, u8, u9, u10, u11, u12, .int .i64 (n : Int), .slice (some ⟨w.heap.size, 0, none⟩) n n, .slice (some ⟨w.heap.size + 1, 0, none⟩) n n, u16, u17, u18, .slice (some ⟨w1.heap.size, 0, none⟩) l2 l2, u20, .int .i64 (ti : Int), .pointer (some ⟨w2.heap.size, 0, none⟩), .pointer (some ⟨w2.heap.size + 1 + 1, 0, none⟩), .pointer (some ⟨w2.heap.size + 1 + 1 + 1, 0, none⟩), .int .i64 (K : Int), .slice (some ⟨w2.heap.size + 1 + 1 + 1 + 1, 0, none⟩) K K, u27, u28, u29, u30, u31, u32, u33, u34, u35, u36, u37, u38, u39, u40, u41, u42, u43, u44, u45, u46, u47, u48, u49, u50, u51, u52, u53, u54, u55, u56, u57, u58, u59, u60, u61, u62, u63, u64, u65, u66, u67, u68, u69, u70, u71, u72, u73, u74, u75, u76, u77, u78, u79, u80, u81, u82, u83, u84, u85, u86, u87, u88, u89, u90, u91, u92, u93, u94, u95, u96, u97, u98, u99, u100, u101, u102, u103, u104, u105, u106, u107, u108, u109, u110, u111, u112, u113, u114, u115, u116, u117, u118, u119, u120, u121, u122, u123, u124, u125, u126, u127, u128, u129, u130, u131, u132, u133, u134, u135, u136, u137, u138, u139, u140, u141, u142, u143, u144, u145, u146, u147, u148, u149, u150, u151, u152, u153, u154, u155, u156, u157, u158, u159, u160, u161, u162, u163, u164, u165, u166, u167, u168, u169, u170, u171, u172, u173, u174, u175, u176, u177, u178, u179, u180, u181, u182, u183, u184, u185, u186, u187, u188, u189, u190, u191, u192, u193, u194, u195, u196, u197, u198, u199, u200, u201, u202, u203, u204, u205, u206, u207, u208, u209, u210, u211, u212, u213, u214, u215, u216, u217, u218, u219, u220, u221, u222, u223, u224, u225, u226, u227, u228, u229, u230, u231, u232, u233, u234, u235, u236, u237, u238, u239, u240, u241, u242, u243, u244, u245, u246, u247, u248, u249, u250, u251, u252, u253, u254, u255, u256, u257, u258, u259, u260, u261, u262, u263, u264, u265, u266, u267, u268, u269, u270, u271, u272, u273, u274, u275, u276, u277, u278, u279, u280, u281, u282, u283, u284, u285, u286, u287, u288, u289, u290, u291, u292, u293, u294, u295, u296, u297, u298, u299, u300, u301, u302, u303, u304, u305, u306, u307, u308, u309, u310, u311, u312, u313, u314, u315, u316, u317, u318, u319, u320, u321, u322], defers := [] } w3 := by
  have hn1' : (n : Int) ≤ 256 := by omega
  have hti0 : (0 : Int) ≤ (ti : Int) := by omega
  have hti1 : (ti : Int) < (n : Int) := by omega
  have hE2 := hE.below hpt.bel
  have hE3 := hE2.below hL.bel
  have hmm := @run_makeMap Ybaf.prog
  have hmk := run_make_row' (P := Ybaf.prog) 82 4 (.bool false) 1 Ybaf.underlying82 Ybaf.info4 rfl .i64 .i64 n (by omega) (by omega)
  -- 16
  show Code.wp Ybaf.prog (Code.seq _ _) _ _ _
  apply wp_seq_k
  intro K16 h16
  have HK : Hid (∀ a w, _ → _) := h16
  clear h16
  go_wp2_with fail
  refine HK.out _ _ ?_
  clear HK
  -- 17
  apply wp_seq_k
  intro K17 h17
  have HK : Hid (∀ a w, _ → _) := h17
  clear h17
  go_wp2_with fail
  refine HK.out _ _ ?_
  clear HK
  -- 18
  apply wp_seq_k
  intro K18 h18
  have HK : Hid (∀ a w, _ → _) := h18
  clear h18 hmm hmk
  go_upto_region 39 with fail
  have hM := Marks.made w3 n (w2.heap.size + 1 + 1 + 1) D
  go_loopg [31, 32] l5 (fun q s31 s32 wx => ∃ (m : Nat) (ks : List Nat), m + q = l5 ∧ ks.length ≤ m ∧ s31 = .int .i64 (m : Int) ∧ Marks w3 wx n (w2.heap.size + 1 + 1 + 1) D ks)
  case atStart => exact ⟨0, [], by omega, by simp, rfl, hM⟩
  case round =>
    clear hM
    obtain ⟨m, ks, hm, hkl, rfl, hM⟩ := hrel
    by_cases hlt : m < l5
    · have hm0 : (0 : Int) ≤ (m : Int) := by omega
      have hm1 : (m : Int) < (l5 : Int) := by omega
      obtain ⟨b, off, rfl, hc⟩ := r5.at (hE3.below hM.bel).bel hlt
      have hz := z5 m hlt
      have hj : Z5 m % (n : Int) = ((Z5 m % (n : Int)).toNat : Int) := by have := Int.emod_nonneg (Z5 m) (show (n : Int) ≠ 0 by omega); omega
      have hjm : (Z5 m % (n : Int)).toNat < n := by have := Int.emod_lt_of_pos (Z5 m) (show (0 : Int) < (n : Int) by omega); omega
      generalize (Z5 m % (n : Int)).toNat = jm at hj hjm
      have hj0 : (0 : Int) ≤ (jm : Int) := by omega
      have hj1 : (jm : Int) < (n : Int) := by omega
      have hM1 := hM.store jm
      obtain ⟨F, hF, hF2⟩ := hM.was
      have y0 := hF.cell hjm
      have y1 := hF.frozen jm
      clear hF hF2 hM
      go_upto_region 43 with fail
      clear y0 y1 hc
      generalize (wr.setCell ⟨w3.heap.size + 1 + 1 + 1, jm, none⟩ (.bool true)) = W1 at hM1 ⊢
      have hM2 := hM1.drew
      have hE4 := hE3.below hM2.bel
      have hdc := hE4.dc jm hjm
      obtain ⟨W2, hrun, hmp, hg⟩ := hM2.map.put (fun x hx => by obtain ⟨j, hj, rfl⟩ := hM2.keys x hx; exact (hE4.nm j hj).cells) (hE4.nm jm hjm).cells
      have hM3 := hM2.put hjm hE.inj hmp hg
      simp only [ptr] at hrun
      have hdc3 := (hE3.below hM3.bel).dc jm hjm
      go_region_held3 (fun w' => w'.cell? ⟨w3.heap.size + 1 + 1, 2, none⟩ = some (.map (some (w3.heap.size + 1))) ∧ w'.cell? ⟨w.heap.size, jm, none⟩ = some (.pointer (some ⟨D jm, 0, none⟩))) (first | exact ⟨hM2.w2, hdc⟩ | exact ⟨hM3.w2, hdc3⟩) (fail)
      clear hrun hmp hg hM1 hM2 hE4 hdc hdc3
      go_wp2_with fail
      go_roundg (gk - 1)
      case measure => omega
      case rel => exact ⟨m + 1, _, by omega, put_length hkl, by go_num, hM3⟩
    · have hml : l5 = m := by omega
      subst hml
      clear hm hlt
      go_wp2_with fail
      refine HK.out _ _ ?_
      clear HK
      -- 19
      apply wp_seq_k
      intro K19 h19
      have HK : Hid (∀ a w, _ → _) := h19
      clear h19
      have hlen := hM.map.len
      have w2c := hM.w2
      go_wp2_with fail
      refine HK.out _ _ ?_
      clear HK hlen w2c
      -- 20
      apply wp_seq_k
      intro K20 h20
      have HK : Hid (∀ a w, _ → _) := h20
      clear h20
      obtain ⟨F, hF, hF2⟩ := hM.was
      have wc := hF.cell hjn
      rw [hF2 ti hjn] at wc
      clear hF hF2
      go_wp2_with fail
      refine HK.out _ _ ?_
      clear HK wc
      -- 21
      apply wp_seq_k
      intro K21 h21
      have HK : Hid (∀ a w, _ → _) := h21
      clear h21
      have hRep := rep_of (cb := 0) hE hpt hJ hL hM hjn
      have hAp := apart_of hE hpt hL hjn
      go_wp2_with (first | (go_at_call 8; refine (report_any hRep hAp hK8 (by omega) (Nat.le_refl _)).mono ?_; rintro e w5 ⟨rfl, g, cap', eb, hR⟩))
      have hFin := fin_of hE hpt hL hes hM hjn hR
      exact HK.out _ _ (partE hFin hn1 hjn hK8 (by omega) _ _ _ _ _ _ _ _ _ _ _ _ _ _ _ _ _ _ _ _ _ _ _ _ _ _ _ _ _ _ _ _ _ _ _ _ _ _ _ _ _ _ _ _ _ _ _ _ _ _ _ _ _ _ _ _ _ _ _ _ _ _ _ _ _ _ _ _ _ _ _ _ _ _ _ _ _ _ _ _ _ _ _ _ _ _ _ _ _ _ _ _ _ _ _ _ _ _ _ _ _ _ _ _ _ _ _ _ _ _ _ _ _ _ _ _ _ _ _ _ _ _ _ _ _ _ _ _ _ _ _ _ _ _ _ _ _ _ _ _ _ _ _ _ _ _ _ _ _ _ _ _ _ _ _ _ _ _ _ _ _ _ _ _ _ _ _ _ _ _ _ _ _ _ _ _ _ _ _ _ _ _ _ _ _ _ _ _ _ _ _ _ _ _ _ _ _ _ _ _ _ _ _ _ _ _ _ _ _ _ _ _ _ _ _ _ _ _ _ _ _ _ _ _ _ _ _ _ _ _ _ _ _ _ _ _ _ _ _ _ _ _ _ _ _ _ _ _ _ _ _ _ _ _ _ _ _ _ _ _ _ _ _ _ _ _ _ _ _ _ _ _ _ _ _ _ _ _ _ _ _ _ _ _ _ _ _ _ _ _ _ _ _ _ _ _ _ _ _ _ _ _ _ _ _ _ _ _ _ _)
end Go.Proofs.YbulkaobwFmt
