/-
  THE WALK OF THE LAW (3), A STRETCH OF IT: from its statement number 5 on (counted from nought, at the top of the body).
-/
import Derived.Test.Qxb6609046aDoorLawT
namespace Go.Proofs.Qxb6609046aDoor
open Go.RowKit
set_option linter.unusedVariables false

set_option maxRecDepth 100000 in
set_option maxHeartbeats 8000000 in
theorem law_sums (l c s : Int) (t1 t2 t4 t5 t7 t8 : ByteArray) (a9 a10 a11 : Option Addr) (l9 l10 l11 k9 k10 k11 : Nat) (X9 : Nat → Int) (T10 T11 : Nat → ByteArray) (w : World) (h9 : IsInts w a9 l9 X9) (h10 : IsStrs w a10 l10 T10) (h11 : IsStrs w a11 l11 T11) (s10 : Short l10 T10) (s11 : Short l11 T11) (q9 : ¬ (4096 : Int) < l9) (q10 : ¬ (4096 : Int) < l10) (q11 : ¬ (4096 : Int) < l11) (hN : Names w) (hw0 : 0 < w.heap.size)
    (u12 u13 u14 u15 u16 u17 u18 u19 u20 u21 u22 u23 u24 u26 u27 u28 u29 u30 u31 u32 u33 u34 u35 u36 u37 u38 u39 u40 u41 u42 u43 u44 u45 u46 u47 u48 u49 u50 u51 u52 u53 u54 u55 u56 u57 u58 u59 u60 u61 u62 u63 u64 u65 u66 u67 u68 u69 u70 u71 u72 u73 u74 u75 u76 u77 u78 u79 u80 u81 u82 u83 u84 u85 u86 u87 u88 u89 u90 u91 u92 u93 u94 u95 u96 u97 u98 u99 u100 u101 u102 u103 u104 u105 u106 u107 u108 u109 u110 u111 u112 u113 u114 u115 u116 u117 u118 u119 u120 u121 u122 u123 u124 u125 u126 u127 u128 u129 u130 u131 u132 u133 u134 u135 u136 u137 u138 u139 u140 u141 u142 u143 u144 u145 u146 u147 u148 u149 u150 u151 u152 u153 u154 u155 u156 u157 u158 u159 u160 u161 u162 u163 u164 u165 u166 u167 u168 u169 u170 u171 u172 u173 u174 u175 u176 u177 u178 u179 u180 u181 u182 u183 u184 u185 u186 u187 u188 u189 u190 u191 u192 u193 u194 u195 u196 u197 u198 u199 u200 u201 u202 u203 u204 u205 u206 u207 u208 u209 u210 u211 u212 u213 u214 u215 u216 u217 u218 u219 u220 u221 u222 u223 u224 u225 u226 u227 u228 u229 u230 u231 u232 u233 u234 u235 u236 u237 u238 u239 u240 u241 u242 u243 u244 u245 u246 u247 u248 u249 u250 u251 u252 u253 u254 u255 u256 u257 u258 u259 u260 u261 u262 u263 u264 u265 u266 u267 u268 u269 u270 u271 u272 u273 u274 u275 u276 u277 u278 u279 u280 u281 u282 u283 u284 u285 u286 u287 u288 u289 u290 u291 u292 u293 u294 u295 u296 u297 u298 u299 u300 u301 u302 u303 u304 u305 u306 u307 u308 u309 u310 u311 u312 u313 u314 u315 u316 u317 u318 u319 u320 u321 u322 u323 u324 u325 u326 u327 u328 u329 u330 u331 u332 u333 u334 u335 u336 u337 u338 u339 u340 u341 u342 u343 u344 u345 u346 u347 u348 u349 u350 u351 u352 u353 u354 u355 u356 u357 u358 u359 u360 u361 u362 u363 u364 u365 u366 u367 u368 u369 u370 u371 u372 u373 u374 u375 u376 u377 u378 u379 u380 u381 u382 u383 u384 u385 u386 : Value) :
    Code.wp Tryd.prog (dropSeq 5 (Tryd.f3.body.getD .skip)) (bodyPost Tryd.prog Tryd.f3 fun e w' => e = .returned (.bool true) ∧ Below w.heap.size w w')
      { tmps := #[.int .i64 l, .string t1, .string t2, .int .i64 c, .string t4, .string t5, .int .i64 s, .string t7, .string t8, .slice a9 l9 k9, .slice a10 l10 k10, .slice a11 l11 k11, u12, u13, u14, u15, u16, u17, u18, u19, u20, u21, u22, u23, u24, .int .i64 0, u26, u27, u28, u29, u30, u31, u32, u33, u34, u35, u36, u37, u38, u39, u40, u41, u42, u43, u44, u45, u46, u47, u48, u49, u50, u51, u52, u53, u54, u55, u56, u57, u58, u59, u60, u61, u62, u63, u64, u65, u66, u67, u68, u69, u70, u71, u72, u73, u74, u75, u76, u77, u78, u79, u80, u81, u82, u83, u84, u85, u86, u87, u88, u89, u90, u91, u92, u93, u94, u95, u96, u97, u98, u99, u100, u101, u102, u103, u104, u105, u106, u107, u108, u109, u110, u111, u112, u113, u114, u115, u116, u117, u118, u119, u120, u121, u122, u123, u124, u125, u126, u127, u128, u129, u130, u131, u132, u133, u134, u135, u136, u137, u138, u139, u140, u141, u142, u143, u144, u145, u146, u147, u148, u149, u150, u151, u152, u153, u154, u155, u156, u157, u158, u159, u160, u161, u162, u163, u164, u165, u166, u167, u168, u169, u170, u171, u172, u173, u174, u175, u176, u177, u178, u179, u180, u181, u182, u183, u184, u185, u186, u187, u188, u189, u190, u191, u192, u193, u194, u195, u196, u197, u198, u199, u200, u201, u202, u203, u204, u205, u206, u207, u208, u209, u210, u211, u212, u213, u214, u215, u216, u217, u218, u219, u220, u221, u222, u223, u224, u225, u226, u227, u228, u229, u230, u231, u232, u233, u234, u235, u236, u237, u238, u239, u240, u241, u242, u243, u244, u245, u246, u247, u248, u249, u250, u251, u252, u253, u254, u255, u256, u257, u258, u259, u260, u261, u262, u263, u264, u265, u266, u267, u268, u269, u270, u271, u272, u273, u274, u275, u276, u277, u278, u279, u280, u281, u282, u283, u284, u285, u286, u287, u288, u289, u290, u291, u292, u293, u294, u295, u296, u297, u298, u299, u300, u301, u302, u303, u304, u305, u306, u307, u308, u309, u310, u311, u312, u313, u314, u315, u316, u317, u318, u319, u320, u321, u322, u323, u324, u325, u326, u327, u328, u329, u330, u331, u332, u333, u334, u335, u336, u337, u338, u339, u340, u341, u342, u343, u344, u345, u346, u347, u348, u349, u350, u351, u352, u353, u354, u355, u356, u357, u358, u359, u360, u361, u362, u363, u364, u365, u366, u367, u368, u369, u370, u371, u372, u373, u374, u375, u376, u377, u378, u379, u380, u381, u382, u383, u384, u385, u386], defers := [] } w := by
  conv => arg 2; whnf
  have H9 : Hid (IsInts w a9 l9 X9) := h9
  have H10 : Hid (IsStrs w a10 l10 T10) := h10
  have H11 : Hid (IsStrs w a11 l11 T11) := h11
  have S10 : Hid (Short l10 T10) := s10
  have S11 : Hid (Short l11 T11) := s11
  have HN : Hid (Names w) := hN
  clear h9 h10 h11 s10 s11 hN
  go_upto_block 0 with fail
  go_cut [25, 26] (fun s25 s26 w2 => (∃ z : Int, s25 = .int .i64 z ∧ 0 ≤ z ∧ z ≤ 524288) ∧ w2 = w)
  case first =>
    go_wp2
    go_loop [25, 26] (fun n i => ∃ (k : Nat) (z : Int), k ≤ l10 ∧ 0 ≤ z ∧ z ≤ 524288 ∧ i = .int .i64 k ∧ n = .int .i64 z) (fun _ i => l10 - (intOf i).toNat)
    case atStart => exact ⟨0, _, Nat.zero_le _, by omega, by omega, rfl, rfl⟩
    case round =>
      obtain ⟨k, z, hk, hz0, hz1, rfl, rfl⟩ := hrel
      by_cases hlt : k < l10
      · obtain ⟨b, off, ha, hb, hc, _⟩ := H10.out.2 k hlt
        subst ha
        have hs := S10.out k hlt
        go_wp2
        · go_ret
          exact ⟨rfl, Below.refl _ _⟩
        go_round
        case rel => exact ⟨k + 1, _, by omega, by omega, by omega, by go_num, rfl⟩
        case measure => simp [intOf]; omega
      · go_wp2
        go_meet
        case rel => exact ⟨⟨z, rfl, hz0, hz1⟩, rfl⟩
  case rest =>
    obtain ⟨⟨z, rfl, hz0, hz1⟩, hw1⟩ := hcut
    subst hw1
    go_upto_block 2 with fail
    go_cut [25, 27] (fun s25 s27 w2 => w2 = wc)
    case first =>
      go_wp2
      go_loop [25, 27] (fun n i => ∃ (k : Nat) (z : Int), k ≤ l11 ∧ 0 ≤ z ∧ z ≤ 524288 ∧ i = .int .i64 k ∧ n = .int .i64 z) (fun _ i => l11 - (intOf i).toNat)
      case atStart => exact ⟨0, _, Nat.zero_le _, by omega, by omega, rfl, rfl⟩
      case round =>
        obtain ⟨k', z', hk', hz0', hz1', rfl, rfl⟩ := hrel
        by_cases hlt' : k' < l11
        · obtain ⟨b, off, ha, hb, hc, _⟩ := H11.out.2 k' hlt'
          subst ha
          have hs := S11.out k' hlt'
          go_wp2
          · go_ret
            exact ⟨rfl, Below.refl _ _⟩
          go_round
          case rel => exact ⟨k' + 1, _, by omega, by omega, by omega, by go_num, rfl⟩
          case measure => simp [intOf]; omega
        · go_wp2
          go_meet
          case rel => exact rfl
    case rest =>
      subst hcut
      apply_assumption
      exact law_checks l c s t1 t2 t4 t5 t7 t8 a9 a10 a11 l9 l10 l11 k9 k10 k11 X9 T10 T11 _ H9.out H10.out H11.out (by omega) (by omega) (by omega) HN.out hw0 _ _ _ _ _ _ _ _ _ _ _ _ _ _ _ _ _ _ _ _ _ _ _ _ _ _ _ _ _ _ _ _ _ _ _ _ _ _ _ _ _ _ _ _ _ _ _ _ _ _ _ _ _ _ _ _ _ _ _ _ _ _ _ _ _ _ _ _ _ _ _ _ _ _ _ _ _ _ _ _ _ _ _ _ _ _ _ _ _ _ _ _ _ _ _ _ _ _ _ _ _ _ _ _ _ _ _ _ _ _ _ _ _ _ _ _ _ _ _ _ _ _ _ _ _ _ _ _ _ _ _ _ _ _ _ _ _ _ _ _ _ _ _ _ _ _ _ _ _ _ _ _ _ _ _ _ _ _ _ _ _ _ _ _ _ _ _ _ _ _ _ _ _ _ _ _ _ _ _ _ _ _ _ _ _ _ _ _ _ _ _ _ _ _ _ _ _ _ _ _ _ _ _ _ _ _ _ _ _ _ _ _ _ _ _ _ _ _ _ _ _ _ _ _ _ _ _ _ _ _ _ _ _ _ _ _ _ _ _ _ _ _ _ _ _ _ _ _ _ _ _ _ _ _ _ _ _ _ _ _ _ _ _ _ _ _ _ _ _ _ _ _ _ _ _ _ _ _ _ _ _ _ _ _ _ _ _ _ _ _ _ _ _ _ _ _ _ _ _ _ _ _ _ _ _ _ _ _ _ _ _ _ _ _ _ _ _ _ _ _ _ _ _ _ _ _ _ _ _ _ _ _ _ _ _ _ _ _ _ _ _ _ _ _ _ _ _ _ _ _ _ _ _ _ _ _ _ _ _ _ _ _ _ _ _ _ _ _ _ _ _ _ _ _ _
end Go.Proofs.Qxb6609046aDoor
