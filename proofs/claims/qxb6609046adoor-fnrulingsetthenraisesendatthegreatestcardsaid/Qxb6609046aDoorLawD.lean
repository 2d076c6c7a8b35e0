/-
  THE WALK OF THE LAW (3), A STRETCH OF IT: from its statement number 20 on (counted from nought, at the top of the body).
-/
import Derived.Test.Qxb6609046aDoorLawE
import Derived.Deep.DeepCutAuto
import Derived.Deep.CutBlock
import Derived.Deep.RegionHeld3
import Derived.WalkSpells
namespace Go.Proofs.Qxb6609046aDoor
open Go.RowKit
set_option linter.unusedVariables false

set_option maxRecDepth 100000 in
set_option maxHeartbeats 8000000 in
theorem law_votes (l c s : Int) (t1 t2 t4 t5 t7 t8 : ByteArray) (a9 a10 a11 : Option Addr) (n k9 k10 k11 : Nat) (X9 : Nat → Int) (T10 T11 : Nat → ByteArray) (low : Int) (w wc : World) (h9 : IsInts w a9 n X9) (h11 : IsStrs w a11 n T11) (q9 : ¬ (4096 : Int) < n) (hR : Rul wc w.heap.size (levTo s X9 n) (ruleTo s X9 t7 T10 n) (voteTo s X9 (voteOf t2 t8) T11 n) (.pointer none) low) (hB : Below w.heap.size w wc)
    (u12 u13 u14 u15 u16 u17 u18 u19 u20 u21 u22 u23 u24 u25 u26 u27 u30 u31 u33 u35 u36 u37 u38 u39 u40 u41 u42 u43 u44 u45 u46 u47 u48 u49 u50 u51 u52 u53 u54 u55 u56 u57 u58 u59 u60 u61 u62 u63 u64 u65 u66 u67 u68 u69 u70 u71 u72 u73 u74 u75 u76 u77 u78 u79 u80 u81 u82 u83 u84 u85 u86 u87 u88 u89 u90 u91 u92 u93 u94 u95 u96 u97 u98 u99 u100 u101 u102 u103 u104 u105 u106 u107 u108 u109 u110 u111 u112 u113 u114 u115 u116 u117 u118 u119 u120 u121 u122 u123 u124 u125 u126 u127 u128 u129 u130 u131 u132 u133 u134 u135 u136 u137 u138 u139 u140 u141 u142 u143 u144 u145 u146 u147 u148 u149 u150 u151 u152 u153 u154 u155 u156 u157 u158 u159 u160 u161 u162 u163 u164 u165 u166 u167 u168 u169 u170 u171 u172 u173 u174 u175 u176 u177 u178 u179 u180 u181 u182 u183 u184 u185 u186 u187 u188 u189 u190 u191 u192 u193 u194 u195 u196 u197 u198 u199 u200 u201 u202 u203 u204 u205 u206 u207 u208 u209 u210 u211 u212 u213 u214 u215 u216 u217 u218 u219 u220 u221 u222 u223 u224 u225 u226 u227 u228 u229 u230 u231 u232 u233 u234 u235 u236 u237 u238 u239 u240 u241 u242 u243 u244 u245 u246 u247 u248 u249 u250 u251 u252 u253 u254 u255 u256 u257 u258 u259 u260 u261 u262 u263 u264 u265 u266 u267 u268 u269 u270 u271 u272 u273 u274 u275 u276 u277 u278 u279 u280 u281 u282 u283 u284 u285 u286 u287 u288 u289 u290 u291 u292 u293 u294 u295 u296 u297 u298 u299 u300 u301 u302 u303 u304 u305 u306 u307 u308 u309 u310 u311 u312 u313 u314 u315 u316 u317 u318 u319 u320 u321 u322 u323 u324 u325 u326 u327 u328 u329 u330 u331 u332 u333 u334 u335 u336 u337 u338 u339 u340 u341 u342 u343 u344 u345 u346 u347 u348 u349 u350 u351 u352 u353 u354 u355 u356 u357 u358 u359 u360 u361 u362 u363 u364 u365 u366 u367 u368 u369 u370 u371 u372 u373 u374 u375 u376 u377 u378 u379 u380 u381 u382 u383 u384 u385 u386 : Value) :
    Code.wp Tryd.prog (dropSeq 20 (Tryd.f3.body.getD .skip)) (bodyPost Tryd.prog Tryd.f3 fun e w' => e = .returned (.bool true) ∧ Below w.heap.size w w')
      { tmps := #[.int .i64 l, .string t1, .string t2, .int .i64 c, .string t4, .string t5, .int .i64 s, .string t7, .string t8, .slice a9 n k9, .slice a10 n k10, .slice a11 n k11, u12, u13, u14, u15, u16, u17, u18, u19, u20, u21, u22, u23, u24, u25, u26, u27, .pointer (some ⟨w.heap.size, 0, none⟩), .int .i64 low, u30, u31, .int .i64 (levTo s X9 n), u33, .string (ruleTo s X9 t7 T10 n), u35, u36, u37, u38, u39, u40, u41, u42, u43, u44, u45, u46, u47, u48, u49, u50, u51, u52, u53, u54, u55, u56, u57, u58, u59, u60, u61, u62, u63, u64, u65, u66, u67, u68, u69, u70, u71, u72, u73, u74, u75, u76, u77, u78, u79, u80, u81, u82, u83, u84, u85, u86, u87, u88, u89, u90, u91, u92, u93, u94, u95, u96, u97, u98, u99, u100, u101, u102, u103, u104, u105, u106, u107, u108, u109, u110, u111, u112, u113, u114, u115, u116, u117, u118, u119, u120, u121, u122, u123, u124, u125, u126, u127, u128, u129, u130, u131, u132, u133, u134, u135, u136, u137, u138, u139, u140, u141, u142, u143, u144, u145, u146, u147, u148, u149, u150, u151, u152, u153, u154, u155, u156, u157, u158, u159, u160, u161, u162, u163, u164, u165, u166, u167, u168, u169, u170, u171, u172, u173, u174, u175, u176, u177, u178, u179, u180, u181, u182, u183, u184, u185, u186, u187, u188, u189, u190, u191, u192, u193, u194, u195, u196, u197, u198, u199, u200, u201, u202, u203, u204, u205, u206, u207, u208, u209, u210, u211, u212, u213, u214, u215, u216, u217, u218, u219, u220, u221, u222, u223, u224, u225, u226, u227, u228, u229, u230, u231, u232, u233, u234, u235, u236, u237, u238, u239, u240, u241, u242, u243, u244, u245, u246, u247, u248, u249, u250, u251, u252, u253, u254, u255, u256, u257, u258, u259, u260, u261, u262, u263, u264, u265, u266, u267, u268, u269, u270, u271, u272, u273, u274, u275, u276, u277, u278, u279, u280, u281, u282, u283, u284, u285, u286, u287, u288, u289, u290, u291, u292, u293, u294, u295, u296, u297, u298, u299, u300, u301, u302, u303, u304, u305, u306, u307, u308, u309, u310, u311, u312, u313, u314, u315, u316, u317, u318, u319, u320, u321, u322, u323, u324, u325, u326, u327, u328, u329, u330, u331, u332, u333, u334, u335, u336, u337, u338, u339, u340, u341, u342, u343, u344, u345, u346, u347, u348, u349, u350, u351, u352, u353, u354, u355, u356, u357, u358, u359, u360, u361, u362, u363, u364, u365, u366, u367, u368, u369, u370, u371, u372, u373, u374, u375, u376, u377, u378, u379, u380, u381, u382, u383, u384, u385, u386], defers := [] } wc := by
  conv => arg 2; whnf
  have H9 : Hid (IsInts w a9 n X9) := h9
  have H11 : Hid (IsStrs w a11 n T11) := h11
  have HR : Hid (Rul wc w.heap.size (levTo s X9 n) (ruleTo s X9 t7 T10 n) (voteTo s X9 (voteOf t2 t8) T11 n) (.pointer none) low) := hR
  clear h9 h11 hR
  go_upto_if 310 with fail
  go_cut [36] from 309 to 311 (fun s36 w2 => s36 = .string (voteOf t2 t8) ∧ w2 = wc)
  case first =>
    cases hv : (!t8.toList.isEmpty)
    · have HE : Hid (t2 = voteOf t2 t8) := (vote_none hv).symm
      go_wp2
      go_meet
      case rel => exact ⟨congrArg Value.string HE.out, rfl⟩
    · have HE : Hid (t8 = voteOf t2 t8) := (vote_some hv).symm
      go_wp2
      go_meet
      case rel => exact ⟨congrArg Value.string HE.out, rfl⟩
  case rest =>
    obtain ⟨rfl, hwd⟩ := hcut
    subst hwd
    go_upto_block 10 with fail
    go_cut [36, 37, 38] (fun s36 s37 s38 w2 => s36 = .string (voteTo s X9 (voteOf t2 t8) T11 n) ∧ w2 = wc)
    case first =>
      go_wp2
      go_loop [36, 37, 38] (fun vt rc i => ∃ j : Nat, j ≤ n ∧ i = .int .i64 j ∧ rc = .int .i64 (levTo s X9 j) ∧ vt = .string (voteTo s X9 (voteOf t2 t8) T11 j)) (fun _ _ i => n - (intOf i).toNat)
      case atStart => exact ⟨0, Nat.zero_le _, rfl, rfl, rfl⟩
      case round =>
        obtain ⟨j, hj, rfl, rfl, rfl⟩ := hrel
        by_cases hlt : j < n
        · obtain ⟨b9, o9, e9, hb9, c9, _⟩ := H9.out.2 j hlt
          obtain ⟨b11, o11, e11, hb11, c11, _⟩ := H11.out.2 j hlt
          subst e9 e11
          have c9' := (hB.cell (p := ⟨b9, o9 + j, none⟩) (by exact hb9)).trans c9
          have c11' := (hB.cell (p := ⟨b11, o11 + j, none⟩) (by exact hb11)).trans c11
          clear c9 c11
          by_cases hge : X9 j < levTo s X9 j
          · have HE : Hid (levTo s X9 (j + 1) = levTo s X9 j) := lev_low hge
            have HV : Hid (voteTo s X9 (voteOf t2 t8) T11 (j + 1) = voteTo s X9 (voteOf t2 t8) T11 j) := voteTo_low hge
            go_wp2
            go_round
            case rel => exact ⟨j + 1, by omega, by go_num, by rw [HE.out], by rw [HV.out]⟩
            case measure => simp [intOf]; omega
          · have HE : Hid (levTo s X9 (j + 1) = X9 j) := lev_up hge
            have hV := voteTo_up (v0 := voteOf t2 t8) (V := T11) hge
            cases hv : (!(T11 j).toList.isEmpty)
            · rw [vote_none hv] at hV
              have HV : Hid (voteTo s X9 (voteOf t2 t8) T11 (j + 1) = voteTo s X9 (voteOf t2 t8) T11 j) := hV
              clear hV
              go_wp2
              go_round
              case rel => exact ⟨j + 1, by omega, by go_num, by rw [HE.out], by rw [HV.out]⟩
              case measure => simp [intOf]; omega
            · rw [vote_some hv] at hV
              have HV : Hid (voteTo s X9 (voteOf t2 t8) T11 (j + 1) = T11 j) := hV
              clear hV
              go_wp2
              go_round
              case rel => exact ⟨j + 1, by omega, by go_num, by rw [HE.out], by rw [HV.out]⟩
              case measure => simp [intOf]; omega
        · obtain rfl : n = j := by omega
          go_wp2
          go_meet
          case rel => exact ⟨rfl, rfl⟩
    case rest =>
      obtain ⟨rfl, hwe⟩ := hcut
      subst hwe
      apply_assumption
      exact law_end l c s t1 t2 t4 t5 t7 t8 a9 a10 a11 n k9 k10 k11 X9 T10 T11 low _ _ _ w _ HR.out hB _ _ _ _ _ _ _ _ _ _ _ _ _ _ _ _ _ _ _ _ _ _ _ _ _ _ _ _ _ _ _ _ _ _ _ _ _ _ _ _ _ _ _ _ _ _ _ _ _ _ _ _ _ _ _ _ _ _ _ _ _ _ _ _ _ _ _ _ _ _ _ _ _ _ _ _ _ _ _ _ _ _ _ _ _ _ _ _ _ _ _ _ _ _ _ _ _ _ _ _ _ _ _ _ _ _ _ _ _ _ _ _ _ _ _ _ _ _ _ _ _ _ _ _ _ _ _ _ _ _ _ _ _ _ _ _ _ _ _ _ _ _ _ _ _ _ _ _ _ _ _ _ _ _ _ _ _ _ _ _ _ _ _ _ _ _ _ _ _ _ _ _ _ _ _ _ _ _ _ _ _ _ _ _ _ _ _ _ _ _ _ _ _ _ _ _ _ _ _ _ _ _ _ _ _ _ _ _ _ _ _ _ _ _ _ _ _ _ _ _ _ _ _ _ _ _ _ _ _ _ _ _ _ _ _ _ _ _ _ _ _ _ _ _ _ _ _ _ _ _ _ _ _ _ _ _ _ _ _ _ _ _ _ _ _ _ _ _ _ _ _ _ _ _ _ _ _ _ _ _ _ _ _ _ _ _ _ _ _ _ _ _ _ _ _ _ _ _ _ _ _ _ _ _ _ _ _ _ _ _ _ _ _ _ _ _ _ _ _ _ _ _ _ _ _ _ _ _ _ _ _ _ _ _ _ _ _ _ _ _ _ _ _ _ _ _ _ _ _ _ _ _ _ _ _ _ _ _ _ _ _ _ _ _ _ _ _ _ _ _
end Go.Proofs.Qxb6609046aDoor
