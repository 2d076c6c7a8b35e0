/-
  THE WALK OF THE LAW (3), A STRETCH OF IT: from its statement number 13 on (counted from nought, at the top of the body).
-/
import Derived.Test.Qxb6609046aDoorLawC
import Derived.Deep.DeepCutAuto
import Derived.Deep.CutBlock
import Derived.Deep.RegionHeld3
import Derived.WalkSpells
namespace Go.Proofs.Qxb6609046aDoor
open Go.RowKit
set_option linter.unusedVariables false

set_option maxRecDepth 100000 in
set_option maxHeartbeats 8000000 in
theorem law_raises (l c s : Int) (t1 t2 t4 t5 t7 t8 : ByteArray) (a9 a10 a11 : Option Addr) (n k9 k10 k11 : Nat) (X9 : Nat → Int) (T10 T11 : Nat → ByteArray) (L low : Int) (ex : Value) (w wc : World) (h9 : IsInts w a9 n X9) (h10 : IsStrs w a10 n T10) (h11 : IsStrs w a11 n T11) (q9 : ¬ (4096 : Int) < n) (hR : Rul wc w.heap.size L t1 t2 ex low) (hB : Below w.heap.size w wc)
    (u12 u13 u14 u15 u16 u17 u18 u19 u20 u21 u22 u23 u24 u25 u26 u27 u30 u31 u32 u33 u34 u35 u36 u37 u38 u39 u40 u41 u42 u43 u44 u45 u46 u47 u48 u49 u50 u51 u52 u53 u54 u55 u56 u57 u58 u59 u60 u61 u62 u63 u64 u65 u66 u67 u68 u69 u70 u71 u72 u73 u74 u75 u76 u77 u78 u79 u80 u81 u82 u83 u84 u85 u86 u87 u88 u89 u90 u91 u92 u93 u94 u95 u96 u97 u98 u99 u100 u101 u102 u103 u104 u105 u106 u107 u108 u109 u110 u111 u112 u113 u114 u115 u116 u117 u118 u119 u120 u121 u122 u123 u124 u125 u126 u127 u128 u129 u130 u131 u132 u133 u134 u135 u136 u137 u138 u139 u140 u141 u142 u143 u144 u145 u146 u147 u148 u149 u150 u151 u152 u153 u154 u155 u156 u157 u158 u159 u160 u161 u162 u163 u164 u165 u166 u167 u168 u169 u170 u171 u172 u173 u174 u175 u176 u177 u178 u179 u180 u181 u182 u183 u184 u185 u186 u187 u188 u189 u190 u191 u192 u193 u194 u195 u196 u197 u198 u199 u200 u201 u202 u203 u204 u205 u206 u207 u208 u209 u210 u211 u212 u213 u214 u215 u216 u217 u218 u219 u220 u221 u222 u223 u224 u225 u226 u227 u228 u229 u230 u231 u232 u233 u234 u235 u236 u237 u238 u239 u240 u241 u242 u243 u244 u245 u246 u247 u248 u249 u250 u251 u252 u253 u254 u255 u256 u257 u258 u259 u260 u261 u262 u263 u264 u265 u266 u267 u268 u269 u270 u271 u272 u273 u274 u275 u276 u277 u278 u279 u280 u281 u282 u283 u284 u285 u286 u287 u288 u289 u290 u291 u292 u293 u294 u295 u296 u297 u298 u299 u300 u301 u302 u303 u304 u305 u306 u307 u308 u309 u310 u311 u312 u313 u314 u315 u316 u317 u318 u319 u320 u321 u322 u323 u324 u325 u326 u327 u328 u329 u330 u331 u332 u333 u334 u335 u336 u337 u338 u339 u340 u341 u342 u343 u344 u345 u346 u347 u348 u349 u350 u351 u352 u353 u354 u355 u356 u357 u358 u359 u360 u361 u362 u363 u364 u365 u366 u367 u368 u369 u370 u371 u372 u373 u374 u375 u376 u377 u378 u379 u380 u381 u382 u383 u384 u385 u386 : Value) :
    Code.wp Tryd.prog (dropSeq 13 (Tryd.f3.body.getD .skip)) (bodyPost Tryd.prog Tryd.f3 fun e w' => e = .returned (.bool true) ∧ Below w.heap.size w w')
      { tmps := #[.int .i64 l, .string t1, .string t2, .int .i64 c, .string t4, .string t5, .int .i64 s, .string t7, .string t8, .slice a9 n k9, .slice a10 n k10, .slice a11 n k11, u12, u13, u14, u15, u16, u17, u18, u19, u20, u21, u22, u23, u24, u25, u26, u27, .pointer (some ⟨w.heap.size, 0, none⟩), .int .i64 low, u30, u31, u32, u33, u34, u35, u36, u37, u38, u39, u40, u41, u42, u43, u44, u45, u46, u47, u48, u49, u50, u51, u52, u53, u54, u55, u56, u57, u58, u59, u60, u61, u62, u63, u64, u65, u66, u67, u68, u69, u70, u71, u72, u73, u74, u75, u76, u77, u78, u79, u80, u81, u82, u83, u84, u85, u86, u87, u88, u89, u90, u91, u92, u93, u94, u95, u96, u97, u98, u99, u100, u101, u102, u103, u104, u105, u106, u107, u108, u109, u110, u111, u112, u113, u114, u115, u116, u117, u118, u119, u120, u121, u122, u123, u124, u125, u126, u127, u128, u129, u130, u131, u132, u133, u134, u135, u136, u137, u138, u139, u140, u141, u142, u143, u144, u145, u146, u147, u148, u149, u150, u151, u152, u153, u154, u155, u156, u157, u158, u159, u160, u161, u162, u163, u164, u165, u166, u167, u168, u169, u170, u171, u172, u173, u174, u175, u176, u177, u178, u179, u180, u181, u182, u183, u184, u185, u186, u187, u188, u189, u190, u191, u192, u193, u194, u195, u196, u197, u198, u199, u200, u201, u202, u203, u204, u205, u206, u207, u208, u209, u210, u211, u212, u213, u214, u215, u216, u217, u218, u219, u220, u221, u222, u223, u224, u225, u226, u227, u228, u229, u230, u231, u232, u233, u234, u235, u236, u237, u238, u239, u240, u241, u242, u243, u244, u245, u246, u247, u248, u249, u250, u251, u252, u253, u254, u255, u256, u257, u258, u259, u260, u261, u262, u263, u264, u265, u266, u267, u268, u269, u270, u271, u272, u273, u274, u275, u276, u277, u278, u279, u280, u281, u282, u283, u284, u285, u286, u287, u288, u289, u290, u291, u292, u293, u294, u295, u296, u297, u298, u299, u300, u301, u302, u303, u304, u305, u306, u307, u308, u309, u310, u311, u312, u313, u314, u315, u316, u317, u318, u319, u320, u321, u322, u323, u324, u325, u326, u327, u328, u329, u330, u331, u332, u333, u334, u335, u336, u337, u338, u339, u340, u341, u342, u343, u344, u345, u346, u347, u348, u349, u350, u351, u352, u353, u354, u355, u356, u357, u358, u359, u360, u361, u362, u363, u364, u365, u366, u367, u368, u369, u370, u371, u372, u373, u374, u375, u376, u377, u378, u379, u380, u381, u382, u383, u384, u385, u386], defers := [] } wc := by
  conv => arg 2; whnf
  have H9 : Hid (IsInts w a9 n X9) := h9
  have H10 : Hid (IsStrs w a10 n T10) := h10
  have H11 : Hid (IsStrs w a11 n T11) := h11
  have HR : Hid (Rul wc w.heap.size L t1 t2 ex low) := hR
  have B2 := hB
  clear h9 h10 h11 hR hB
  have c1 := HR.out.c1
  have c2 := HR.out.c2
  go_wp2_with fail
  clear c1 c2
  refine (newKind_any t7 _).mono ?_
  rintro e w2 ⟨rfl, d1, d2, d3, d4, rfl⟩
  go_wp2_with fail
  refine (newEffect_any 3 s t8 ⟨#[]⟩ ⟨#[]⟩ _).mono ?_
  rintro e w2 ⟨rfl, rfl⟩
  go_wp2_with fail
  refine (zz_set w.heap.size _ L low s t1 t2 t7 t8 ⟨#[]⟩ ⟨#[]⟩ ex _ (Rul.alloc (Rul.alloc HR.out _) _) (keep_alloc (by rw [World.cell?_alloc_at _ _ _ _ rfl]; rfl))).mono ?_
  rintro e w3 ⟨rfl, hR3, hb3⟩
  have HR3 : Hid (Rul w3 w.heap.size s t7 (voteOf t2 t8) (.pointer none) low) := hR3
  have B3 : Below w.heap.size w w3 := Below.trans (by repeat (first | exact B2 | refine bel_alloc' (Nat.le_refl _) ?_ _)) hb3
  clear hR3 hb3 HR B2
  go_upto_block 4 with fail
  go_cut [31] (fun s31 w2 => Hid (Rul w2 w.heap.size (levTo s X9 n) (ruleTo s X9 t7 T10 n) (voteTo s X9 (voteOf t2 t8) T11 n) (.pointer none) low) ∧ Below w.heap.size w w2)
  case first =>
    go_wp2
    go_loopw [31] (fun i wr => ∃ k : Nat, k ≤ n ∧ i = .int .i64 k ∧ Hid (Rul wr w.heap.size (levTo s X9 k) (ruleTo s X9 t7 T10 k) (voteTo s X9 (voteOf t2 t8) T11 k) (.pointer none) low) ∧ Below w.heap.size w wr) (fun i _ => n - (intOf i).toNat)
    case atStart => exact ⟨0, Nat.zero_le _, rfl, HR3, B3⟩
    case round =>
      obtain ⟨k, hk, rfl, HRk, Bk⟩ := hrel
      clear HR3 B3
      by_cases hlt : k < n
      · obtain ⟨b9, o9, e9, hb9, c9, _⟩ := H9.out.2 k hlt
        obtain ⟨b10, o10, e10, hb10, c10, _⟩ := H10.out.2 k hlt
        obtain ⟨b11, o11, e11, hb11, c11, _⟩ := H11.out.2 k hlt
        subst e9 e10 e11
        have HK : Hid (∀ w', Below w.heap.size w w' → (w'.cell? ⟨b10, o10 + k, none⟩ = some (.string (T10 k)) ∧ w'.cell? ⟨b9, o9 + k, none⟩ = some (.int .i64 (X9 k)) ∧ w'.cell? ⟨b11, o11 + k, none⟩ = some (.string (T11 k)))) :=
          fun w' hb => ⟨(hb.cell (by exact hb10)).trans c10, (hb.cell (by exact hb9)).trans c9, (hb.cell (by exact hb11)).trans c11⟩
        clear c9 c10 c11
        have i0 : (0 : Int) ≤ (k : Int) := by omega
        have i1 : (k : Int) < (n : Int) := by omega
        go_wp2
        go_region_held3 (fun w' => w'.cell? ⟨b10, o10 + k, none⟩ = some (.string (T10 k)) ∧ w'.cell? ⟨b9, o9 + k, none⟩ = some (.int .i64 (X9 k)) ∧ w'.cell? ⟨b11, o11 + k, none⟩ = some (.string (T11 k)))
          (exact HK.out _ (by repeat (first | assumption | apply Below.drew | refine bel_alloc' (Nat.le_refl _) ?_ _)))
          ((first | (go_at_call 6; refine (newKind_any _ _).mono ?_; rintro e w4 ⟨rfl, d1, d2, d3, d4, rfl⟩) | (go_at_call 7; refine (newEffect_any _ _ _ _ _ _).mono ?_; rintro e w4 ⟨rfl, rfl⟩) | (go_at_call 5; refine (zz_least w.heap.size wr.heap.size s low X9 t7 (voteOf t2 t8) T10 T11 k _ _ _ _ (Rul.drew (Rul.alloc (Rul.alloc HRk.out _) _)) (keep_drew (keep_alloc (kind_cell _ _ _ _ _ _)))).mono ?_; rintro e w4 ⟨rfl, hR4, hb4⟩; have B4 : Below w.heap.size w w4 := Below.trans (by repeat (first | exact Bk | apply Below.drew | refine bel_alloc' (Nat.le_refl _) ?_ _)) hb4; have HR4 : Hid (Rul w4 w.heap.size (levTo s X9 (k + 1)) (ruleTo s X9 t7 T10 (k + 1)) (voteTo s X9 (voteOf t2 t8) T11 (k + 1)) (.pointer none) low) := hR4; clear hR4 hb4)))
        clear HK
        go_wp2
        go_roundw
        case rel => exact ⟨k + 1, by omega, by go_num, HR4, B4⟩
        case measure => simp [intOf]; omega
      · obtain rfl : n = k := by omega
        go_wp2
        go_meet
        case rel => exact ⟨HRk, Bk⟩
  case rest =>
    obtain ⟨HR4, B4⟩ := hcut
    clear HR3 B3
    apply_assumption
    exact law_rule l c s t1 t2 t4 t5 t7 t8 a9 a10 a11 n k9 k10 k11 X9 T10 T11 low w _ H9.out H10.out H11.out (by omega) HR4.out B4 _ _ _ _ _ _ _ _ _ _ _ _ _ _ _ _ _ _ _ _ _ _ _ _ _ _ _ _ _ _ _ _ _ _ _ _ _ _ _ _ _ _ _ _ _ _ _ _ _ _ _ _ _ _ _ _ _ _ _ _ _ _ _ _ _ _ _ _ _ _ _ _ _ _ _ _ _ _ _ _ _ _ _ _ _ _ _ _ _ _ _ _ _ _ _ _ _ _ _ _ _ _ _ _ _ _ _ _ _ _ _ _ _ _ _ _ _ _ _ _ _ _ _ _ _ _ _ _ _ _ _ _ _ _ _ _ _ _ _ _ _ _ _ _ _ _ _ _ _ _ _ _ _ _ _ _ _ _ _ _ _ _ _ _ _ _ _ _ _ _ _ _ _ _ _ _ _ _ _ _ _ _ _ _ _ _ _ _ _ _ _ _ _ _ _ _ _ _ _ _ _ _ _ _ _ _ _ _ _ _ _ _ _ _ _ _ _ _ _ _ _ _ _ _ _ _ _ _ _ _ _ _ _ _ _ _ _ _ _ _ _ _ _ _ _ _ _ _ _ _ _ _ _ _ _ _ _ _ _ _ _ _ _ _ _ _ _ _ _ _ _ _ _ _ _ _ _ _ _ _ _ _ _ _ _ _ _ _ _ _ _ _ _ _ _ _ _ _ _ _ _ _ _ _ _ _ _ _ _ _ _ _ _ _ _ _ _ _ _ _ _ _ _ _ _ _ _ _ _ _ _ _ _ _ _ _ _ _ _ _ _ _ _ _ _ _ _ _ _ _ _ _ _ _ _ _ _ _ _ _ _ _ _ _ _ _ _ _ _ _ _ _ _
end Go.Proofs.Qxb6609046aDoor
