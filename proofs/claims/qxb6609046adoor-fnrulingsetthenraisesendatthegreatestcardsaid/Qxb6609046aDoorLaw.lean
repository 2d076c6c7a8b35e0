/-
  THE WALK OF THE LAW (3).
-/
import Derived.Test.Qxb6609046aDoorSteps
import Derived.Deep.DeepCutAuto
import Derived.Deep.CutBlock
import Derived.Deep.RegionHeld3
import Derived.WalkSpells
namespace Go.Proofs.Qxb6609046aDoor
open Go.RowKit

theorem bel_alloc' {a w : World} {B : Nat} (hl : B ≤ a.heap.size) (h : Below B a w) (o : Obj) : Below B a (w.alloc o) := h.alloc (by have := h.size; omega) o
theorem keep_drew {X : World} {a : Addr} {v : Value} (h : X.cell? a = some v) : X.drew.cell? a = some v := h
theorem kind_cell (X : World) (id : ByteArray) (d1 d2 d3 d4 : Value) : (X.alloc (.cells #[.string id, d1, d2, d3, d4] 49)).cell? ⟨X.heap.size, 0, none⟩ = some (.string id) := by
  rw [World.cell?_alloc_at _ _ _ _ rfl]; rfl
theorem made_rul (w : World) (l : Int) (t1 t2 : ByteArray) (m : Value) : Rul (w.alloc (.cells #[.int .i64 l, .string t1, .string t2, .pointer none, .slice none 0 0, .slice none 0 0, .int .i64 0, m] 31)) w.heap.size l t1 t2 (.pointer none) 0 := by
  constructor <;> simp

set_option maxRecDepth 100000 in
set_option maxHeartbeats 8000000 in
theorem law_walk (l c s : Int) (t1 t2 t4 t5 t7 t8 : ByteArray) (a9 a10 a11 : Option Addr) (l9 l10 l11 k9 k10 k11 : Nat) (X9 : Nat → Int) (T10 T11 : Nat → ByteArray) (w : World)
    (h1 : t1.size ≤ maxLen) (h2 : t2.size ≤ maxLen) (h4 : t4.size ≤ maxLen) (h5 : t5.size ≤ maxLen) (h7 : t7.size ≤ maxLen) (h8 : t8.size ≤ maxLen) (h9 : IsInts w a9 l9 X9) (h10 : IsStrs w a10 l10 T10) (h11 : IsStrs w a11 l11 T11) (hN : Names w) (hw0 : 0 < w.heap.size) :
    Calls Tryd.prog 3 #[.int .i64 l, .string t1, .string t2, .int .i64 c, .string t4, .string t5, .int .i64 s, .string t7, .string t8, .slice a9 l9 k9, .slice a10 l10 k10, .slice a11 l11 k11] w fun e w' => e = .returned (.bool true) ∧ Below w.heap.size w w' := by
  have m9 := h9.1
  have m10 := h10.1
  have m11 := h11.1
  have H9 : Hid (IsInts w a9 l9 X9) := h9
  have H10 : Hid (IsStrs w a10 l10 T10) := h10
  have H11 : Hid (IsStrs w a11 l11 T11) := h11
  have HN : Hid (Names w) := hN
  clear h9 h10 h11 hN
  go_enter Tryd.func3, Tryd.ntmps3
  go_wp2_with fail
  refine (bytes_any l c s t1 t2 t4 t5 t7 t8 a9 a10 a11 l9 l10 l11 k9 k10 k11 T10 T11 _ h1 h2 h4 h5 h7 h8 m9 H10.out H11.out).mono ?_
  rintro e w' ⟨⟨t, rfl, hshort⟩, rfl⟩
  unfold maxLen at h1 h2 h4 h5 h7 h8 m9 m10 m11
  cases t
  · as_aux_lemma =>
      go_wp2
      go_ret
      exact ⟨rfl, Below.refl _ _⟩
  obtain ⟨hs10, hs11⟩ := hshort rfl
  have S10 : Hid (Short l10 T10) := hs10
  have S11 : Hid (Short l11 T11) := hs11
  clear hs10 hs11 hshort
  by_cases q1 : (65536 : Int) < t1.size
  · as_aux_lemma =>
      go_wp2
      go_ret
      exact ⟨rfl, Below.refl _ _⟩
  by_cases q2 : (65536 : Int) < t2.size
  · as_aux_lemma =>
      go_wp2
      go_ret
      exact ⟨rfl, Below.refl _ _⟩
  by_cases q4 : (65536 : Int) < t4.size
  · as_aux_lemma =>
      go_wp2
      go_ret
      exact ⟨rfl, Below.refl _ _⟩
  by_cases q5 : (65536 : Int) < t5.size
  · as_aux_lemma =>
      go_wp2
      go_ret
      exact ⟨rfl, Below.refl _ _⟩
  by_cases q7 : (65536 : Int) < t7.size
  · as_aux_lemma =>
      go_wp2
      go_ret
      exact ⟨rfl, Below.refl _ _⟩
  by_cases q8 : (65536 : Int) < t8.size
  · as_aux_lemma =>
      go_wp2
      go_ret
      exact ⟨rfl, Below.refl _ _⟩
  by_cases q9 : (4096 : Int) < l9
  · as_aux_lemma =>
      go_wp2
      go_ret
      exact ⟨rfl, Below.refl _ _⟩
  by_cases q10 : (4096 : Int) < l10
  · as_aux_lemma =>
      go_wp2
      go_ret
      exact ⟨rfl, Below.refl _ _⟩
  by_cases q11 : (4096 : Int) < l11
  · as_aux_lemma =>
      go_wp2
      go_ret
      exact ⟨rfl, Below.refl _ _⟩
  go_wp2
  clear h1 h2 h4 h5 h7 h8 q1 q2 q4 q5 q7 q8
  go_loop [25, 26] (fun n i => ∃ (k : Nat) (z : Int), k ≤ l10 ∧ 0 ≤ z ∧ z ≤ 524288 ∧ i = .int .i64 k ∧ n = .int .i64 z) (fun _ i => l10 - (intOf i).toNat)
  case atStart => exact ⟨0, _, Nat.zero_le _, by omega, by omega, rfl, rfl⟩
  case round =>
    obtain ⟨k, z, hk, hz0, hz1, rfl, rfl⟩ := hrel
    by_cases hlt : k < l10
    · as_aux_lemma =>
        obtain ⟨b, off, ha, hb, hc, _⟩ := H10.out.2 k hlt
        subst ha
        have hs := S10.out k hlt
        go_wp2
        · go_ret
          exact ⟨rfl, Below.refl _ _⟩
        go_round
        case rel => exact ⟨k + 1, _, by omega, by omega, by omega, by go_num, rfl⟩
        case measure => simp [intOf]; omega
    · as_aux_lemma =>
        go_wp2
        clear hk hlt
        go_loop [25, 27] (fun n i => ∃ (k : Nat) (z : Int), k ≤ l11 ∧ 0 ≤ z ∧ z ≤ 524288 ∧ i = .int .i64 k ∧ n = .int .i64 z) (fun _ i => l11 - (intOf i).toNat)
        case atStart => exact ⟨0, _, Nat.zero_le _, by omega, by omega, rfl, rfl⟩
        case round =>
          obtain ⟨k', z', hk', hz0', hz1', rfl, rfl⟩ := hrel
          by_cases hlt' : k' < l11
          · as_aux_lemma =>
              obtain ⟨b, off, ha, hb, hc, _⟩ := H11.out.2 k' hlt'
              subst ha
              have hs := S11.out k' hlt'
              go_wp2
              · go_ret
                exact ⟨rfl, Below.refl _ _⟩
              go_round
              case rel => exact ⟨k' + 1, _, by omega, by omega, by omega, by go_num, rfl⟩
              case measure => simp [intOf]; omega
          · as_aux_lemma =>
              clear hz0 hz1
              by_cases e1 : l10 = l9
              rotate_left
              · as_aux_lemma =>
                  have e1b : ((l10 : Int) != (l9 : Int)) = true := by rw [bne_iff_ne]; omega
                  go_wp2
                  go_ret
                  exact ⟨rfl, Below.refl _ _⟩
              subst e1
              by_cases e2 : l11 = l10
              rotate_left
              · as_aux_lemma =>
                  have e2b : ((l11 : Int) != (l10 : Int)) = true := by rw [bne_iff_ne]; omega
                  go_wp2
                  go_ret
                  exact ⟨rfl, Below.refl _ _⟩
              subst e2
              by_cases r1 : l < 0
              · as_aux_lemma =>
                  go_wp2
                  go_ret
                  exact ⟨rfl, Below.refl _ _⟩
              by_cases r2 : 2 < l
              · as_aux_lemma =>
                  go_wp2
                  go_ret
                  exact ⟨rfl, Below.refl _ _⟩
              by_cases r3 : c < 0
              · as_aux_lemma =>
                  go_wp2
                  go_ret
                  exact ⟨rfl, Below.refl _ _⟩
              by_cases r4 : 2 < c
              · as_aux_lemma =>
                  go_wp2
                  go_ret
                  exact ⟨rfl, Below.refl _ _⟩
              clear m9 m10 m11
              go_wp2_with fail
              refine (newKind_any t4 _).mono ?_
              rintro e w1 ⟨rfl, d1, d2, d3, d4, rfl⟩
              go_wp2_with fail
              refine (newEffect_any 2 c ⟨#[]⟩ t5 ⟨#[]⟩ _).mono ?_
              rintro e w1 ⟨rfl, rfl⟩
              go_wp2_with fail
              refine (zz_most w.heap.size _ l c t1 t2 t4 ⟨#[]⟩ t5 ⟨#[]⟩ _ (Rul.alloc (Rul.alloc (made_rul w l t1 t2 _) _) _) (keep_alloc (by rw [World.cell?_alloc_at _ _ _ _ (by simp)]; rfl)) (HN.out.kept hw0 (by repeat (first | exact Below.refl _ _ | refine bel_alloc' (Nat.le_refl _) ?_ _))) (by omega) (by omega)).mono ?_
              rintro e w1 ⟨rfl, hM, hb1⟩
              have HM : Hid (Most w1 w.heap.size l c t1 t2 t4 t5) := hM
              have B1 : Below w.heap.size w w1 := Below.trans (by repeat (first | exact Below.refl _ _ | refine bel_alloc' (Nat.le_refl _) ?_ _)) hb1
              clear hM hb1
              go_upto_if 167 with fail
              go_cut [29] (fun s29 w2 => ∃ (L low : Int) (ex : Value), s29 = .int .i64 low ∧ Hid (Rul w2 w.heap.size L t1 t2 ex low) ∧ Below w.heap.size w w2)
              case first =>
                as_aux_lemma =>
                  rcases HM.out with ⟨hlc, x, hR, hE⟩ | ⟨hlc, hR⟩
                  · have HR : Hid (Rul w1 w.heap.size c t1 t2 (.pointer (some ⟨x, 0, none⟩)) c) := hR
                    obtain ⟨c0, c1, c2, c3, c4, c5, c6, f0, f1, f2, f3, f6⟩ := hR
                    obtain ⟨x0, x1, x2, x3⟩ := hE
                    clear HM
                    go_wp2
                    go_quiet ((go_at_call 8; exact Calls.quiet_of_same (levelName_any _ _)))
                    go_wp2
                    go_meet
                    case rel => exact ⟨c, c, _, rfl, HR.out.drewN _, below_drewN B1 _⟩
                  · have HR : Hid (Rul w1 w.heap.size l t1 t2 (.pointer none) 0) := hR
                    obtain ⟨c0, c1, c2, c3, c4, c5, c6, f0, f1, f2, f3, f6⟩ := hR
                    clear HM
                    go_wp2
                    go_meet
                    case rel => exact ⟨l, 0, _, rfl, HR.out, B1⟩
              case rest =>
                as_aux_lemma =>
                  obtain ⟨L, low, ex, rfl, HR, B2⟩ := hcut
                  have c1 := HR.out.c1
                  have c2 := HR.out.c2
                  go_wp2_with fail
                  clear c1 c2
                  refine (newKind_any t7 _).mono ?_
                  rintro e w2 ⟨rfl, d1, d2, d3, d4, rfl⟩
                  go_wp2_with fail
                  refine (newEffect_any 3 s t8 ⟨#[]⟩ ⟨#[]⟩ _).mono ?_
                  rintro e w2 ⟨rfl, rfl⟩
                  go_wp2_with fail
                  refine (zz_set w.heap.size _ L low s t1 t2 t7 t8 ⟨#[]⟩ ⟨#[]⟩ ex _ (Rul.alloc (Rul.alloc HR.out _) _) (keep_alloc (by rw [World.cell?_alloc_at _ _ _ _ rfl]; rfl))).mono ?_
                  rintro e w3 ⟨rfl, hR3, hb3⟩
                  have HR3 : Hid (Rul w3 w.heap.size s t7 (voteOf t2 t8) (.pointer none) low) := hR3
                  have B3 : Below w.heap.size w w3 := Below.trans (by repeat (first | exact B2 | refine bel_alloc' (Nat.le_refl _) ?_ _)) hb3
                  clear hR3 hb3 HR B2
                  go_wp2
                  go_loopw [31] (fun i wr => ∃ k : Nat, k ≤ l11 ∧ i = .int .i64 k ∧ Hid (Rul wr w.heap.size (levTo s X9 k) (ruleTo s X9 t7 T10 k) (voteTo s X9 (voteOf t2 t8) T11 k) (.pointer none) low) ∧ Below w.heap.size w wr) (fun i _ => l11 - (intOf i).toNat)
                  case atStart => exact ⟨0, Nat.zero_le _, rfl, HR3, B3⟩
                  case round =>
                    obtain ⟨k, hk, rfl, HRk, Bk⟩ := hrel
                    clear HR3 B3
                    by_cases hlt : k < l11
                    · as_aux_lemma =>
                        obtain ⟨b9, o9, e9, hb9, c9, _⟩ := H9.out.2 k hlt
                        obtain ⟨b10, o10, e10, hb10, c10, _⟩ := H10.out.2 k hlt
                        obtain ⟨b11, o11, e11, hb11, c11, _⟩ := H11.out.2 k hlt
                        subst e9 e10 e11
                        have HK : Hid (∀ w', Below w.heap.size w w' → (w'.cell? ⟨b10, o10 + k, none⟩ = some (.string (T10 k)) ∧ w'.cell? ⟨b9, o9 + k, none⟩ = some (.int .i64 (X9 k)) ∧ w'.cell? ⟨b11, o11 + k, none⟩ = some (.string (T11 k)))) :=
                          fun w' hb => ⟨(hb.cell (by exact hb10)).trans c10, (hb.cell (by exact hb9)).trans c9, (hb.cell (by exact hb11)).trans c11⟩
                        clear c9 c10 c11
                        have i0 : (0 : Int) ≤ (k : Int) := by omega
                        have i1 : (k : Int) < (l11 : Int) := by omega
                        go_wp2
                        go_region_held3 (fun w' => w'.cell? ⟨b10, o10 + k, none⟩ = some (.string (T10 k)) ∧ w'.cell? ⟨b9, o9 + k, none⟩ = some (.int .i64 (X9 k)) ∧ w'.cell? ⟨b11, o11 + k, none⟩ = some (.string (T11 k)))
                          (exact HK.out _ (by repeat (first | assumption | apply Below.drew | refine bel_alloc' (Nat.le_refl _) ?_ _)))
                          ((first | (go_at_call 6; refine (newKind_any _ _).mono ?_; rintro e w4 ⟨rfl, d1, d2, d3, d4, rfl⟩) | (go_at_call 7; refine (newEffect_any _ _ _ _ _ _).mono ?_; rintro e w4 ⟨rfl, rfl⟩) | (go_at_call 5; refine (zz_least w.heap.size wr.heap.size s low X9 t7 (voteOf t2 t8) T10 T11 k _ _ _ _ (Rul.drew (Rul.alloc (Rul.alloc HRk.out _) _)) (keep_drew (keep_alloc (kind_cell _ _ _ _ _ _)))).mono ?_; rintro e w4 ⟨rfl, hR4, hb4⟩; have B4 : Below w.heap.size w w4 := Below.trans (by repeat (first | exact Bk | apply Below.drew | refine bel_alloc' (Nat.le_refl _) ?_ _)) hb4; have HR4 : Hid (Rul w4 w.heap.size (levTo s X9 (k + 1)) (ruleTo s X9 t7 T10 (k + 1)) (voteTo s X9 (voteOf t2 t8) T11 (k + 1)) (.pointer none) low) := hR4; clear hR4 hb4)))
                        clear HK
                        go_wp2
                        go_roundw
                        case rel => exact ⟨k + 1, by omega, by go_num, HR4, B4⟩
                        case measure => simp [intOf]; omega
                    · as_aux_lemma =>
                        obtain rfl : l11 = k := by omega
                        go_wp2
                        clear hlt hk
                        go_loop [32, 33] (fun tp i => ∃ j : Nat, j ≤ l11 ∧ i = .int .i64 j ∧ tp = .int .i64 (levTo s X9 j)) (fun _ i => l11 - (intOf i).toNat)
                        case atStart => exact ⟨0, Nat.zero_le _, rfl, rfl⟩
                        case round =>
                          obtain ⟨j, hj, rfl, rfl⟩ := hrel
                          by_cases hlt : j < l11
                          · as_aux_lemma =>
                              obtain ⟨b9, o9, e9, hb9, c9, _⟩ := H9.out.2 j hlt
                              subst e9
                              have c9' : wr.cell? ⟨b9, o9 + j, none⟩ = some (.int .i64 (X9 j)) := (Bk.cell (by exact hb9)).trans c9
                              clear c9
                              by_cases hgt : levTo s X9 j < X9 j
                              · have HE : Hid (levTo s X9 (j + 1) = X9 j) := lev_up (by omega)
                                go_wp2
                                go_round
                                case rel => exact ⟨j + 1, by omega, by go_num, by rw [HE.out]⟩
                                case measure => simp [intOf]; omega
                              · have HE : Hid (levTo s X9 (j + 1) = levTo s X9 j) := lev_max hgt
                                go_wp2
                                go_round
                                case rel => exact ⟨j + 1, by omega, by go_num, by rw [HE.out]⟩
                                case measure => simp [intOf]; omega
                          · as_aux_lemma =>
                              obtain rfl : l11 = j := by omega
                              go_upto_block 8 with fail
                              clear hlt hj
                              go_cut [34, 35] (fun s34 s35 w2 => s34 = .string (ruleTo s X9 t7 T10 l11) ∧ w2 = wr)
                              case first =>
                                as_aux_lemma =>
                                  go_wp2
                                  go_loop [34, 35] (fun ru i => ∃ j : Nat, j ≤ l11 ∧ i = .int .i64 ((j : Int) - 1) ∧ ru = .string t7 ∧ Hid (∀ m, j ≤ m → m < l11 → X9 m ≠ levTo s X9 l11)) (fun _ i => (intOf i + 1).toNat)
                                  case atStart => exact ⟨l11, Nat.le_refl _, rfl, rfl, fun m h1 h2 => by omega⟩
                                  case round =>
                                    obtain ⟨j, hj, rfl, rfl, HJ⟩ := hrel
                                    rcases j with _ | j
                                    · rw [show ((0 : Nat) : Int) - 1 = -1 from rfl]
                                      have HE : Hid (t7 = ruleTo s X9 t7 T10 l11) := (rule_none l11 (fun m hm => HJ.out m (Nat.zero_le _) hm)).symm
                                      go_wp2
                                      go_meet
                                      case rel => exact ⟨congrArg Value.string HE.out, rfl⟩
                                    · rw [show (((j + 1 : Nat) : Int) - 1) = (j : Int) from by omega]
                                      obtain ⟨b9, o9, e9, hb9, c9, _⟩ := H9.out.2 j (by omega)
                                      obtain ⟨b10, o10, e10, hb10, c10, _⟩ := H10.out.2 j (by omega)
                                      subst e9 e10
                                      have c9' : wr.cell? ⟨b9, o9 + j, none⟩ = some (.int .i64 (X9 j)) := (Bk.cell (by exact hb9)).trans c9
                                      have c10' : wr.cell? ⟨b10, o10 + j, none⟩ = some (.string (T10 j)) := (Bk.cell (by exact hb10)).trans c10
                                      clear c9 c10
                                      by_cases he : X9 j = levTo s X9 l11
                                      · have HE : Hid (T10 j = ruleTo s X9 t7 T10 l11) := (rule_last l11 j (by omega) he (fun m h1 h2 => HJ.out m (by omega) h2)).symm
                                        have hb : (X9 j == levTo s X9 l11) = true := by simp [he]
                                        clear he
                                        go_wp2
                                        go_meet
                                        case rel => exact ⟨congrArg Value.string HE.out, rfl⟩
                                      · have HJ' : Hid (∀ m, j ≤ m → m < l11 → X9 m ≠ levTo s X9 l11) := fun m h1 h2 => by
                                          by_cases e : m = j
                                          · subst e; exact he
                                          · exact HJ.out m (by omega) h2
                                        have hb : (X9 j == levTo s X9 l11) = false := by simp [he]
                                        clear he
                                        go_wp2
                                        go_round
                                        case rel => exact ⟨j, by omega, rfl, rfl, HJ'⟩
                                        case measure => simp [intOf] <;> omega
                              case rest =>
                                as_aux_lemma =>
                                  obtain ⟨rfl, hwc⟩ := hcut
                                  subst hwc
                                  go_upto_if 310 with fail
                                  go_cut [36] (fun s36 w2 => s36 = .string (voteOf t2 t8) ∧ w2 = wc)
                                  case first =>
                                    as_aux_lemma =>
                                      cases hv : (!t8.toList.isEmpty)
                                      · have HE : Hid (t2 = voteOf t2 t8) := (vote_none hv).symm
                                        go_wp2
                                        go_meet
                                        case rel => exact ⟨congrArg Value.string HE.out, rfl⟩
                                      · have HE : Hid (t8 = voteOf t2 t8) := (vote_some hv).symm
                                        go_wp2
                                        go_meet
                                        case rel => exact ⟨congrArg Value.string HE.out, rfl⟩
                                  case rest =>
                                    as_aux_lemma =>
                                      obtain ⟨rfl, hwd⟩ := hcut
                                      subst hwd
                                      go_wp2
                                      go_loop [36, 37, 38] (fun vt rc i => ∃ j : Nat, j ≤ l11 ∧ i = .int .i64 j ∧ rc = .int .i64 (levTo s X9 j) ∧ vt = .string (voteTo s X9 (voteOf t2 t8) T11 j)) (fun _ _ i => l11 - (intOf i).toNat)
                                      case atStart => exact ⟨0, Nat.zero_le _, rfl, rfl, rfl⟩
                                      case round =>
                                        obtain ⟨j, hj, rfl, rfl, rfl⟩ := hrel
                                        by_cases hlt : j < l11
                                        · as_aux_lemma =>
                                            obtain ⟨b9, o9, e9, hb9, c9, _⟩ := H9.out.2 j hlt
                                            obtain ⟨b11, o11, e11, hb11, c11, _⟩ := H11.out.2 j hlt
                                            subst e9 e11
                                            have c9' := (Bk.cell (p := ⟨b9, o9 + j, none⟩) (by exact hb9)).trans c9
                                            have c11' := (Bk.cell (p := ⟨b11, o11 + j, none⟩) (by exact hb11)).trans c11
                                            clear c9 c11
                                            by_cases hge : X9 j < levTo s X9 j
                                            · have HE : Hid (levTo s X9 (j + 1) = levTo s X9 j) := lev_low hge
                                              have HV : Hid (voteTo s X9 (voteOf t2 t8) T11 (j + 1) = voteTo s X9 (voteOf t2 t8) T11 j) := voteTo_low hge
                                              go_wp2
                                              go_round
                                              case rel => exact ⟨j + 1, by omega, by go_num, by rw [HE.out], by rw [HV.out]⟩
                                              case measure => simp [intOf]; omega
                                            · have HE : Hid (levTo s X9 (j + 1) = X9 j) := lev_up hge
                                              have hV := voteTo_up (v0 := voteOf t2 t8) (V := T11) hge
                                              cases hv : (!(T11 j).toList.isEmpty)
                                              · rw [vote_none hv] at hV
                                                have HV : Hid (voteTo s X9 (voteOf t2 t8) T11 (j + 1) = voteTo s X9 (voteOf t2 t8) T11 j) := hV
                                                clear hV
                                                go_wp2
                                                go_round
                                                case rel => exact ⟨j + 1, by omega, by go_num, by rw [HE.out], by rw [HV.out]⟩
                                                case measure => simp [intOf]; omega
                                              · rw [vote_some hv] at hV
                                                have HV : Hid (voteTo s X9 (voteOf t2 t8) T11 (j + 1) = T11 j) := hV
                                                clear hV
                                                go_wp2
                                                go_round
                                                case rel => exact ⟨j + 1, by omega, by go_num, by rw [HE.out], by rw [HV.out]⟩
                                                case measure => simp [intOf]; omega
                                        · as_aux_lemma =>
                                            obtain rfl : l11 = j := by omega
                                            obtain ⟨c0, c1, c2, c3, c4, c5, c6, f0, f1, f2, f3, f6⟩ := HRk.out
                                            clear H9 H10 H11 S10 S11 HN f0 f1 f2 f3 f6
                                            generalize levTo s X9 l11 = lv at *
                                            generalize ruleTo s X9 t7 T10 l11 = ru at *
                                            generalize voteTo s X9 (voteOf t2 t8) T11 l11 = vt at *
                                            have q28 := fun (w : World) (a : Option Addr) (n c n' c' : Nat) => Lib.run_eql_slice_nil (P := Tryd.prog) w 28 71 a n c n' c' Tryd.underlying28
                                            go_wp2_with fail
                                            refine (lowered_any w.heap.size low _ c6).mono ?_
                                            rintro e w5 ⟨rfl, hw5⟩
                                            subst hw5
                                            go_wp2
                                            go_ret
                                            exact ⟨rfl, Bk⟩
end Go.Proofs.Qxb6609046aDoor
