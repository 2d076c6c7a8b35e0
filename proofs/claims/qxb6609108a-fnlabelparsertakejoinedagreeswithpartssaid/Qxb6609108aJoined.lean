/-
  THE WALK OF FnLabelParserTakeJoinedAgreesWithParts (4), out of the callees' contracts.
-/
import Derived.Test.Qxb6609108aBytes
import Derived.Deep.RegionHeld3
import Derived.Deep.DeepAppendRoom
namespace Go.Proofs.Qxb6609108a
open Go.RowKit

theorem Hid.mk2 {p : Prop} (h : p) : Hid p := h

/-- the cells of the first k of J -/
def cellsTo (J : Nat → ByteArray) (k : Nat) : List Value := (List.range k).map fun i => .string (J i)
theorem cellsTo_succ (J : Nat → ByteArray) (k : Nat) : cellsTo J (k + 1) = cellsTo J k ++ [.string (J k)] := by
  simp [cellsTo, List.range_succ]
theorem cellsTo_at (J : Nat → ByteArray) (k i : Nat) (h : i < k) : (cellsTo J k)[i]? = some (.string (J i)) := by
  simp [cellsTo, h]

theorem Par.drew {w : World} {p : Nat} {a : Option Addr} {len cap : Nat} {n : Int} (h : Par w p a len cap n) : Par w.drew p a len cap n := ⟨h.c0, h.c1, h.f1⟩

/-- A ROW OF THE CALL's OWN, READ AS A SLICE OF STRINGS. -/
theorem strs_of_row {w : World} {base g n cap : Nat} {J : Nat → ByteArray} (h : w.ownsRow base 9 1 (.slice (some ⟨g, 0, none⟩) n cap) n (cellsTo J n)) (hn : n ≤ maxLen) (hJ : ∀ i, i < n → (J i).size ≤ maxLen) : IsStrs w (some ⟨g, 0, none⟩) n J := by
  refine ⟨hn, fun i hi => ?_⟩
  rcases h.2 with ⟨h0, _⟩ | ⟨g', cap', cur, hv, _, hg, _, _, _, ht⟩
  · cases h0
  · cases hv
    refine ⟨g, 0, rfl, (Array.getElem?_eq_some_iff.1 hg).1, ?_, hJ i hi⟩
    have hc := cellsTo_at J n i hi
    rw [← ht, Nat.mul_one] at hc
    have hc' : cur[i]? = some (.string (J i)) := by
      rw [List.getElem?_take_of_lt hi] at hc
      simpa using hc
    simp [World.cell?, hg, hc']

set_option maxRecDepth 100000 in
set_option maxHeartbeats 4000000 in
theorem joined_walk (a0 : Option Addr) (la cap0 : Nat) (A : Nat → ByteArray) (a1 : Option Addr) (lb cap1 : Nat) (B : Nat → ByteArray) (w : World)
    (h0 : IsStrs w a0 la A) (n0 : a0 = none → la = 0) (h1 : IsStrs w a1 lb B) (n1 : a1 = none → lb = 0) :
    Calls Try.prog 4 #[.slice a0 la cap0, .slice a1 lb cap1] w fun e w' => e = .returned (.bool true) ∧ Below w.heap.size w w' := by
  have m0 := h0.1
  have m1 := h1.1
  have H0 : Hid (IsStrs w a0 la A) := h0
  have N0 : Hid (a0 = none → la = 0) := n0
  have H1 : Hid (IsStrs w a1 lb B) := h1
  have N1 : Hid (a1 = none → lb = 0) := n1
  clear h0 n0 h1 n1
  unfold maxLen at m0 m1
  obtain ⟨i0, hi, hz0, hz1, hz2⟩ := info_parts info9
  have HI : Hid (Try.prog.info? 9 = some i0 ∧ i0.zero = some (.string ⟨#[]⟩) ∧ i0.size = 1 ∧ i0.bytes = 16) := ⟨hi, hz0, hz1, hz2⟩
  clear hi hz0 hz1 hz2
  go_enter Try.func4, Try.ntmps4
  go_wp2_with fail
  refine (bytes11_any a0 la cap0 A a1 lb cap1 B _ H0.out H1.out).mono ?_
  rintro e w' ⟨⟨t, rfl, hshort⟩, rfl⟩
  cases t
  · go_wp2
    go_ret
    exact ⟨rfl, Below.refl _ _⟩
  have SA : Hid (Short la A) := (hshort rfl).1
  have SB : Hid (Short lb B) := (hshort rfl).2
  clear hshort
  by_cases q0 : (65536 : Int) < la
  · go_wp2
    go_ret
    exact ⟨rfl, Below.refl _ _⟩
  by_cases q1 : (65536 : Int) < lb
  · go_wp2
    go_ret
    exact ⟨rfl, Below.refl _ _⟩
  clear m0 m1
  go_wp2
  go_loop [5, 6] (fun s i => ∃ (k : Nat) (z : Int), k ≤ la ∧ 0 ≤ z ∧ z ≤ 1048576 ∧ i = .int .i64 k ∧ s = .int .i64 z) (fun _ i => la - (intOf i).toNat)
  case atStart => exact ⟨0, _, Nat.zero_le _, by omega, by omega, rfl, rfl⟩
  case round =>
    obtain ⟨k, z, hk, hz0, hz1, rfl, rfl⟩ := hrel
    by_cases hlt : k < la
    · obtain ⟨b, off, ha, hb, hc, _⟩ := H0.out.2 k hlt
      subst ha
      have hs := SA.out k hlt
      go_wp2
      · go_ret
        exact ⟨rfl, Below.refl _ _⟩
      go_round
      case rel => exact ⟨k + 1, _, by omega, by omega, by omega, by go_num, rfl⟩
      case measure => simp [intOf]; omega
    · go_wp2
      clear hk hlt
      go_loop [5, 7] (fun s i => ∃ (k : Nat) (z : Int), k ≤ lb ∧ 0 ≤ z ∧ z ≤ 1048576 ∧ i = .int .i64 k ∧ s = .int .i64 z) (fun _ i => lb - (intOf i).toNat)
      case atStart => exact ⟨0, _, Nat.zero_le _, by omega, by omega, rfl, rfl⟩
      case round =>
        obtain ⟨k', z', hk', hz0', hz1', rfl, rfl⟩ := hrel
        clear hz0 hz1
        by_cases hlt : k' < lb
        · obtain ⟨b, off, ha, hb, hc, _⟩ := H1.out.2 k' hlt
          subst ha
          have hs := SB.out k' hlt
          go_wp2
          · go_ret
            exact ⟨rfl, Below.refl _ _⟩
          go_round
          case rel => exact ⟨k' + 1, _, by omega, by omega, by omega, by go_num, rfl⟩
          case measure => simp [intOf]; omega
        · go_wp2
          clear hk' hlt hz0' hz1'
          go_loop [8] (fun i => ∃ m : Nat, m ≤ la ∧ i = .int .i64 m ∧ Hid (∀ x, x < m → (A x).toList.isEmpty = false)) (fun i => la - (intOf i).toNat)
          case atStart => exact ⟨0, Nat.zero_le _, rfl, fun x hx => absurd hx (Nat.not_lt_zero x)⟩
          case round =>
            obtain ⟨m, hm, rfl, HA⟩ := hrel
            by_cases hlt : m < la
            · obtain ⟨b, off, ha, hb, hc, _⟩ := H0.out.2 m hlt
              subst ha
              cases he : (A m).toList.isEmpty
              · have HA' : Hid (∀ x, x < m + 1 → (A x).toList.isEmpty = false) := fun x hx => by
                  by_cases e : x = m
                  · subst e; exact he
                  · exact HA.out x (by omega)
                go_wp2
                go_round
                case rel => exact ⟨m + 1, by omega, by go_num, HA'⟩
                case measure => simp [intOf]; omega
              · go_wp2
                go_ret
                exact ⟨rfl, Below.refl _ _⟩
            · obtain rfl : la = m := by omega
              clear hlt hm
              go_wp2_with fail
              refine (clone_any a0 la cap0 A _ H0.out N0.out (by omega)).mono ?_
              rintro e w1 ⟨x0, y0, rfl, p0, s0, b1⟩
              have H1' : Hid (IsStrs w1 a1 lb B) := H1.out.below b1
              have G0 : Hid (IsStrs w1 x0 la A) := s0
              clear p0 s0 H0 N0 H1
              go_wp2_with fail
              refine (clone_any a1 lb cap1 B _ H1'.out N1.out (by omega)).mono ?_
              rintro e w2 ⟨x1, y1, rfl, p1, s1, b2⟩
              have GA : Hid (IsStrs w2 x0 la A) := G0.out.below b2
              have GB : Hid (IsStrs w2 x1 lb B) := s1
              have NB : Hid (x1 = none → lb = 0) := p1
              have B2 : Below w.heap.size w w2 := b1.trans (b2.mono b1.size)
              clear p1 s1 H1' N1 G0 b1 b2
              go_wp2_with (at_make; refine wpList_make_own _ rfl _ _ 22 rfl w2.heap.size 9 i0 (.string ⟨#[]⟩) 1 Try.underlying22 HI.out.1 HI.out.2.1 HI.out.2.2.1 .i64 .i64 _ (la + lb) rfl rfl (by omega) (by rw [HI.out.2.2.2]; omega) (by unfold maxLen; omega) (Nat.le_refl _) ?_; intro w3 hown3 hg3)
              have HO3 : Hid (w3.ownsRow w2.heap.size 9 1 (.slice (some ⟨w2.heap.size, 0, none⟩) 0 (la + lb)) 0 []) := hown3
              have B3 : Below w2.heap.size w2 w3 := (Below.refl _ _).grown hg3 (Nat.le_refl _) (fun k hk => by cases hk)
              clear hown3 hg3
              go_loopw [9, 10] (fun s9 i wr => ∃ m : Nat, m ≤ la ∧ i = .int .i64 m ∧ s9 = .slice (some ⟨w2.heap.size, 0, none⟩) m (la + lb) ∧ Hid (wr.ownsRow w2.heap.size 9 1 (.slice (some ⟨w2.heap.size, 0, none⟩) m (la + lb)) m (cellsTo (join A B la) m)) ∧ Below w2.heap.size w2 wr) (fun _ i _ => la - (intOf i).toNat)
              case atStart => exact ⟨0, Nat.zero_le _, rfl, rfl, HO3, B3⟩
              case round =>
                obtain ⟨m, hm, rfl, rfl, HO, Bm⟩ := hrel
                clear HO3 B3
                by_cases hlt : m < la
                · obtain ⟨b, off, ha, hb, hc, _⟩ := GA.out.2 m hlt
                  subst ha
                  have c0 : wr.cell? ⟨b, off + m, none⟩ = some (.string (A m)) := (Bm.cell (by exact hb)).trans hc
                  clear hc
                  go_wp2_with (at_builtin; refine wpList_append_own_spare _ rfl _ _ 22 rfl w2.heap.size 9 i0 1 Try.underlying22 HI.out.1 HI.out.2.2.1 w2.heap.size m (la + lb) _ rfl (HO.out.alloc _) ⟨wr.heap.size, 0, none⟩ 1 1 [.string (A m)] rfl rfl (cell_one_new _ _ _) (by simp [Value.oneCell']) (by omega) ?_; intro w5 hown5 hgrow5)
                  have B5 : Below w2.heap.size w2 w5 := (Bm.alloc Bm.size _).grown hgrow5 (by simp; have := Bm.size; omega) (fun k hk => by cases hk; exact Nat.le_refl _)
                  have HO5 : Hid (w5.ownsRow w2.heap.size 9 1 (.slice (some ⟨w2.heap.size, 0, none⟩) (m + 1) (la + lb)) (m + 1) (cellsTo (join A B la) (m + 1))) := by
                    show w5.ownsRow _ _ _ _ _ _
                    rw [cellsTo_succ, join_left hlt]
                    exact hown5
                  go_roundw
                  case rel => exact ⟨m + 1, by omega, by go_num, rfl, HO5, B5⟩
                  case measure => simp [intOf]; omega
                · obtain rfl : la = m := by omega
                  clear hlt hm
                  go_wp2
                  go_loopw [9, 11] (fun s9 i wx => ∃ m : Nat, m ≤ lb ∧ i = .int .i64 m ∧ s9 = .slice (some ⟨w2.heap.size, 0, none⟩) (la + m) (la + lb) ∧ Hid (wx.ownsRow w2.heap.size 9 1 (.slice (some ⟨w2.heap.size, 0, none⟩) (la + m) (la + lb)) (la + m) (cellsTo (join A B la) (la + m))) ∧ Below w2.heap.size w2 wx) (fun _ i _ => lb - (intOf i).toNat)
                  case atStart => exact ⟨0, Nat.zero_le _, rfl, rfl, HO, Bm⟩
                  case round =>
                    clear HO Bm
                    obtain ⟨m, hm, rfl, rfl, HO, Bm⟩ := hrel
                    by_cases hlt : m < lb
                    · obtain ⟨b, off, ha, hb, hc, _⟩ := GB.out.2 m hlt
                      subst ha
                      have c0 := (Bm.cell (p := ⟨b, off + m, none⟩) (by exact hb)).trans hc
                      clear hc
                      go_wp2_with (at_builtin; refine wpList_append_own_spare _ rfl _ _ 22 rfl w2.heap.size 9 i0 1 Try.underlying22 HI.out.1 HI.out.2.2.1 w2.heap.size (la + m) (la + lb) _ rfl (HO.out.alloc _) ⟨_, 0, none⟩ 1 1 [.string (B m)] rfl rfl (cell_one_new _ _ _) (by simp [Value.oneCell']) (by omega) ?_; intro w5 hown5 hgrow5)
                      have B5 : Below w2.heap.size w2 w5 := (Bm.alloc Bm.size _).grown hgrow5 (by simp; have := Bm.size; omega) (fun k hk => by cases hk; exact Nat.le_refl _)
                      have HO5 : Hid (w5.ownsRow w2.heap.size 9 1 (.slice (some ⟨w2.heap.size, 0, none⟩) (la + m + 1) (la + lb)) (la + m + 1) (cellsTo (join A B la) (la + m + 1))) := by
                        show w5.ownsRow _ _ _ _ _ _
                        rw [cellsTo_succ, join_right]
                        exact hown5
                      go_roundw
                      case rel => exact ⟨m + 1, by omega, by go_num, rfl, HO5, B5⟩
                      case measure => simp [intOf]; omega
                    · obtain rfl : lb = m := by omega
                      clear hlt hm
                      have hJs : ∀ i, i < la + lb → (join A B la i).size ≤ maxLen := fun i hi => by
                        unfold maxLen join
                        split
                        · have := SA.out i (by assumption); omega
                        · have := SB.out (i - la) (by omega); omega
                      have GJ : Hid (IsStrs wr (some ⟨w2.heap.size, 0, none⟩) (la + lb) (join A B la)) := strs_of_row HO.out (by unfold maxLen; omega) hJs
                      have GB' : Hid (IsStrs wr x1 lb B) := GB.out.below Bm
                      have GA' : Hid (IsStrs wr x0 la A) := GA.out.below Bm
                      clear hJs HO GA GB SA SB HI
                      go_wp2_with fail
                      refine (clone_any x1 lb y1 B _ GB'.out NB.out (by omega)).mono ?_
                      rintro e w6 ⟨x2, y2, rfl, _, s2, b6⟩
                      have KJ : Hid (∀ wx, Below w6.heap.size w6 wx → IsStrs wx (some ⟨w2.heap.size, 0, none⟩) (la + lb) (join A B la)) := fun wx hb => (GJ.out.below b6).below hb
                      have KA : Hid (∀ wx, Below w6.heap.size w6 wx → IsStrs wx x0 la A) := fun wx hb => (GA'.out.below b6).below hb
                      have KB : Hid (∀ wx, Below w6.heap.size w6 wx → IsStrs wx x2 lb B) := fun wx hb => s2.below hb
                      have B6 : Below w.heap.size w w6 := (B2.trans (Bm.mono B2.size)).trans (b6.mono (Nat.le_trans B2.size Bm.size))
                      clear s2 b6 GJ GA' GB' NB Bm B2
                      go_wp2_with fail
                      refine (newParser_any (some ⟨w2.heap.size, 0, none⟩) (la + lb) (la + lb) 0 _).mono ?_
                      rintro e w7 ⟨rfl, rfl⟩
                      go_wp2_with fail
                      refine (newParser_any x2 lb y2 0 _).mono ?_
                      rintro e w7 ⟨rfl, rfl⟩
                      have P1 : Hid (Par ((w6.alloc (.cells #[.slice (some ⟨w2.heap.size, 0, none⟩) (la + lb) (la + lb), .int .i64 0] 31)).alloc (.cells #[.slice x2 lb y2, .int .i64 0] 31)) w6.heap.size (some ⟨w2.heap.size, 0, none⟩) (la + lb) (la + lb) (0 : Nat)) := ⟨by simp, by simp, by simp⟩
                      have P2 : Hid (Par ((w6.alloc (.cells #[.slice (some ⟨w2.heap.size, 0, none⟩) (la + lb) (la + lb), .int .i64 0] 31)).alloc (.cells #[.slice x2 lb y2, .int .i64 0] 31)) (w6.heap.size + 1) x2 lb y2 (0 : Nat)) := ⟨by simp, by simp, by simp⟩
                      have B8 : Below w6.heap.size w6 ((w6.alloc (.cells #[.slice (some ⟨w2.heap.size, 0, none⟩) (la + lb) (la + lb), .int .i64 0] 31)).alloc (.cells #[.slice x2 lb y2, .int .i64 0] 31)) := ((Below.refl _ _).alloc (Nat.le_refl _) _).alloc (by simp) _
                      go_wp2
                      go_loopw [15] (fun i wx => ∃ m : Nat, m ≤ la ∧ i = .int .i64 m ∧ Hid (Par wx w6.heap.size (some ⟨w2.heap.size, 0, none⟩) (la + lb) (la + lb) (m : Nat)) ∧ Hid (Par wx (w6.heap.size + 1) x2 lb y2 (0 : Nat)) ∧ Below w6.heap.size w6 wx) (fun i _ => la - (intOf i).toNat)
                      case atStart => exact ⟨0, Nat.zero_le _, rfl, P1, P2, B8⟩
                      case round =>
                        clear P1 P2 B8
                        obtain ⟨m, hm, rfl, P1, P2, Bm⟩ := hrel
                        by_cases hlt : m < la
                        · obtain ⟨b, off, ha, hb, hc, _⟩ := (KA.out _ (Below.refl _ _)).2 m hlt
                          subst ha
                          have HK : Hid (∀ wx, Below w6.heap.size w6 wx → wx.cell? ⟨b, off + m, none⟩ = some (.string (A m))) := fun wx hb' => (hb'.cell (by exact hb)).trans hc
                          clear hc
                          have CT := fun wx hp hbx => zzTake_any w6.heap.size (some ⟨w2.heap.size, 0, none⟩) (la + lb) (la + lb) m (join A B la) wx hp (KJ.out _ hbx) (by omega) (by omega)
                          rw [tok_join_left hlt, nxt_join_left hlt (HA.out m hlt)] at CT
                          have HCT := Hid.mk2 CT
                          clear CT
                          have i0' : (0 : Int) ≤ (m : Int) := by omega
                          have i1' : (m : Int) < (la : Int) := by omega
                          go_wp2
                          go_region_held3 (fun w' => w'.cell? ⟨b, off + m, none⟩ = some (.string (A m)))
                            (exact HK.out _ (by repeat (first | assumption | apply Below.drew)))
                            ((go_at_call 9; refine (HCT.out _ (Par.drew P1.out) (Below.drew Bm)).mono ?_; rintro e w9 ⟨rfl, hp9, hg9⟩; have P1' := Hid.mk2 hp9; have P2' := Hid.mk2 (P2.out.drew.kept hg9 (by simp)); have B9 := (Below.drew Bm).grown hg9 Bm.size (fun k hk => by cases hk; exact Nat.le_refl _); clear hp9 hg9))
                          go_wp2
                          go_roundw
                          case rel => exact ⟨m + 1, by omega, by go_num, P1', P2', B9⟩
                          case measure => simp [intOf]; omega
                        · obtain rfl : la = m := by omega
                          clear hlt hm HA KA
                          go_wp2_with fail
                          refine (next_any w6.heap.size _ _ _ _ _ P1.out).mono ?_
                          rintro e w9 ⟨rfl, rfl⟩
                          go_wp2
                          go_loopw [16] (fun i wy => ∃ m q : Nat, m ≤ lb + 1 ∧ q ≤ lb ∧ i = .int .i64 m ∧ Hid (Par wy w6.heap.size (some ⟨w2.heap.size, 0, none⟩) (la + lb) (la + lb) (la + q : Nat)) ∧ Hid (Par wy (w6.heap.size + 1) x2 lb y2 (q : Nat)) ∧ Below w6.heap.size w6 wy) (fun i _ => lb + 1 - (intOf i).toNat)
                          case atStart => exact ⟨0, 0, Nat.zero_le _, Nat.zero_le _, rfl, P1, P2, Bm⟩
                          case round =>
                            clear P1 P2 Bm
                            obtain ⟨m, q, hm, hq, rfl, P1, P2, Bm⟩ := hrel
                            by_cases hlt : m ≤ lb
                            · have CT1 := zzTake_any w6.heap.size (some ⟨w2.heap.size, 0, none⟩) (la + lb) (la + lb) (la + q) (join A B la) _ P1.out (KJ.out _ Bm) (by omega) (by omega)
                              have CT2 := fun wx hp hbx => zzTake_any (w6.heap.size + 1) x2 lb y2 q B wx hp (KB.out _ hbx) (by omega) (by omega)
                              rw [tok_join_right, nxt_join_right] at CT1
                              have hq' := nxt_le (T := B) hq
                              generalize nxt B lb q = q' at *
                              generalize tokAt B lb q = tk at *
                              have HC1 := Hid.mk2 CT1
                              have HC2 := Hid.mk2 CT2
                              clear CT1 CT2
                              go_wp2_with fail
                              refine HC1.out.mono ?_
                              rintro e w9 ⟨rfl, hp9, hg9⟩
                              have P1' := Hid.mk2 hp9
                              have P2' := Hid.mk2 (P2.out.kept hg9 (by simp))
                              have B9 := Bm.grown hg9 Bm.size (fun k hk => by cases hk; exact Nat.le_refl _)
                              clear hp9 hg9 P1 P2 Bm HC1
                              go_wp2_with fail
                              refine (HC2.out _ P2'.out B9).mono ?_
                              rintro e w10 ⟨rfl, hp10, hg10⟩
                              have P2'' := Hid.mk2 hp10
                              have P1'' := Hid.mk2 (P1'.out.kept hg10 (by simp))
                              have P3 : Hid (Par w10 w6.heap.size (some ⟨w2.heap.size, 0, none⟩) (la + lb) (la + lb) ((la : Int) + (q' : Int))) := by
                                have := P1''.out
                                rw [show ((la + q' : Nat) : Int) = (la : Int) + (q' : Int) from by omega] at this
                                exact this
                              have B10 := B9.grown hg10 B9.size (fun k hk => by cases hk; omega)
                              clear hp10 hg10 P1' P2' B9 HC2
                              go_wp2_with fail
                              refine (next_any w6.heap.size _ _ _ _ _ P3.out).mono ?_
                              rintro e w11 ⟨rfl, rfl⟩
                              go_wp2_with fail
                              refine (next_any (w6.heap.size + 1) _ _ _ _ _ P2''.out).mono ?_
                              rintro e w11 ⟨rfl, rfl⟩
                              go_wp2
                              go_roundw
                              case rel => exact ⟨m + 1, q', by omega, hq', by go_num, P1'', P2'', B10⟩
                              case measure => simp [intOf]; omega
                            · go_wp2
                              go_ret
                              exact ⟨rfl, B6.trans (Bm.mono B6.size)⟩
end Go.Proofs.Qxb6609108a
