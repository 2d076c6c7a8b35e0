/-
  THE WALK OF FnLabelParserTakeDrainsNonEmptyRun (3), out of the callees' contracts.
-/
import Derived.Test.Qxb6609108aBytes
import Derived.Deep.DeepCutAuto
import Derived.Deep.CutBlock
namespace Go.Proofs.Qxb6609108a
open Go.RowKit

theorem Hid.mk' {p : Prop} (h : p) : Hid p := h

set_option maxRecDepth 100000 in
set_option maxHeartbeats 4000000 in
theorem drains_walk (a0 : Option Addr) (len cap0 : Nat) (n : Int) (T : Nat → ByteArray) (w : World) (h0 : IsStrs w a0 len T) (hn : a0 = none → len = 0) :
    Calls Try.prog 3 #[.slice a0 len cap0, .int .i64 n] w fun e w' => e = .returned (.bool true) ∧ Below w.heap.size w w' := by
  have m0 := h0.1
  have H0 : Hid (IsStrs w a0 len T) := h0
  have HN : Hid (a0 = none → len = 0) := hn
  clear h0 hn
  unfold maxLen at m0
  go_enter Try.func3, Try.ntmps3
  go_wp2_with fail
  refine (bytes5_any a0 len cap0 n T _ H0.out).mono ?_
  rintro e w' ⟨⟨t, rfl, hshort⟩, rfl⟩
  cases t
  · go_wp2
    go_ret
    exact ⟨rfl, Below.refl _ _⟩
  have S0 : Hid (Short len T) := hshort rfl
  clear hshort
  by_cases q0 : (65536 : Int) < len
  · go_wp2
    go_ret
    exact ⟨rfl, Below.refl _ _⟩
  go_wp2
  go_loop [5, 6] (fun s i => ∃ (k : Nat) (z : Int), k ≤ len ∧ 0 ≤ z ∧ z ≤ 1048576 ∧ i = .int .i64 k ∧ s = .int .i64 z) (fun _ i => len - (intOf i).toNat)
  case atStart => exact ⟨0, _, Nat.zero_le _, by omega, by omega, rfl, rfl⟩
  case round =>
    obtain ⟨k, z, hk, hz0, hz1, rfl, rfl⟩ := hrel
    by_cases hlt : k < len
    · obtain ⟨b, off, ha, hb, hc, _⟩ := H0.out.2 k hlt
      subst ha
      have hs := S0.out k hlt
      go_wp2
      · go_ret
        exact ⟨rfl, Below.refl _ _⟩
      go_round
      case rel => exact ⟨k + 1, _, by omega, by omega, by omega, by go_num, rfl⟩
      case measure => simp [intOf]; omega
    · by_cases r1 : n < 0
      · go_wp2
        go_ret
        exact ⟨rfl, Below.refl _ _⟩
      by_cases r2 : (len : Int) < n
      · go_wp2
        go_ret
        exact ⟨rfl, Below.refl _ _⟩
      obtain ⟨nn, rfl⟩ : ∃ nn : Nat, n = nn := ⟨n.toNat, by omega⟩
      go_wp2_with fail
      clear hz0 hz1 hk hlt S0
      refine (clone_any a0 len cap0 T _ H0.out HN.out (by omega)).mono ?_
      rintro e w1 ⟨a1, cap1, rfl, hn1, hs1, b1⟩
      have H1 : Hid (IsStrs w1 a1 len T) := hs1
      have HN1 : Hid (a1 = none → len = 0) := hn1
      clear hs1 hn1 H0 HN
      go_wp2_with fail
      refine (clone_any a1 len cap1 T _ H1.out HN1.out (by omega)).mono ?_
      rintro e w2 ⟨a2, cap2, rfl, hn2, hs2, b2⟩
      have H2 : Hid (IsStrs w2 a2 len T) := hs2
      have H1' : Hid (IsStrs w2 a1 len T) := H1.out.below b2
      have B2 : Below w.heap.size w w2 := b1.trans (b2.mono b1.size)
      clear hs2 hn2 H1 HN1 b1 b2
      go_upto_block 2 with fail
      go_cut [8] (fun s8 w3 => ∃ j : Nat, s8 = .int .i64 j ∧ Hid (RunEnd T len nn j) ∧ w3 = w2)
      case first =>
        go_wp2
        go_loop [8] (fun s8 => ∃ j : Nat, nn ≤ j ∧ j ≤ len ∧ s8 = .int .i64 j ∧ Hid (∀ m, nn ≤ m → m < j → (T m).toList.isEmpty = false)) (fun s8 => len - (intOf s8).toNat)
        case atStart => exact ⟨nn, Nat.le_refl _, by omega, rfl, fun m h1 h2 => by omega⟩
        case round =>
          obtain ⟨j, hj0, hj1, rfl, HJ⟩ := hrel
          by_cases hlt : j < len
          · obtain ⟨b, off, ha, hb, hc, _⟩ := H1'.out.2 j hlt
            subst ha
            cases he : (T j).toList.isEmpty
            · have HJ' : Hid (∀ m, nn ≤ m → m < j + 1 → (T m).toList.isEmpty = false) := fun m h1 h2 => by
                by_cases e : m = j
                · subst e; exact he
                · exact HJ.out m h1 (by omega)
              have hd : decide ((j : Int) < (len : Int)) = true := by simp; omega
              go_wp2
              go_round
              case rel => exact ⟨j + 1, by omega, by omega, by go_num, HJ'⟩
              case measure => simp [intOf]; omega
            · have HR : Hid (RunEnd T len nn j) := ⟨hj0, hj1, HJ.out, .inr he⟩
              have hd : decide ((j : Int) < (len : Int)) = true := by simp; omega
              go_wp2
              go_meet
              case rel => exact ⟨j, rfl, HR, rfl⟩
          · have HR : Hid (RunEnd T len nn j) := ⟨hj0, hj1, HJ.out, .inl (by omega)⟩
            have hd : decide ((j : Int) < (len : Int)) = false := by simp; omega
            go_wp2
            go_meet
            case rel => exact ⟨j, rfl, HR, rfl⟩
      case rest =>
        obtain ⟨j, rfl, HR, hw3⟩ := hcut
        subst hw3
        have hR := HR.out
        have j0 := hR.lo
        have j1 := hR.hi
        clear hR
        go_wp2_with fail
        refine (newParser_any a2 len cap2 nn _).mono ?_
        rintro e w3 ⟨rfl, rfl⟩
        have HP0 : Hid (Par (wc.alloc (.cells #[.slice a2 len cap2, .int .i64 nn] 31)) wc.heap.size a2 len cap2 nn) := ⟨by simp, by simp, by simp⟩
        have B3 : Below wc.heap.size wc (wc.alloc (.cells #[.slice a2 len cap2, .int .i64 nn] 31)) := (Below.refl _ _).alloc (Nat.le_refl _) _
        go_wp2
        go_loopw [11] (fun i wr => ∃ k : Nat, k ≤ len - nn + 1 ∧ i = .int .i64 k ∧ Hid (Par wr wc.heap.size a2 len cap2 (posAt nn j k : Nat)) ∧ Below wc.heap.size wc wr) (fun i _ => len - nn + 1 - (intOf i).toNat)
        case atStart => exact ⟨0, Nat.zero_le _, rfl, (by rw [pos_zero j0]; exact HP0), B3⟩
        case round =>
          obtain ⟨k', hk', rfl, HP, Bk⟩ := hrel
          clear HP0 B3
          by_cases hlt : k' < len - nn + 1
          · have hple : posAt nn j k' ≤ len := pos_le HR.out
            have HG : Hid (∀ wx, Below wc.heap.size wc wx → IsStrs wx a2 len T) := fun wx hb => H2.out.below hb
            have HK : Hid (∀ wx, Below wc.heap.size wc wx → IsStrs wx a1 len T) := fun wx hb => H1'.out.below hb
            by_cases hgo : nn + k' < j
            · have t1 := tok_go HR.out hgo
              have t2 := nxt_pos_go HR.out hgo
              have t3 := pos_succ_go hgo
              have HT1 : Hid (tokAt T len (posAt nn j k') = T (nn + k')) := t1
              have HT2 : Hid (nxt T len (posAt nn j k') = nn + k' + 1) := t2
              have HT3 : Hid (posAt nn j (k' + 1) = nn + k' + 1) := t3
              clear t1 t2 t3
              have CP := zzPeek_any wc.heap.size a2 len cap2 _ T wr HP.out (HG.out _ Bk) hple
              have CT := fun q => zzTake_any wc.heap.size a2 len cap2 _ T (wr.drewN q) (HP.out.drewN q) (HG.out _ (below_drewN Bk q)) hple (by omega)
              rw [HT1.out] at CP
              rw [HT1.out, HT2.out] at CT
              have HCP := Hid.mk' CP
              have HCT := Hid.mk' CT
              clear CP CT hple
              obtain ⟨b, off, ha, hb, hc, _⟩ := H1'.out.2 (nn + k') (by omega)
              subst ha
              go_wp2_with fail
              refine HCP.out.mono ?_
              rintro e w4 ⟨rfl, q, rfl⟩
              go_wp2_with fail
              refine (HCT.out q).mono ?_
              rintro e w5 ⟨rfl, hp5, hg5⟩
              have HP5 : Hid (Par w5 wc.heap.size a2 len cap2 ((nn : Int) + k' + 1)) := by
                rw [show ((nn + k' + 1 : Nat) : Int) = (nn : Int) + k' + 1 from by omega] at hp5
                exact hp5
              have B5 : Below wc.heap.size wc w5 := (below_drewN Bk q).grown hg5 Bk.size (fun k hk => by cases hk; exact Nat.le_refl _)
              have c5 : w5.cell? ⟨b, off + (nn + k'), none⟩ = some (.string (T (nn + k'))) := (B5.cell (by exact hb)).trans hc
              have tn : ((nn : Int) + (k' : Int)).toNat = nn + k' := by omega
              clear hp5 hg5 HCP HCT hc HP Bk
              go_wp2_with fail
              refine (next_any wc.heap.size a2 len cap2 _ w5 HP5.out).mono ?_
              rintro e w6 ⟨rfl, rfl⟩
              go_wp2
              go_roundw
              case rel => exact ⟨k' + 1, by omega, by go_num, (by rw [HT3.out, show ((nn + k' + 1 : Nat) : Int) = (nn : Int) + k' + 1 from by omega]; exact HP5), B5⟩
              case measure => simp [intOf]; omega
            · have HT1 : Hid (tokAt T len (posAt nn j k') = E) := tok_stop HR.out hgo
              have HT2 : Hid (nxt T len (posAt nn j k') = j) := nxt_pos_stop HR.out hgo
              have HT3 : Hid (posAt nn j (k' + 1) = j) := pos_succ_stop hgo
              have CP := zzPeek_any wc.heap.size a2 len cap2 _ T wr HP.out (HG.out _ Bk) hple
              have CT := fun q => zzTake_any wc.heap.size a2 len cap2 _ T (wr.drewN q) (HP.out.drewN q) (HG.out _ (below_drewN Bk q)) hple (by omega)
              rw [HT1.out] at CP
              rw [HT1.out, HT2.out] at CT
              have HCP := Hid.mk' CP
              have HCT := Hid.mk' CT
              clear CP CT hple
              go_wp2_with fail
              refine HCP.out.mono ?_
              rintro e w4 ⟨rfl, q, rfl⟩
              go_wp2_with fail
              refine (HCT.out q).mono ?_
              rintro e w5 ⟨rfl, hp5, hg5⟩
              have HP5 : Hid (Par w5 wc.heap.size a2 len cap2 (j : Int)) := hp5
              have B5 : Below wc.heap.size wc w5 := (below_drewN Bk q).grown hg5 Bk.size (fun k hk => by cases hk; exact Nat.le_refl _)
              clear hp5 hg5 HCP HCT HP Bk
              have hE : (!E.toList.isEmpty) = false := by rw [empty_E]; rfl
              go_wp2_with fail
              refine (next_any wc.heap.size a2 len cap2 _ w5 HP5.out).mono ?_
              rintro e w6 ⟨rfl, rfl⟩
              go_wp2
              go_roundw
              case rel => exact ⟨k' + 1, by omega, by go_num, (by rw [HT3.out]; exact HP5), B5⟩
              case measure => simp [intOf]; omega
          · go_wp2
            go_ret
            exact ⟨rfl, B2.trans (Bk.mono B2.size)⟩
end Go.Proofs.Qxb6609108a
