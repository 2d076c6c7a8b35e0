/-
  THE PROOF OF 'Rows.FnIsYAMLBlankFourLowBytesSaid'. The frame is the kit's shell for this function; the plain laws and the walk are this seat's.
-/
import Derived.Test.Qxb6615778aRows
import Derived.WalkKit
import Derived.ProofKit
import Derived.OpenShut
import Derived.ShutString
namespace Go.Proofs.Qxb6615778a.fnIsYAMLBlankFourLowBytes
open Go.ChangeShapes Go.WideShapes Go.ChangeAt Go.RowKit
open Go.ChangeMaps (open_string shut_string)
set_option linter.unusedVariables false      -- a walk need not use every 'w<i>' (that an integer argument fits its kind)

theorem own : ownKnob Try.prog.godebug = none := by kernel_rfl

/-! ### PLAIN LAWS -/
def blankB (c : Int) : Bool := c == 32 || c == 9 || c == 10 || c == 13
def cnt (k : Nat) : Int := (if 9 < k then 1 else 0) + (if 10 < k then 1 else 0) + (if 13 < k then 1 else 0) + (if 32 < k then 1 else 0)
theorem blank_yes {c : Int} (h : blankB c = true) : c = 32 ∨ c = 9 ∨ c = 10 ∨ c = 13 := by
  simp [blankB] at h; omega
theorem blank_no {c : Int} (h : blankB c = false) : c ≠ 32 ∧ c ≠ 9 ∧ c ≠ 10 ∧ c ≠ 13 := by
  simp [blankB] at h; omega
theorem cnt_yes (k : Nat) (h : blankB (k : Int) = true) : cnt (k + 1) = cnt k + 1 := by
  have := blank_yes h
  unfold cnt
  repeat' split
  all_goals omega
theorem cnt_no (k : Nat) (h : blankB (k : Int) = false) : cnt (k + 1) = cnt k := by
  have := blank_no h
  unfold cnt
  repeat' split
  all_goals omega
theorem cnt_bd (k : Nat) : 0 ≤ cnt k ∧ cnt k ≤ 4 := by
  unfold cnt
  repeat' split
  all_goals omega
theorem cnt_end : cnt 256 = 4 := by decide

/-! ### THE WALKS -/
theorem ret_bool {a b : Bool} (h : a = b) : Ending.returned (.bool a) = .returned (.bool b) := by rw [h]
theorem isBlank_any (c : Int) (w : World) :
    Calls Try.prog 5 #[.int .u8 c] w fun e w' => e = .returned (.bool (blankB c)) ∧ w' = w := by
  go_enter Try.func5, Try.ntmps5
  go_wp2
  all_goals
    go_ret
    exact ⟨ret_bool (by simp [blankB, *]), rfl⟩
theorem zz_any (c : Int) (w : World) :
    Calls Try.prog 4 #[.int .u8 c] w fun e w' => e = .returned (.bool (blankB c)) ∧ w' = w := by
  go_enter Try.func4, Try.ntmps4
  go_wp2_with (go_at_call 5; refine (isBlank_any _ _).mono ?_; rintro e w' ⟨rfl, rfl⟩)
  go_ret
  exact ⟨rfl, rfl⟩
theorem zz_yes (c : Int) (w : World) (h : blankB c = true) :
    Calls Try.prog 4 #[.int .u8 c] w fun e w' => e = .returned (.bool true) ∧ w' = w := by
  have := zz_any c w
  rwa [h] at this
theorem zz_no (c : Int) (w : World) (h : blankB c = false) :
    Calls Try.prog 4 #[.int .u8 c] w fun e w' => e = .returned (.bool false) ∧ w' = w := by
  have := zz_any c w
  rwa [h] at this
set_option maxRecDepth 100000 in
set_option maxHeartbeats 400000 in
theorem walk (a0 : Int) (w0 : (Lit.int .u8 a0).wf = true) (w : World) :
    Calls Try.prog 3 #[.int .u8 a0] w fun e w' => e = .returned (.bool true) ∧ Grown w w' := by
  go_enter Try.func3, Try.ntmps3
  go_wp2
  go_loop [3, 4] (fun n i => ∃ k : Nat, k ≤ 256 ∧ i = .int .i64 k ∧ n = .int .i64 (cnt k)) (fun _ i => 256 - (intOf i).toNat)
  case atStart => exact ⟨0, Nat.zero_le _, rfl, rfl⟩
  case round =>
    obtain ⟨k, hk, rfl, rfl⟩ := hrel
    have hd := cnt_bd k
    by_cases hlt : k < 256
    · cases hb : blankB (k : Int)
      · have HC : Hid (cnt (k + 1) = cnt k) := cnt_no k hb
        have HB : Hid (blankB (k : Int) = false) := hb
        clear hb
        go_wp2_with fail
        refine (zz_no _ _ HB.out).mono ?_
        rintro e w' ⟨rfl, rfl⟩
        go_wp2
        go_round
        case rel => exact ⟨k + 1, by omega, by go_num, by rw [HC.out]⟩
        case measure => simp [intOf]; omega
      · have HC : Hid (cnt (k + 1) = cnt k + 1) := cnt_yes k hb
        have hle : (k : Int) ≤ 32 := by have := blank_yes hb; omega
        have HB : Hid (blankB (k : Int) = true) := hb
        clear hb
        go_wp2_with fail
        refine (zz_yes _ _ HB.out).mono ?_
        rintro e w' ⟨rfl, rfl⟩
        go_wp2
        go_round
        case rel => exact ⟨k + 1, by omega, by go_num, by rw [HC.out]⟩
        case measure => simp [intOf]; omega
    · obtain rfl : k = 256 := by omega
      rw [cnt_end]
      cases hb : blankB a0
      · have HB : Hid (blankB a0 = false) := hb
        clear hb
        go_wp2_with fail
        refine (zz_no _ _ HB.out).mono ?_
        rintro e w' ⟨rfl, rfl⟩
        go_wp2
        go_ret
        exact ⟨rfl, Grown.refl _⟩
      · have hle : a0 ≤ 32 := by have := blank_yes hb; omega
        have HB : Hid (blankB a0 = true) := hb
        clear hb
        go_wp2_with fail
        refine (zz_yes _ _ HB.out).mono ?_
        rintro e w' ⟨rfl, rfl⟩
        go_wp2
        go_ret
        exact ⟨rfl, Grown.refl _⟩

/-! ### THE ROW's STEP: WRITTEN OUT: LEAVE IT -/
set_option maxRecDepth 100000 in
theorem lifted (os : Os) (started : os.Started) (H : Type) (enc : TypeId × Value → H) :
    ReturnsInHanded {} Try.checked os 3 .any (Rows.fnIsYAMLBlankFourLowBytesSpec.pre6 enc Try.prog Try.f3 Rows.fnIsYAMLBlankFourLowBytesRow.domain false) (Rows.fnIsYAMLBlankFourLowBytesSpec.post enc Try.prog Try.f3 false true false false) := by
  refine returnsInHanded_of_change (C := Try.checked) own started (by kernel_rfl) Try.func3
    (ChangeSpec.witness6 (enc := enc) (C := Try.checked) false ⟨#[], #[.int .u8 0], []⟩ 8 (by kernel_rfl) (by kernel_rfl) (by kernel_rfl) (by kernel_rfl)) ?_
  intro W base args ds gs before hval0 hW hcnd _
  have hval : ∀ (j : Nat) t v, Try.f3.params[j]? = some t → args[j]? = some v → Value.okWide Try.prog W .any base t v := hval0
  have hW' := hW
  obtain ⟨p, q, hA0, hV, rfl, hfz, hnd⟩ := hW
  have hA : DataW.TrodAll enc Try.prog W 0 (fun _ => true) true Try.f3.params.toList args.toList ds p := hA0
  rw [Try.params3] at hA hval
  obtain ⟨v0, vs0, d0, ds0, p0, q0, hargs, rfl, rfl, h0, r0⟩ := trodAll_cons hA
  obtain ⟨rfl, rfl, rfl⟩ := trodAll_nil r0
  obtain rfl : args = #[v0] := by cases args; simp_all
  obtain ⟨rfl, rfl⟩ := trodVars_none hV
  obtain ⟨a0, rfl, rfl, rfl, w0⟩ := open_int Try.underlying5 (hval 0 5 v0 rfl rfl) h0
  clear hA0 hval0
  simp only [List.append_nil] at hW'
  refine (walk a0 w0 W).mono fun e W' ⟨he, hg⟩ => ?_
  subst he
  exact ⟨_, rfl, post_of_same (pa := []) (pv := []) hW' (fun _ _ _ => (trodAll_cons_mk (shut_bool Try.underlying4 _) trodAll_mk0)) (fun sp _ => (trodAll_cons_mk (shut_int Try.underlying5 w0) trodAll_mk0)) (fun _ _ => rfl) rfl
    (hg.frame _) hg.2.1 (ok_one (by kernel_rfl) rfl (okWide_bool_mk Try.underlying4 _))⟩

theorem over : Rows.fnIsYAMLBlankFourLowBytesRow.holds Try.pinned (OpenSpec.ofChange Rows.fnIsYAMLBlankFourLowBytesSpec) :=
  OpenClaim.holds_of_wide 3 Try.f3 rfl rfl rfl rfl rfl rfl rfl ⟨rfl, rfl, rfl, rfl, rfl⟩ rfl rfl rfl rfl rfl (by kernel_rfl) Try.func3 (by kernel_rfl)
    (of_decide_eq_true (by kernel_rfl)) (by unfold Func.isWrapper; first | (rw [if_pos (by decide +kernel)]; kernel_rfl) | (rw [if_neg (by decide +kernel)]; exact ⟨rfl, rfl⟩))
    (fun os started H enc _ => lifted os started H enc)

/-- ████ THE STATEMENT ████ -/
theorem proved : Rows.FnIsYAMLBlankFourLowBytesSaid :=
  over
end Go.Proofs.Qxb6615778a.fnIsYAMLBlankFourLowBytes
