/-
  THE WALK OF THE LAW (3): its head; on by the stretches.
-/
import Derived.Test.Qxb6609046aDoorLawZ
namespace Go.Proofs.Qxb6609046aDoor
open Go.RowKit

set_option maxRecDepth 100000 in
set_option maxHeartbeats 8000000 in
theorem law_walk (l c s : Int) (t1 t2 t4 t5 t7 t8 : ByteArray) (a9 a10 a11 : Option Addr) (l9 l10 l11 k9 k10 k11 : Nat) (X9 : Nat → Int) (T10 T11 : Nat → ByteArray) (w : World)
    (h1 : t1.size ≤ maxLen) (h2 : t2.size ≤ maxLen) (h4 : t4.size ≤ maxLen) (h5 : t5.size ≤ maxLen) (h7 : t7.size ≤ maxLen) (h8 : t8.size ≤ maxLen) (h9 : IsInts w a9 l9 X9) (h10 : IsStrs w a10 l10 T10) (h11 : IsStrs w a11 l11 T11) (hN : Names w) (hw0 : 0 < w.heap.size) :
    Calls Tryd.prog 3 #[.int .i64 l, .string t1, .string t2, .int .i64 c, .string t4, .string t5, .int .i64 s, .string t7, .string t8, .slice a9 l9 k9, .slice a10 l10 k10, .slice a11 l11 k11] w fun e w' => e = .returned (.bool true) ∧ Below w.heap.size w w' := by
  have m9 := h9.1
  have H9 : Hid (IsInts w a9 l9 X9) := h9
  have H10 : Hid (IsStrs w a10 l10 T10) := h10
  have H11 : Hid (IsStrs w a11 l11 T11) := h11
  have HN : Hid (Names w) := hN
  clear h9 h10 h11 hN
  go_enter Tryd.func3, Tryd.ntmps3
  go_wp2_with fail
  refine (bytes_any l c s t1 t2 t4 t5 t7 t8 a9 a10 a11 l9 l10 l11 k9 k10 k11 T10 T11 _ h1 h2 h4 h5 h7 h8 m9 H10.out H11.out).mono ?_
  rintro e w' ⟨⟨t, rfl, hshort⟩, rfl⟩
  cases t
  · go_wp2
    go_ret
    exact ⟨rfl, Below.refl _ _⟩
  obtain ⟨hs10, hs11⟩ := hshort rfl
  have S10 : Hid (Short l10 T10) := hs10
  have S11 : Hid (Short l11 T11) := hs11
  clear hs10 hs11 hshort
  go_upto_if 52 with fail
  go_cut [] from 39 to 52 (fun w2 => w2 = w)
  case first =>
    go_wp2
    go_meet
    case rel => exact rfl
  case rest =>
    subst hcut
    apply_assumption
    exact law_sizes l c s t1 t2 t4 t5 t7 t8 a9 a10 a11 l9 l10 l11 k9 k10 k11 X9 T10 T11 _ h1 h2 h4 h5 h7 h8 H9.out H10.out H11.out S10.out S11.out HN.out hw0 _ _ _ _ _ _ _ _ _ _ _ _ _ _ _ _ _ _ _ _ _ _ _ _ _ _ _ _ _ _ _ _ _ _ _ _ _ _ _ _ _ _ _ _ _ _ _ _ _ _ _ _ _ _ _ _ _ _ _ _ _ _ _ _ _ _ _ _ _ _ _ _ _ _ _ _ _ _ _ _ _ _ _ _ _ _ _ _ _ _ _ _ _ _ _ _ _ _ _ _ _ _ _ _ _ _ _ _ _ _ _ _ _ _ _ _ _ _ _ _ _ _ _ _ _ _ _ _ _ _ _ _ _ _ _ _ _ _ _ _ _ _ _ _ _ _ _ _ _ _ _ _ _ _ _ _ _ _ _ _ _ _ _ _ _ _ _ _ _ _ _ _ _ _ _ _ _ _ _ _ _ _ _ _ _ _ _ _ _ _ _ _ _ _ _ _ _ _ _ _ _ _ _ _ _ _ _ _ _ _ _ _ _ _ _ _ _ _ _ _ _ _ _ _ _ _ _ _ _ _ _ _ _ _ _ _ _ _ _ _ _ _ _ _ _ _ _ _ _ _ _ _ _ _ _ _ _ _ _ _ _ _ _ _ _ _ _ _ _ _ _ _ _ _ _ _ _ _ _ _ _ _ _ _ _ _ _ _ _ _ _ _ _ _ _ _ _ _ _ _ _ _ _ _ _ _ _ _ _ _ _ _ _ _ _ _ _ _ _ _ _ _ _ _ _ _ _ _ _ _ _ _ _ _ _ _ _ _ _ _ _ _ _ _ _ _ _ _ _ _ _ _ _ _ _ _ _ _ _ _ _ _ _ _ _ _ _ _ _ _ _ _ _ _ _
end Go.Proofs.Qxb6609046aDoor
