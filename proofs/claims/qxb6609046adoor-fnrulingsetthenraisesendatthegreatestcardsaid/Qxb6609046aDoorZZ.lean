/-
  THE WALKS OF ZZapply (5), out of apply's.
-/
import Derived.Test.Qxb6609046aDoorApplySet
import Derived.Test.Qxb6609046aDoorApplyOver
namespace Go.Proofs.Qxb6609046aDoor
open Go.RowKit

theorem below_after {w w' : World} {r : Nat} {o : Obj} (hl : r ≤ w.heap.size) (h : Below r (w.alloc o) w') : Below r w w' := ((Below.refl _ _).alloc hl o).trans h
theorem below_size {w w' : World} {o : Obj} (h : Below (w.alloc o).heap.size (w.alloc o) w') : Below w.heap.size w w' := ((Below.refl _ _).alloc (Nat.le_refl _) o).trans (h.mono (by simp))

theorem zz_low (r kb : Nat) (L low t : Int) (ru vo ve ar fi : ByteArray) (ex : Value) (w : World) (hr : Rul w r L ru vo ex low) (ht : t < L) :
    Calls Tryd.prog 5 #[.pointer (some ⟨r, 0, none⟩), .pointer (some ⟨kb, 0, none⟩), .agg #[.int .i64 1, .int .i64 t, .string ve, .string ar, .string fi]] w fun e w' => e = .returned .nilIface ∧ Rul w' r L ru vo ex low ∧ Below r w w' := by
  have HR : Hid (Rul w r L ru vo ex low) := hr
  clear hr
  go_enter Tryd.func5, Tryd.ntmps5
  go_wp2_with fail
  refine (apply_low r kb L low t ru vo ve ar fi ex _ (HR.out.alloc _) ht).mono ?_
  rintro e w1 ⟨rfl, hb⟩
  have hb' := below_size hb
  clear hb
  go_wp2
  go_ret
  exact ⟨rfl, HR.out.kept hb', hb'.mono (Nat.le_of_lt HR.out.lt)⟩

theorem zz_up (r kb : Nat) (L low t : Int) (ru vo id ve ar fi : ByteArray) (ex : Value) (w : World) (hr : Rul w r L ru vo ex low) (hk : w.cell? ⟨kb, 0, none⟩ = some (.string id)) (ht : ¬ t < L) :
    Calls Tryd.prog 5 #[.pointer (some ⟨r, 0, none⟩), .pointer (some ⟨kb, 0, none⟩), .agg #[.int .i64 1, .int .i64 t, .string ve, .string ar, .string fi]] w fun e w' => e = .returned .nilIface ∧ Rul w' r t id (voteOf vo ve) ex low ∧ Below r w w' := by
  have HR : Hid (Rul w r L ru vo ex low) := hr
  clear hr
  go_enter Tryd.func5, Tryd.ntmps5
  go_wp2_with fail
  refine (apply_up r kb L low t ru vo id ve ar fi ex _ (HR.out.alloc _) (keep_alloc hk) (by omega)).mono ?_
  rintro e w1 ⟨rfl, hR, hb⟩
  have HR1 : Hid (Rul w1 r t id (voteOf vo ve) ex low) := hR
  clear hR
  have hb' := below_after (Nat.le_of_lt HR.out.lt) hb
  clear hb
  go_wp2
  go_ret
  exact ⟨rfl, HR1.out, hb'⟩

theorem zz_set (r kb : Nat) (L low t : Int) (ru vo id ve ar fi : ByteArray) (ex : Value) (w : World) (hr : Rul w r L ru vo ex low) (hk : w.cell? ⟨kb, 0, none⟩ = some (.string id)) :
    Calls Tryd.prog 5 #[.pointer (some ⟨r, 0, none⟩), .pointer (some ⟨kb, 0, none⟩), .agg #[.int .i64 3, .int .i64 t, .string ve, .string ar, .string fi]] w fun e w' => e = .returned .nilIface ∧ Rul w' r t id (voteOf vo ve) (.pointer none) low ∧ Below r w w' := by
  have HR : Hid (Rul w r L ru vo ex low) := hr
  clear hr
  go_enter Tryd.func5, Tryd.ntmps5
  go_wp2_with fail
  refine (apply_set r kb L low t ru vo id ve ar fi ex _ (HR.out.alloc _) (keep_alloc hk)).mono ?_
  rintro e w1 ⟨rfl, hR, hb⟩
  have HR1 : Hid (Rul w1 r t id (voteOf vo ve) (.pointer none) low) := hR
  clear hR
  have hb' := below_after (Nat.le_of_lt HR.out.lt) hb
  clear hb
  go_wp2
  go_ret
  exact ⟨rfl, HR1.out, hb'⟩

theorem zz_under (r kb : Nat) (L low t : Int) (ru vo ve ar fi : ByteArray) (ex : Value) (w : World) (hr : Rul w r L ru vo ex low) (ht : ¬ t < L) :
    Calls Tryd.prog 5 #[.pointer (some ⟨r, 0, none⟩), .pointer (some ⟨kb, 0, none⟩), .agg #[.int .i64 2, .int .i64 t, .string ve, .string ar, .string fi]] w fun e w' => e = .returned .nilIface ∧ Rul w' r L ru vo ex low ∧ Below r w w' := by
  have HR : Hid (Rul w r L ru vo ex low) := hr
  clear hr
  go_enter Tryd.func5, Tryd.ntmps5
  go_wp2_with fail
  refine (apply_under r kb L low t ru vo ve ar fi ex _ (HR.out.alloc _) (by omega)).mono ?_
  rintro e w1 ⟨rfl, hb⟩
  have hb' := below_size hb
  clear hb
  go_wp2
  go_ret
  exact ⟨rfl, HR.out.kept hb', hb'.mono (Nat.le_of_lt HR.out.lt)⟩

/-- AN EXEMPTION IN BLOCK x. -/
def Exm (w : World) (x : Nat) (id fr to ar : ByteArray) : Prop := w.cell? ⟨x, 0, none⟩ = some (.string id) ∧ w.cell? ⟨x, 1, none⟩ = some (.string fr) ∧ w.cell? ⟨x, 2, none⟩ = some (.string to) ∧ w.cell? ⟨x, 3, none⟩ = some (.string ar)

theorem zz_over (r kb : Nat) (L low t : Int) (ru vo id ve ar fi : ByteArray) (ex : Value) (w : World) (hr : Rul w r L ru vo ex low) (hk : w.cell? ⟨kb, 0, none⟩ = some (.string id)) (hN : Names w) (ht : t < L) (h0 : 0 ≤ t) (h2 : L ≤ 2) :
    Calls Tryd.prog 5 #[.pointer (some ⟨r, 0, none⟩), .pointer (some ⟨kb, 0, none⟩), .agg #[.int .i64 2, .int .i64 t, .string ve, .string ar, .string fi]] w fun e w' => e = .returned .nilIface ∧ Below r w w' ∧
      ∃ x, Rul w' r t ru vo (.pointer (some ⟨x, 0, none⟩)) t ∧ Exm w' x id (nameOf L) (nameOf t) ar := by
  have HR : Hid (Rul w r L ru vo ex low) := hr
  have HNm : Hid (Names w) := hN
  clear hr hN
  have hw0 : 0 < w.heap.size := by have := HR.out.lt; omega
  go_enter Tryd.func5, Tryd.ntmps5
  go_wp2_with fail
  refine (apply_over r kb L low t ru vo id ve ar fi ex _ (HR.out.alloc _) (keep_alloc hk) (HNm.out.kept hw0 ((Below.refl _ _).alloc (Nat.le_refl _) _)) ht h0 h2).mono ?_
  rintro e w1 ⟨rfl, hb, x, hR, hE⟩
  have HR1 : Hid (Rul w1 r t ru vo (.pointer (some ⟨x, 0, none⟩)) t) := hR
  have HE1 : Hid (Exm w1 x id (nameOf L) (nameOf t) ar) := hE
  clear hR hE
  have hb' := below_after (Nat.le_of_lt HR.out.lt) hb
  clear hb
  go_wp2
  go_ret
  exact ⟨rfl, hb', x, HR1.out, HE1.out⟩
end Go.Proofs.Qxb6609046aDoor
