/-
  THE WALK OF apply (10) WITH THE OPERATION 'set'.
-/
import Derived.Test.Qxb6609046aDoorApply
namespace Go.Proofs.Qxb6609046aDoor
open Go.RowKit

set_option maxRecDepth 100000 in
set_option maxHeartbeats 1000000 in
theorem apply_set (r kb : Nat) (L low t : Int) (ru vo id ve ar fi : ByteArray) (ex : Value) (w : World) (hr : Rul w r L ru vo ex low) (hk : w.cell? ⟨kb, 0, none⟩ = some (.string id)) :
    Calls Tryd.prog 10 #[.pointer (some ⟨r, 0, none⟩), .pointer (some ⟨kb, 0, none⟩), .agg #[.int .i64 3, .int .i64 t, .string ve, .string ar, .string fi]] w fun e w' => e = .returned .nilIface ∧ Rul w' r t id (voteOf vo ve) (.pointer none) low ∧ Below r w w' := by
  have HR : Hid (Rul w r L ru vo ex low) := hr
  obtain ⟨c0, c1, c2, c3, c4, c5, c6, f0, f1, f2, f3, f6⟩ := hr
  have hlt := World.block_lt_of_cell? _ _ c0
  have hltk := World.block_lt_of_cell? _ _ hk
  go_enter Tryd.func10, Tryd.ntmps10
  go_wp2
  go_region
  go_wp2
  · go_ret
    refine ⟨rfl, ?_, ?_⟩
    · rw [vote_some (by assumption)]
      repeat (first | exact HR.out | apply Rul.drew | apply Rul.drewN | apply Rul.set0 | apply Rul.set1 | apply Rul.set2 | apply Rul.set3 | apply Rul.set6 | apply Rul.alloc)
    · repeat (first | exact Below.refl _ _ | apply Below.drew | apply below_drewN | apply bel_set | refine bel_alloc hlt ?_ _)
  · go_ret
    refine ⟨rfl, ?_, ?_⟩
    · rw [vote_none (by assumption)]
      repeat (first | exact HR.out | apply Rul.drew | apply Rul.drewN | apply Rul.set0 | apply Rul.set1 | apply Rul.set2 | apply Rul.set3 | apply Rul.set6 | apply Rul.alloc)
    · repeat (first | exact Below.refl _ _ | apply Below.drew | apply below_drewN | apply bel_set | refine bel_alloc hlt ?_ _)
end Go.Proofs.Qxb6609046aDoor
