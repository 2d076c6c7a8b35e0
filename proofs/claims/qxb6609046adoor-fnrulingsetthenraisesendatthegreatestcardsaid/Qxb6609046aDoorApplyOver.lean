/-
  THE WALK OF apply (10) WITH THE OPERATION 'at most', the ruling above the ceiling.
-/
import Derived.Test.Qxb6609046aDoorApply
namespace Go.Proofs.Qxb6609046aDoor
open Go.RowKit

set_option maxRecDepth 100000 in
set_option maxHeartbeats 1000000 in
theorem apply_over (r kb : Nat) (L low t : Int) (ru vo id ve ar fi : ByteArray) (ex : Value) (w : World) (hr : Rul w r L ru vo ex low) (hk : w.cell? ⟨kb, 0, none⟩ = some (.string id)) (hN : Names w) (ht : t < L) (h0 : 0 ≤ t) (h2 : L ≤ 2) :
    Calls Tryd.prog 10 #[.pointer (some ⟨r, 0, none⟩), .pointer (some ⟨kb, 0, none⟩), .agg #[.int .i64 2, .int .i64 t, .string ve, .string ar, .string fi]] w fun e w' => e = .returned .nilIface ∧ Below r w w' ∧
      ∃ x, Rul w' r t ru vo (.pointer (some ⟨x, 0, none⟩)) t ∧ w'.cell? ⟨x, 0, none⟩ = some (.string id) ∧ w'.cell? ⟨x, 1, none⟩ = some (.string (nameOf L)) ∧ w'.cell? ⟨x, 2, none⟩ = some (.string (nameOf t)) ∧ w'.cell? ⟨x, 3, none⟩ = some (.string ar) := by
  have HR : Hid (Rul w r L ru vo ex low) := hr
  have HNm : Hid (Names w) := hN
  obtain ⟨c0, c1, c2, c3, c4, c5, c6, f0, f1, f2, f3, f6⟩ := hr
  obtain ⟨n0, n1, n2⟩ := hN
  have hlt := World.block_lt_of_cell? _ _ c0
  have hltk := World.block_lt_of_cell? _ _ hk
  have hw0 : 0 < w.heap.size := by omega
  have hNA : ∀ O n, Names ((w.alloc O).drewN n) := fun O n => HNm.out.kept hw0 (below_drewN ((Below.refl _ _).alloc (Nat.le_refl _) _) n)
  go_enter Tryd.func10, Tryd.ntmps10
  go_wp2
  go_quiet (fail)
  go_wp2
  go_region_held3 (fun w' => w'.cell? ⟨kb, 0, none⟩ = some (.string id) ∧ w'.cell? ⟨r, 0, none⟩ = some (.int .i64 L) ∧ w'.cell? ⟨w.heap.size, 1, none⟩ = some (.int .i64 t) ∧ w'.cell? ⟨w.heap.size, 3, none⟩ = some (.string ar))
    (first | go_keep | (refine ⟨?_, ?_, ?_, ?_⟩; (· apply keep_alloc; apply keep_set (addr_ne (Or.inl (by decide))); exact keep_alloc hk); (· apply keep_alloc; apply keep_set (addr_ne (Or.inl (by decide))); exact keep_alloc c0); (· apply keep_alloc; apply keep_set (addr_ne (Or.inl (by decide))); simp [*]); (· apply keep_alloc; apply keep_set (addr_ne (Or.inr (by omega))); simp [*])))
    ((go_at_call 11; refine (string_any _ _ (by omega) (by omega) (hNA _ _)).mono ?_; rintro e w' ⟨rfl, rfl⟩))
  go_wp2
  go_region
  go_wp2
  go_ret
  refine ⟨rfl, ?_, w.heap.size + 1, ?_, ?_, ?_, ?_, ?_⟩
  · repeat (first | exact Below.refl _ _ | apply Below.drew | apply below_drewN | apply bel_set | refine bel_alloc hlt ?_ _)
  · repeat (first | exact HR.out | apply Rul.drew | apply Rul.drewN | apply Rul.set0 | apply Rul.set1 | apply Rul.set2 | apply Rul.set3 | apply Rul.set6 | apply Rul.alloc)
  all_goals
    rw [World.cell?_drew, World.cell?_alloc_at _ _ _ _ (by simp)]
    rfl
end Go.Proofs.Qxb6609046aDoor
