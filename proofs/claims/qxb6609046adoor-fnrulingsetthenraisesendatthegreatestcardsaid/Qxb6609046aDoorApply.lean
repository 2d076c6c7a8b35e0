/-
  THE WALKS OF apply (10) AND ZZapply (5).
-/
import Derived.Test.Qxb6609046aDoorCalls
import Derived.Test.Qxb6609046aDoorPlain
import Derived.Deep.RegionHeld3
import Derived.WalkSmall
namespace Go.Proofs.Qxb6609046aDoor
open Go.RowKit

/-- A RULING IN BLOCK r. -/
structure Rul (w : World) (r : Nat) (L : Int) (ru vo : ByteArray) (ex : Value) (low : Int) : Prop where
  c0 : w.cell? ⟨r, 0, none⟩ = some (.int .i64 L)
  c1 : w.cell? ⟨r, 1, none⟩ = some (.string ru)
  c2 : w.cell? ⟨r, 2, none⟩ = some (.string vo)
  c3 : w.cell? ⟨r, 3, none⟩ = some ex
  c4 : w.cell? ⟨r, 4, none⟩ = some (.slice none 0 0)
  c5 : w.cell? ⟨r, 5, none⟩ = some (.slice none 0 0)
  c6 : w.cell? ⟨r, 6, none⟩ = some (.int .i64 low)
  f0 : w.frozen? ⟨r, 0, none⟩ = false
  f1 : w.frozen? ⟨r, 1, none⟩ = false
  f2 : w.frozen? ⟨r, 2, none⟩ = false
  f3 : w.frozen? ⟨r, 3, none⟩ = false
  f6 : w.frozen? ⟨r, 6, none⟩ = false

section
variable {w w' : World} {r : Nat} {L low : Int} {ru vo : ByteArray} {ex : Value}

theorem Rul.lt (h : Rul w r L ru vo ex low) : r < w.heap.size := World.block_lt_of_cell? _ _ h.c0
theorem Rul.kept (h : Rul w r L ru vo ex low) (hb : Below w.heap.size w w') : Rul w' r L ru vo ex low := by
  have hl := h.lt
  obtain ⟨c0, c1, c2, c3, c4, c5, c6, f0, f1, f2, f3, f6⟩ := h
  have C : ∀ i v, w.cell? ⟨r, i, none⟩ = some v → w'.cell? ⟨r, i, none⟩ = some v := fun i v e => (hb.cell (by exact hl)).trans e
  have F : ∀ i, w.frozen? ⟨r, i, none⟩ = false → w'.frozen? ⟨r, i, none⟩ = false := fun i e => (hb.frozen (by exact hl)).trans e
  exact ⟨C _ _ c0, C _ _ c1, C _ _ c2, C _ _ c3, C _ _ c4, C _ _ c5, C _ _ c6, F _ f0, F _ f1, F _ f2, F _ f3, F _ f6⟩
theorem Rul.drew (h : Rul w r L ru vo ex low) : Rul w.drew r L ru vo ex low := ⟨h.c0, h.c1, h.c2, h.c3, h.c4, h.c5, h.c6, h.f0, h.f1, h.f2, h.f3, h.f6⟩
theorem Rul.drewN (h : Rul w r L ru vo ex low) (n : Nat) : Rul (w.drewN n) r L ru vo ex low := ⟨h.c0, h.c1, h.c2, h.c3, h.c4, h.c5, h.c6, h.f0, h.f1, h.f2, h.f3, h.f6⟩
theorem Rul.alloc (h : Rul w r L ru vo ex low) (o : Obj) : Rul (w.alloc o) r L ru vo ex low := h.kept ((Below.refl _ _).alloc (Nat.le_refl _) _)

theorem off_ne {i j : Nat} (h : i ≠ j) : (⟨r, i, none⟩ : Addr) ≠ ⟨r, j, none⟩ := by intro e; injection e with _ e2 _; exact h e2
theorem set_other {i j : Nat} {u v : Value} (hne : i ≠ j) (h : w.cell? ⟨r, j, none⟩ = some v) : (w.setCell ⟨r, i, none⟩ u).cell? ⟨r, j, none⟩ = some v := by
  rw [World.cell?_setCell_other _ _ _ _ (off_ne hne)]; exact h
theorem set_frozen {i j : Nat} {u : Value} (h : w.frozen? ⟨r, j, none⟩ = false) : (w.setCell ⟨r, i, none⟩ u).frozen? ⟨r, j, none⟩ = false := by
  rw [World.frozen?_setCell]; exact h
theorem set_same {i : Nat} {u v : Value} (h : w.cell? ⟨r, i, none⟩ = some v) : (w.setCell ⟨r, i, none⟩ u).cell? ⟨r, i, none⟩ = some u := World.cell?_setCell_same _ _ _ h
theorem Rul.set0 (h : Rul w r L ru vo ex low) (t : Int) : Rul (w.setCell ⟨r, 0, none⟩ (.int .i64 t)) r t ru vo ex low :=
  ⟨set_same h.c0, set_other (by decide) h.c1, set_other (by decide) h.c2, set_other (by decide) h.c3, set_other (by decide) h.c4, set_other (by decide) h.c5, set_other (by decide) h.c6, set_frozen h.f0, set_frozen h.f1, set_frozen h.f2, set_frozen h.f3, set_frozen h.f6⟩
theorem Rul.set1 (h : Rul w r L ru vo ex low) (t : ByteArray) : Rul (w.setCell ⟨r, 1, none⟩ (.string t)) r L t vo ex low :=
  ⟨set_other (by decide) h.c0, set_same h.c1, set_other (by decide) h.c2, set_other (by decide) h.c3, set_other (by decide) h.c4, set_other (by decide) h.c5, set_other (by decide) h.c6, set_frozen h.f0, set_frozen h.f1, set_frozen h.f2, set_frozen h.f3, set_frozen h.f6⟩
theorem Rul.set2 (h : Rul w r L ru vo ex low) (t : ByteArray) : Rul (w.setCell ⟨r, 2, none⟩ (.string t)) r L ru t ex low :=
  ⟨set_other (by decide) h.c0, set_other (by decide) h.c1, set_same h.c2, set_other (by decide) h.c3, set_other (by decide) h.c4, set_other (by decide) h.c5, set_other (by decide) h.c6, set_frozen h.f0, set_frozen h.f1, set_frozen h.f2, set_frozen h.f3, set_frozen h.f6⟩
theorem Rul.set3 (h : Rul w r L ru vo ex low) (t : Value) : Rul (w.setCell ⟨r, 3, none⟩ t) r L ru vo t low :=
  ⟨set_other (by decide) h.c0, set_other (by decide) h.c1, set_other (by decide) h.c2, set_same h.c3, set_other (by decide) h.c4, set_other (by decide) h.c5, set_other (by decide) h.c6, set_frozen h.f0, set_frozen h.f1, set_frozen h.f2, set_frozen h.f3, set_frozen h.f6⟩
theorem Rul.set6 (h : Rul w r L ru vo ex low) (t : Int) : Rul (w.setCell ⟨r, 6, none⟩ (.int .i64 t)) r L ru vo ex t :=
  ⟨set_other (by decide) h.c0, set_other (by decide) h.c1, set_other (by decide) h.c2, set_other (by decide) h.c3, set_other (by decide) h.c4, set_other (by decide) h.c5, set_same h.c6, set_frozen h.f0, set_frozen h.f1, set_frozen h.f2, set_frozen h.f3, set_frozen h.f6⟩
end

theorem bel_set {a w : World} {r i : Nat} {u : Value} (h : Below r a w) : Below r a (w.setCell ⟨r, i, none⟩ u) := h.setCell (p := ⟨r, i, none⟩) (Nat.le_refl r) u
theorem bel_alloc {a w : World} {r : Nat} (hl : r < a.heap.size) (h : Below r a w) (o : Obj) : Below r a (w.alloc o) := h.alloc (by have := h.size; omega) o

set_option maxRecDepth 100000 in
set_option maxHeartbeats 1000000 in
theorem apply_low (r kb : Nat) (L low t : Int) (ru vo ve ar fi : ByteArray) (ex : Value) (w : World) (hr : Rul w r L ru vo ex low) (ht : t < L) :
    Calls Tryd.prog 10 #[.pointer (some ⟨r, 0, none⟩), .pointer (some ⟨kb, 0, none⟩), .agg #[.int .i64 1, .int .i64 t, .string ve, .string ar, .string fi]] w fun e w' => e = .returned .nilIface ∧ Below w.heap.size w w' := by
  obtain ⟨c0, c1, c2, c3, c4, c5, c6, f0, f1, f2, f3, f6⟩ := hr
  have hlt := World.block_lt_of_cell? _ _ c0
  go_enter Tryd.func10, Tryd.ntmps10
  go_wp2
  go_quiet (fail)
  go_wp2
  go_ret
  exact ⟨rfl, below_drewN ((Below.refl _ _).alloc (Nat.le_refl _) _) _⟩

set_option maxRecDepth 100000 in
set_option maxHeartbeats 1000000 in
theorem apply_up (r kb : Nat) (L low t : Int) (ru vo id ve ar fi : ByteArray) (ex : Value) (w : World) (hr : Rul w r L ru vo ex low) (hk : w.cell? ⟨kb, 0, none⟩ = some (.string id)) (ht : ¬ t < L) :
    Calls Tryd.prog 10 #[.pointer (some ⟨r, 0, none⟩), .pointer (some ⟨kb, 0, none⟩), .agg #[.int .i64 1, .int .i64 t, .string ve, .string ar, .string fi]] w fun e w' => e = .returned .nilIface ∧ Rul w' r t id (voteOf vo ve) ex low ∧ Below r w w' := by
  have HR : Hid (Rul w r L ru vo ex low) := hr
  obtain ⟨c0, c1, c2, c3, c4, c5, c6, f0, f1, f2, f3, f6⟩ := hr
  have hlt := World.block_lt_of_cell? _ _ c0
  have hltk := World.block_lt_of_cell? _ _ hk
  go_enter Tryd.func10, Tryd.ntmps10
  go_wp2
  go_quiet (fail)
  go_wp2
  go_region
  go_wp2
  · go_ret
    refine ⟨rfl, ?_, ?_⟩
    · rw [vote_some (by assumption)]
      repeat (first | exact HR.out | apply Rul.drew | apply Rul.drewN | apply Rul.set0 | apply Rul.set1 | apply Rul.set2 | apply Rul.set3 | apply Rul.set6 | apply Rul.alloc)
    · repeat (first | exact Below.refl _ _ | apply Below.drew | apply below_drewN | apply bel_set | refine bel_alloc hlt ?_ _)
  · go_ret
    refine ⟨rfl, ?_, ?_⟩
    · rw [vote_none (by assumption)]
      repeat (first | exact HR.out | apply Rul.drew | apply Rul.drewN | apply Rul.set0 | apply Rul.set1 | apply Rul.set2 | apply Rul.set3 | apply Rul.set6 | apply Rul.alloc)
    · repeat (first | exact Below.refl _ _ | apply Below.drew | apply below_drewN | apply bel_set | refine bel_alloc hlt ?_ _)

set_option maxRecDepth 100000 in
set_option maxHeartbeats 1000000 in
theorem apply_under (r kb : Nat) (L low t : Int) (ru vo ve ar fi : ByteArray) (ex : Value) (w : World) (hr : Rul w r L ru vo ex low) (ht : ¬ t < L) :
    Calls Tryd.prog 10 #[.pointer (some ⟨r, 0, none⟩), .pointer (some ⟨kb, 0, none⟩), .agg #[.int .i64 2, .int .i64 t, .string ve, .string ar, .string fi]] w fun e w' => e = .returned .nilIface ∧ Below w.heap.size w w' := by
  obtain ⟨c0, c1, c2, c3, c4, c5, c6, f0, f1, f2, f3, f6⟩ := hr
  have hlt := World.block_lt_of_cell? _ _ c0
  go_enter Tryd.func10, Tryd.ntmps10
  go_wp2
  go_quiet (fail)
  go_wp2
  go_ret
  exact ⟨rfl, below_drewN ((Below.refl _ _).alloc (Nat.le_refl _) _) _⟩

theorem Names.kept {w w' : World} {B : Nat} (h : Names w) (hB : 0 < B) (hb : Below B w w') : Names w' :=
  ⟨(hb.cell (by exact hB)).trans h.1, (hb.cell (by exact hB)).trans h.2.1, (hb.cell (by exact hB)).trans h.2.2⟩
theorem keep_alloc {X : World} {a : Addr} {v : Value} {o : Obj} (h : X.cell? a = some v) : (X.alloc o).cell? a = some v := by
  rw [World.cell?_alloc_lt _ _ _ (World.block_lt_of_cell? _ _ h)]; exact h
theorem keep_set {X : World} {p a : Addr} {u v : Value} (hne : p ≠ a) (h : X.cell? a = some v) : (X.setCell p u).cell? a = some v := by
  rw [World.cell?_setCell_other _ _ _ _ hne]; exact h
theorem addr_ne {b b' o o' : Nat} (h : o ≠ o' ∨ b ≠ b') : (⟨b, o, none⟩ : Addr) ≠ ⟨b', o', none⟩ := by
  intro e; injection e with e1 e2 _; rcases h with h | h
  · exact h e2
  · exact h e1
end Go.Proofs.Qxb6609046aDoor
