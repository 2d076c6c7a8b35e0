/-
  THE WALK OF FnLacksLowerOne (4), out of the callees' contracts.
-/
import Derived.Test.Qxb6609016aInsert
namespace Go.Proofs.Qxb6609016a
open Go.RowKit Go.Maps

theorem bool_of_both {a b c : Bool} {p : Prop} (ha : a = true ↔ p) (h : p ↔ (b = true ∧ c = true)) : (a == (b && c)) = true := by
  have : (a = true ↔ (b = true ∧ c = true)) := by rw [ha]; exact h
  revert this
  cases a <;> cases b <;> cases c <;> simp

set_option maxRecDepth 100000 in
set_option maxHeartbeats 1000000 in
theorem lower_walk (a0 : Option Addr) (len0 cap0 : Nat) (X0 Y0 : Nat → Int) (k v : Int) (w : World)
    (h0 : IsEntries w a0 len0 X0 Y0) (hk : (Lit.int .u64 k).wf = true) (hv : (Lit.int .u64 v).wf = true) :
    Calls Try.prog 4 #[.slice a0 len0 cap0, .int .u64 k, .int .u64 v] w fun e w' => e = .returned (.bool true) ∧ Below w.heap.size w w' := by
  have m0 := h0.1
  have M0 := m0
  unfold maxLen at M0
  go_enter Try.func4, Try.ntmps4
  go_wp2_with fail
  refine (bytes11_any a0 len0 cap0 k v _ m0).mono ?_
  rintro e w' ⟨⟨t, rfl⟩, rfl⟩
  cases t
  · go_wp2
    go_ret
    exact ⟨rfl, Below.refl _ _⟩
  by_cases c0 : (65536 : Int) < len0
  · go_wp2
    go_ret
    exact ⟨rfl, Below.refl _ _⟩
  go_wp2_with fail
  refine (entries_any a0 len0 cap0 X0 Y0 _ h0 (by omega)).mono ?_
  rintro e w1 ⟨rfl, hO1, b1⟩
  go_wp2_with fail
  refine (entries_any a0 len0 cap0 X0 Y0 _ (h0.below b1) (by omega)).mono ?_
  rintro e w2 ⟨rfl, hL2, b2⟩
  have l1 := hO1.lt
  have s1 := b1.size
  have s2 := b2.size
  have hO2 := hO1.kept (grown_of_below b2) (by simp)
  have B2 : Below w.heap.size w w2 := b1.trans (b2.mono s1)
  go_wp2_with (first
    | (at_mapUpdate; refine wpList_mapUpdate_own _ rfl _ _ _ 25 rfl 23 23 law23 Try.underlying25 _ w1.heap.size len0 _ rfl hL2 (by unfold maxLen; omega) _ _ _ rfl rfl (keyOf_int_mk Try.underlying23 hk) _ [] (plainElem_int Try.underlying23 hv) ?_; intro w3 hP3 hg3; have hO3 := hO2.kept hg3 (by intro e; simp at e; omega))
    | (at_lookup; refine wpList_lookup_own_ok_int _ rfl _ _ 25 rfl 23 23 .u64 law23 Try.underlying25 Try.underlying23 (zero23 _) w.heap.size len0 _ rfl hO3 _ _ rfl (keyOf_int_mk Try.underlying23 hk) ?_; intro d hatd hwd))
  have HS : Hid (seqAt (entriesTo (H := Unit) X0 Y0 len0) k = d) := by show num ((entriesTo (H := Unit) X0 Y0 len0).atKey (.int .u64 k) (.lit (.int .u64 0))) = d; rw [hatd]; rfl
  have s3 := hg3.size
  have B3 : Below w.heap.size w w3 := B2.grown hg3 B2.size (fun j hj => by cases hj; exact s1)
  clear hatd hO1 hO2 hL2 b1 b2 B2 hg3
  refine (zzLacks_any w.heap.size w.heap.size len0 len0 _ _ _ hO3 hO3).mono ?_
  rintro e w4 ⟨⟨t1, rfl, ht1⟩, b4⟩
  obtain rfl : t1 = false := by
    cases t1
    · rfl
    · exact absurd (ht1.1 rfl) (lacks_self _)
  have hO4 := hO3.kept (grown_of_below b4) (by simp)
  have hP4 := hP3.kept (grown_of_below b4) (by simp)
  have B4 : Below w.heap.size w w4 := B3.trans (b4.mono B3.size)
  have law := Hid.mk' (lacks_lower (entriesTo_isMap (H := Unit) X0 Y0 len0) k v)
  clear ht1 hO3 hP3
  go_wp2_with fail
  refine (zzLacks_any w1.heap.size w.heap.size (len0 + 1) len0 _ _ _ hP4 hO4).mono ?_
  rintro e w5 ⟨⟨t2, rfl, ht2⟩, b5⟩
  have B5 : Below w.heap.size w w5 := B4.trans (b5.mono B4.size)
  have T2 := Hid.mk' ht2
  clear ht2 hO4 hP4 b4 b5 B4 B3
  have fin := bool_of_both (b := Maps.has (entriesTo (H := Unit) X0 Y0 len0) (.int .u64 k)) (c := afterB d v) T2.out (by have := law.out; rw [HS.out] at this; exact this)
  clear law T2 HS
  generalize Maps.has (entriesTo (H := Unit) X0 Y0 len0) (.int .u64 k) = ok at fin ⊢
  cases ok
  · go_wp2
    go_ret
    exact ⟨ret_bool (by simpa using fin), B5⟩
  · go_wp2_with fail
    refine (comesAfter_any d v _ hwd hv).mono ?_
    rintro e w6 ⟨rfl, rfl⟩
    go_wp2
    go_ret
    exact ⟨ret_bool (by simpa using fin), B5⟩
end Go.Proofs.Qxb6609016a
