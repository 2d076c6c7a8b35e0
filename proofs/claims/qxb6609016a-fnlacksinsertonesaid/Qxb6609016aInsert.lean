/-
  THE WALK OF FnLacksInsertOne (3), out of the callees' contracts.
-/
import Derived.Test.Qxb6609016aWalks
namespace Go.Proofs.Qxb6609016a
open Go.RowKit Go.Maps

theorem IsEntries.below {w w' : World} {a : Option Addr} {len : Nat} {X Y : Nat → Int} (h : IsEntries w a len X Y) (hb : Below w.heap.size w w') : IsEntries w' a len X Y := by
  refine ⟨h.1, fun i hi => ?_⟩
  obtain ⟨b, off, e, hlt, c0, c1, f0, f1⟩ := h.2 i hi
  exact ⟨b, off, e, Nat.lt_of_lt_of_le hlt hb.size, (hb.cell (by exact hlt)).trans c0, (hb.cell (by exact hlt)).trans c1, f0, f1⟩

theorem IsEntries.nil (w : World) : IsEntries w none 0 (fun _ => 0) (fun _ => 0) := ⟨Nat.zero_le _, fun _ hi => absurd hi (Nat.not_lt_zero _)⟩

theorem Hid.mk' {p : Prop} (h : p) : Hid p := h
theorem bool_of_iff {a b c : Bool} {p q : Prop} (ha : a = true ↔ p) (hb : b = true ↔ q) (h : p ↔ (q ∨ c = true)) : (a == (b || c)) = true := by
  have : (a = true ↔ (b = true ∨ c = true)) := by rw [ha, hb]; exact h
  revert this
  cases a <;> cases b <;> cases c <;> simp

set_option maxRecDepth 100000 in
set_option maxHeartbeats 1000000 in
theorem insert_walk (a0 : Option Addr) (len0 cap0 : Nat) (X0 Y0 : Nat → Int) (a1 : Option Addr) (len1 cap1 : Nat) (X1 Y1 : Nat → Int) (k v : Int) (w : World)
    (h0 : IsEntries w a0 len0 X0 Y0) (h1 : IsEntries w a1 len1 X1 Y1) (hk : (Lit.int .u64 k).wf = true) (hv : (Lit.int .u64 v).wf = true) :
    Calls Try.prog 3 #[.slice a0 len0 cap0, .slice a1 len1 cap1, .int .u64 k, .int .u64 v] w fun e w' => e = .returned (.bool true) ∧ Below w.heap.size w w' := by
  have m0 := h0.1
  have m1 := h1.1
  have M0 := m0
  have M1 := m1
  unfold maxLen at M0 M1
  go_enter Try.func3, Try.ntmps3
  go_wp2_with fail
  refine (bytes7_any a0 len0 cap0 a1 len1 cap1 k v _ m0 m1).mono ?_
  rintro e w' ⟨⟨t, rfl⟩, rfl⟩
  cases t
  · go_wp2
    go_ret
    exact ⟨rfl, Below.refl _ _⟩
  by_cases c0 : (32768 : Int) < len0
  · go_wp2
    go_ret
    exact ⟨rfl, Below.refl _ _⟩
  by_cases c1 : (32768 : Int) < len1
  · go_wp2
    go_ret
    exact ⟨rfl, Below.refl _ _⟩
  go_wp2_with fail
  refine (entries_any a0 len0 cap0 X0 Y0 _ h0 (by omega)).mono ?_
  rintro e w1 ⟨rfl, hL1, b1⟩
  go_wp2_with fail
  refine (entries_any a1 len1 cap1 X1 Y1 _ (h1.below b1) (by omega)).mono ?_
  rintro e w2 ⟨rfl, hO2, b2⟩
  have l1 := hL1.lt
  have s1 := b1.size
  have s2 := b2.size
  have hL2 := hL1.kept (grown_of_below b2) (by simp)
  have B2 : Below w.heap.size w w2 := b1.trans (b2.mono s1)
  go_wp2_with (at_delete; refine wpList_delete_own _ rfl _ _ 25 23 rfl 23 law23 Try.underlying25 _ w1.heap.size len1 _ rfl hO2 _ _ rfl (keyOf_int_mk Try.underlying23 hk) ?_; intro w3 hD3 hturn3)
  have hL3 := hL2.kept hturn3.grown (by intro e; simp at e; omega)
  have s3 := hturn3.grown.size
  have B3 : Below w.heap.size w w3 := B2.grown hturn3.grown B2.size (fun j hj => by cases hj; exact s1)
  refine (entries_any a1 len1 cap1 X1 Y1 _ (h1.below B3) (by omega)).mono ?_
  rintro e w4 ⟨rfl, hO4, b4⟩
  have s4 := b4.size
  have l3 := hD3.lt
  have hL4 := hL3.kept (grown_of_below b4) (by simp)
  have hD4 := hD3.kept (grown_of_below b4) (by simp)
  have B4 : Below w.heap.size w w4 := B3.trans (b4.mono B3.size)
  go_wp2_with (at_mapUpdate; refine wpList_mapUpdate_own _ rfl _ _ _ 25 rfl 23 23 law23 Try.underlying25 _ w3.heap.size len1 _ rfl hO4 (by unfold maxLen; omega) _ _ _ rfl rfl (keyOf_int_mk Try.underlying23 hk) _ [] (plainElem_int Try.underlying23 hv) ?_; intro w5 hP5 hg5)
  have hL5 := hL4.kept hg5 (by intro e; simp at e; omega)
  have hD5 := hD4.kept hg5 (by intro e; simp at e; omega)
  have s5 := hg5.size
  have B5 : Below w.heap.size w w5 := B4.grown hg5 B4.size (fun j hj => by cases hj; exact B3.size)
  clear hL1 hL2 hL3 hL4 hO2 hD3 hD4 hO4 hturn3 hg5 b1 b2 b4 B2 B3 B4
  refine (zzLacks_any w.heap.size w3.heap.size len0 (len1 + 1) _ _ _ hL5 hP5).mono ?_
  rintro e w6 ⟨⟨t1, rfl, ht1⟩, b6⟩
  have T1 := Hid.mk' ht1
  clear ht1
  have hL6 := hL5.kept (grown_of_below b6) (by simp)
  have hD6 := hD5.kept (grown_of_below b6) (by simp)
  have B6 : Below w.heap.size w w6 := B5.trans (b6.mono B5.size)
  go_wp2_with fail
  refine (zzLacks_any w.heap.size w1.heap.size len0 len1 _ _ _ hL6 hD6).mono ?_
  rintro e w7 ⟨⟨t2, rfl, ht2⟩, b7⟩
  have T2 := Hid.mk' ht2
  clear ht2
  have hL7 := hL6.kept (grown_of_below b7) (by simp)
  have B7 : Below w.heap.size w w7 := B6.trans (b7.mono B6.size)
  have law := Hid.mk' (lacks_insert (entriesTo (H := Unit) X0 Y0 len0) (entriesTo_isMap (H := Unit) X1 Y1 len1) k v)
  obtain ⟨d, hrun, hatd, hwd⟩ := hL7.lookup_int law23 Try.underlying25 Try.underlying23 (zero23 _) (keyOf_int_mk Try.underlying23 hk)
  have HS : Hid (seqAt (entriesTo (H := Unit) X0 Y0 len0) k = d) := by show num ((entriesTo (H := Unit) X0 Y0 len0).atKey (.int .u64 k) (.lit (.int .u64 0))) = d; rw [hatd]; rfl
  clear hatd hL5 hL6 hD5 hD6 hP5 b6 b7
  cases t2
  · go_wp2_with fail
    refine (comesAfter_any v d _ hv hwd).mono ?_
    rintro e w8 ⟨rfl, rfl⟩
    have fin := bool_of_iff T1.out T2.out (by have := law.out; rw [HS.out] at this; exact this)
    clear law hrun
    generalize afterB v d = t3 at fin
    go_wp2
    go_ret
    exact ⟨ret_bool (by simpa using fin), B7⟩
  · have fin := bool_of_iff (c := afterB v d) T1.out T2.out (by have := law.out; rw [HS.out] at this; exact this)
    clear law hrun
    go_wp2
    go_ret
    exact ⟨ret_bool (by simpa using fin), B7⟩
end Go.Proofs.Qxb6609016a
