/-
  THE WALKS OF THIS SEAT's CALLEES: CountAfter (22), countComesAfter (10), the two bounds (7, 11), entriesMap (8), lacks (19), ZZlacks (9).
-/
import Derived.Test.Qxb6609016aRows
import Derived.Test.Qxb6609016aPlain
import Derived.WalkKit
import Derived.ProofKit
import Derived.Maps.OwnOps
import Derived.Maps.OwnSet
import Derived.Maps.RangeWalk
import Derived.RegionTactic
import Derived.ChangeAlike
namespace Go.Proofs.Qxb6609016a
open Go.RowKit Go.Maps

theorem ret_bool {a b : Bool} (h : a = b) : Ending.returned (.bool a) = .returned (.bool b) := by rw [h]

theorem countAfter_any (a b : Int) (w : World) :
    Calls Try.prog 22 #[.int .u64 a, .int .u64 b] w fun e w' => e = .returned (.bool (afterB a b)) ∧ w' = w := by
  by_cases h0 : a = 0
  · subst h0
    go_enter Try.func22, Try.ntmps22
    go_wp2
    go_ret
    exact ⟨ret_bool (after_zero b).symm, rfl⟩
  · by_cases h1 : b = 0
    · subst h1
      go_enter Try.func22, Try.ntmps22
      go_wp2
      go_ret
      exact ⟨ret_bool (by rw [after_none h0]; simp [h0]), rfl⟩
    · have e0 : (a == 0) = false := by simp [h0]
      have e1 : (b == 0) = false := by simp [h1]
      have HE : Hid (afterB a b = (a != b && decide (IntKind.u64.wrap (a - b) < 9223372036854775808))) := after_else h0 h1
      by_cases h2 : a = b
      · subst h2
        go_enter Try.func22, Try.ntmps22
        go_wp2
        go_ret
        exact ⟨ret_bool (after_self a).symm, rfl⟩
      · go_enter Try.func22, Try.ntmps22
        go_wp2
        go_ret
        exact ⟨ret_bool (HE.out).symm, rfl⟩

theorem comesAfter_any (a b : Int) (w : World) (ha : (Lit.int .u64 a).wf = true) (hb : (Lit.int .u64 b).wf = true) :
    Calls Try.prog 10 #[.int .u64 a, .int .u64 b] w fun e w' => e = .returned (.bool (afterB a b)) ∧ w' = w := by
  by_cases h0 : a = 0
  · subst h0
    go_enter Try.func10, Try.ntmps10
    go_wp2
    go_ret
    exact ⟨ret_bool (after_zero b).symm, rfl⟩
  · have e0 : (a == 0) = false := by simp [h0]
    by_cases h1 : b = 0
    · subst h1
      go_enter Try.func10, Try.ntmps10
      go_wp2
      go_ret
      exact ⟨ret_bool (after_none h0).symm, rfl⟩
    · have e1 : (b == 0) = false := by simp [h1]
      have HE : Hid (afterB a b = (a != b && decide (IntKind.u64.wrap (a - b) < 9223372036854775808))) := after_else h0 h1
      have HW : Hid ((IntKind.u64.wrap (a - b) != 0) = (a != b)) := wrap_zero ha hb
      clear ha hb
      go_enter Try.func10, Try.ntmps10
      go_wp2
      all_goals
        go_ret
        refine ⟨ret_bool ?_, rfl⟩
        first | (rw [HE.out, ← HW.out]; done) | (rw [HE.out, ← HW.out]; simp [*])

theorem bytes7_any (a0 : Option Addr) (len0 cap0 : Nat) (a1 : Option Addr) (len1 cap1 : Nat) (k v : Int) (w : World) (h0 : len0 ≤ maxLen) (h1 : len1 ≤ maxLen) :
    Calls Try.prog 7 #[.slice a0 len0 cap0, .slice a1 len1 cap1, .int .u64 k, .int .u64 v] w fun e w' => (∃ t, e = .returned (.bool t)) ∧ w = w' := by
  unfold maxLen at h0 h1
  go_enter Try.func7, Try.ntmps7
  go_wp2
  all_goals
    go_ret
    exact ⟨⟨_, rfl⟩, rfl⟩

theorem bytes11_any (a0 : Option Addr) (len0 cap0 : Nat) (k v : Int) (w : World) (h0 : len0 ≤ maxLen) :
    Calls Try.prog 11 #[.slice a0 len0 cap0, .int .u64 k, .int .u64 v] w fun e w' => (∃ t, e = .returned (.bool t)) ∧ w = w' := by
  unfold maxLen at h0
  go_enter Try.func11, Try.ntmps11
  go_wp2
  all_goals
    go_ret
    exact ⟨⟨_, rfl⟩, rfl⟩

theorem law23 : Keyed Try.prog 23 := int_keyed Try.underlying23
theorem zero23 (w : World) : (zeroValue 23).run Try.prog w = .ok (.int .u64 0) w := by kernel_rfl

/-- WHAT THE WALK IS TOLD OF A SLICE OF ENTRIES THAT CAME IN. -/
def IsEntries (w : World) (a : Option Addr) (len : Nat) (X Y : Nat → Int) : Prop :=
  len ≤ maxLen ∧ ∀ i, i < len → ∃ b off, a = some ⟨b, off, none⟩ ∧ b < w.heap.size ∧ w.cell? ⟨b, off + i * 2, none⟩ = some (.int .u64 (X i)) ∧ w.cell? ⟨b, off + i * 2 + 1, none⟩ = some (.int .u64 (Y i)) ∧ (Lit.int .u64 (X i)).wf = true ∧ (Lit.int .u64 (Y i)).wf = true

set_option maxRecDepth 100000 in
set_option maxHeartbeats 400000 in
theorem entries_any (a : Option Addr) (len cap : Nat) (X Y : Nat → Int) (w : World) (hE : IsEntries w a len X Y) (hlen : len ≤ 65536) :
    Calls Try.prog 8 #[.slice a len cap] w fun e w' => e = .returned (.map (some w.heap.size)) ∧ w'.ownsMap Try.prog 23 (plainElem (H := Unit) Try.prog 23) w.heap.size len (entriesTo X Y len) ∧ Below w.heap.size w w' := by
  obtain ⟨_, hE⟩ := hE
  have hmm := @run_makeMap Try.prog
  go_enter Try.func8, Try.ntmps8
  go_wp2
  go_loopw [4] (fun i wr => ∃ k : Nat, k ≤ len ∧ i = .int .i64 k ∧ wr.ownsMap Try.prog 23 (plainElem (H := Unit) Try.prog 23) w.heap.size k (entriesTo X Y k) ∧ Below w.heap.size w wr)
    (fun i _ => len - (intOf i).toNat)
  case atStart => exact ⟨0, Nat.zero_le _, rfl, World.ownsMap_made _ _ _ _, (Below.refl _ _).alloc (Nat.le_refl _) _⟩
  case round =>
    obtain ⟨k, hk, rfl, hown, hnx⟩ := hrel
    by_cases hlt : k < len
    · obtain ⟨b, off, rfl, hb, hc0, hc1, hw0, hw1⟩ := hE k hlt
      have c0 : wr.cell? ⟨b, off + k * 2, none⟩ = some (.int .u64 (X k)) := (hnx.cell (by exact hb)).trans hc0
      have c1 : wr.cell? ⟨b, off + k * 2 + 1, none⟩ = some (.int .u64 (Y k)) := (hnx.cell (by exact hb)).trans hc1
      obtain ⟨w1, hrun, hown1, hgrow1⟩ := (hown.drew).update law23 Try.underlying25 (by unfold maxLen; omega) (keyOf_int_mk Try.underlying23 hw0) (plainElem_int Try.underlying23 hw1)
      clear hE hc0 hc1
      go_wp2
      go_region
      go_wp2
      go_roundw
      case rel => exact ⟨k + 1, by omega, by go_num, hown1, (hnx.drew).grown hgrow1 hnx.size (fun j hj => by cases hj; exact Nat.le_refl _)⟩
      case measure => simp [intOf]; omega
    · obtain rfl : k = len := by omega
      go_wp2
      go_ret
      exact ⟨rfl, hown, hnx⟩

/-- A fact on the numbers of a key's step. -/
theorem strike_other {left : Lit → Bool} {x y : Int} (h : y ≠ x) : (left (key y) && !(key y).sameKey (.int .u64 x)) = left (key y) := by
  simp [key, Lit.sameKey, h]

theorem grown_of_below {a b : World} (h : Below a.heap.size a b) : a.grownBy b none := ⟨h.os, h.tape, h.output, h.size, fun k hk _ => h.block k hk⟩

set_option maxRecDepth 100000 in
set_option maxHeartbeats 400000 in
theorem lacks_any (bl bo nl no : Nat) (L O : DataW Unit) (w : World) (hL : w.ownsMap Try.prog 23 (plainElem Try.prog 23) bl nl L) (hO : w.ownsMap Try.prog 23 (plainElem Try.prog 23) bo no O) :
    Calls Try.prog 19 #[.map (some bl), .map (some bo)] w fun e w' => (∃ t, e = .returned (.bool t) ∧ (t = true ↔ Lacks L O)) ∧ Below w.heap.size w w' := by
  have hbl := hL.lt
  go_enter Try.func19, Try.ntmps19
  go_wp2_with (first
    | (at_range; refine wpList_range_own _ rfl _ 25 rfl 23 23 law23 Try.underlying25 _ bo no _ rfl hO ?_; intro w0 hrg0 hg0 hs0)
    | go_in)
  go_frame
  go_loopw [5, 6] (fun _ _ wr => ∃ (left : Lit → Bool) (cnt : Nat), wr.ranges Try.prog 23 (plainElem Try.prog 23) bo w.heap.size no O left cnt ∧ wr.ownsMap Try.prog 23 (plainElem Try.prog 23) bl nl L ∧ Below w.heap.size w wr ∧ w.heap.size < wr.heap.size
      ∧ (∀ z, left z = true → Maps.has O z = true) ∧ (∀ x, Maps.has O (key x) = true → left (key x) = false → afterB (seqAt O x) (seqAt L x) = false))
    (fun _ _ wr => wr.rangeLeft bo w.heap.size)
  case atStart => exact ⟨_, _, hrg0, hL.kept hg0 (by simp), (Below.refl _ _).grown hg0 (Nat.le_refl _) (by simp), by omega, fun z hz => hz, fun x h1 h2 => by rw [h1] at h2; cases h2⟩
  case round =>
    obtain ⟨left, cnt, hrg, hLr, hnx, hsz, hleft, hdone⟩ := hrel
    have HD : Hid (∀ x, Maps.has O (key x) = true → left (key x) = false → afterB (seqAt O x) (seqAt L x) = false) := hdone
    have HL : Hid (∀ z, left z = true → Maps.has O z = true) := hleft
    clear hdone hleft
    go_wp2_with (first
      | (at_next; refine wpList_next_ranges_ii _ rfl _ rfl 23 23 .u64 .u64 law23 Try.underlying23 Try.underlying23 bo w.heap.size no _ _ _ rfl hrg ?_ ?_)
      | go_in)
    · intro _ hl0
      have HL0 : Hid (∀ kl, left kl = false) := hl0
      clear hl0
      go_wp2
      go_ret
      refine ⟨⟨false, rfl, ⟨(fun h => by cases h), ?_⟩⟩, hnx⟩
      rintro ⟨x, hx, hc⟩
      rw [HD.out x hx (HL0.out _)] at hc
      cases hc
    · intro x c w1 cnt1 hwx hwc hlx hat hrg1 hlt hg1 hs1 hen
      have hL1 := hLr.kept hg1 (by intro e; simp at e; omega)
      have HX : Hid (left (key x) = true) := hlx
      have HA : Hid (seqAt O x = c) := by show num (O.atKey (.int .u64 x) _) = c; rw [hat]; rfl
      clear hlx hat
      go_wp2_with (at_lookup; refine wpList_lookup_own_int _ rfl _ _ 25 rfl 23 23 .u64 law23 Try.underlying25 Try.underlying23 (zero23 _) bl nl _ rfl hL1 _ _ rfl (keyOf_int_mk Try.underlying23 hwx) ?_; intro d hatd hwd)
      have HB : Hid (seqAt L x = d) := by show num (L.atKey (.int .u64 x) (.lit (.int .u64 0))) = d; rw [hatd]; rfl
      clear hatd
      refine (countAfter_any c d _).mono ?_
      rintro e w2 ⟨rfl, rfl⟩
      cases hcd : afterB c d
      · have HC : Hid (afterB c d = false) := hcd
        clear hcd
        go_wp2
        go_roundw
        case rel =>
          refine ⟨_, cnt1, hrg1, hL1, hnx.grown hg1 (by omega) (fun j hj => by cases hj; exact Nat.le_refl _), by omega, ?_, ?_⟩
          · intro z hz
            have hz' : (left z && !z.sameKey (.int .u64 x)) = true := hz
            simp only [Bool.and_eq_true] at hz'
            exact HL.out z hz'.1
          · intro y hy1 hy2
            by_cases hyx : y = x
            · subst hyx
              rw [HA.out, HB.out]
              exact HC.out
            · have hy3 : (left (key y) && !(key y).sameKey (.int .u64 x)) = false := hy2
              rw [strike_other hyx] at hy3
              exact HD.out y hy1 hy3
        case measure => rw [hrg1.left_eq, hrg.left_eq]; exact hlt
      · have HC : Hid (afterB c d = true) := hcd
        clear hcd
        go_wp2
        go_ret
        refine ⟨⟨true, rfl, ⟨fun _ => ⟨x, HL.out _ HX.out, ?_⟩, fun _ => rfl⟩⟩, hnx.grown hg1 (by omega) (fun j hj => by cases hj; exact Nat.le_refl _)⟩
        rw [HA.out, HB.out]
        exact HC.out

theorem zzLacks_any (bl bo nl no : Nat) (L O : DataW Unit) (w : World) (hL : w.ownsMap Try.prog 23 (plainElem Try.prog 23) bl nl L) (hO : w.ownsMap Try.prog 23 (plainElem Try.prog 23) bo no O) :
    Calls Try.prog 9 #[.map (some bl), .map (some bo)] w fun e w' => (∃ t, e = .returned (.bool t) ∧ (t = true ↔ Lacks L O)) ∧ Below w.heap.size w w' := by
  go_enter Try.func9, Try.ntmps9
  go_wp2_with fail
  refine (lacks_any bl bo nl no L O _ hL hO).mono ?_
  rintro e w1 ⟨⟨t, rfl, ht⟩, hb⟩
  have HT : Hid (t = true ↔ Lacks L O) := ht
  clear ht
  go_wp2
  go_ret
  exact ⟨⟨t, rfl, HT.out⟩, hb⟩
end Go.Proofs.Qxb6609016a
