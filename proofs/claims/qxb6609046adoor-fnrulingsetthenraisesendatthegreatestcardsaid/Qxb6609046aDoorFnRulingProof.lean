/-
  THE PROOF OF 'Rows.FnRulingSetThenRaisesEndAtTheGreatestCardSaid': the row, then the card by the builder's one call. The frame is the kit's own at this function's number and types.
-/
import Derived.Test.Qxb6609046aDoorTie
import Derived.Test.Qxb6609046aDoorCards
import Derived.Test.Qxb6609046aDoorLawHead
import Derived.Test.Qxb6609046aDoorOpen
import Derived.ShutString
import Derived.ChangeOld
import Derived.SevenTiedAt
namespace Go.Proofs.Qxb6609046aDoor.fnRuling
open Go.ChangeShapes Go.WideShapes Go.ChangeAt Go.RowKit
open Go.ChangeMaps (open_string shut_string)
set_option linter.unusedVariables false

theorem own : ownKnob Tryd.prog.godebug = none := by kernel_rfl
theorem laidOut : laidOutB Tryd.prog = true := by kernel_rfl

set_option maxRecDepth 100000 in
set_option maxHeartbeats 1000000 in
theorem lifted (os : Os) (started : os.Started) (H : Type) (enc : TypeId × Value → H) :
    ReturnsInHanded {} Tryd.checked os 3 .any (fun w args => (Rows.fnRulingSetThenRaisesEndAtTheGreatestSpec.pre enc Tryd.prog Tryd.f3 Rows.fnRulingSetThenRaisesEndAtTheGreatestRow.domain false w args ∧ laidMetH Tryd.prog Rows.fnRulingSetThenRaisesEndAtTheGreatestRow.laid w) ∧ sizedMet enc Tryd.prog Tryd.f3 (OpenSpec.ofChange Rows.fnRulingSetThenRaisesEndAtTheGreatestSpec) false w args)
      (Rows.fnRulingSetThenRaisesEndAtTheGreatestSpec.post enc Tryd.prog Tryd.f3 false true false false) := by
  refine returnsInHanded_of_change_and (C := Tryd.checked) (X := fun w _ => laidMetH Tryd.prog Rows.fnRulingSetThenRaisesEndAtTheGreatestRow.laid w) (fun _ _ _ hh h => h.of_heap hh) own started (by kernel_rfl) Tryd.func3
    (ChangeSpec.witness_shaped (enc := enc) (C := Tryd.checked) (os := os) (X := fun w _ => laidMetH Tryd.prog Rows.fnRulingSetThenRaisesEndAtTheGreatestRow.laid w) false (World.laidAll Tryd.prog os Rows.fnRulingSetThenRaisesEndAtTheGreatestRow.laid) #[.int .i64 0, .string ⟨#[]⟩, .string ⟨#[]⟩, .int .i64 0, .string ⟨#[]⟩, .string ⟨#[]⟩, .int .i64 0, .string ⟨#[]⟩, .string ⟨#[]⟩, .slice none 0 0, .slice none 0 0, .slice none 0 0] 8 (World.laidAll_os _ _ _)
      (World.shaped_of_ZipB (by kernel_rfl) (by kernel_rfl)) (by kernel_rfl) (by kernel_rfl) (by kernel_rfl)
      (by rw [MakeChecks.laidMetH_plain _ _ _ (by kernel_rfl)]; exact laidMet_laidAll _ (by kernel_rfl) (by kernel_rfl))) ?_
  intro W base args ds gs before hval0 hW _ _ hL _
  have hval : ∀ (j : Nat) t v, Tryd.f3.params[j]? = some t → args[j]? = some v → Value.okWide Tryd.prog W .any base t v := hval0
  have hW' := hW
  obtain ⟨p, q, hA0, hV0, rfl, hfz, hnd⟩ := hW
  have hA : DataW.TrodAll enc Tryd.prog W 0 (fun _ => true) true Tryd.f3.params.toList args.toList ds p := hA0
  have hV : DataW.TrodVars enc Tryd.prog W (fun _ => true) [nm] gs q := hV0
  rw [Tryd.params3] at hA hval
  obtain ⟨v0, vs0, d0, ds0, p0, q0, hargs, rfl, rfl, h0, r0⟩ := trodAll_cons hA
  obtain ⟨v1, vs1, d1, ds1, p1, q1, rfl, rfl, rfl, h1, r1⟩ := trodAll_cons r0
  obtain ⟨v2, vs2, d2, ds2, p2, q2, rfl, rfl, rfl, h2, r2⟩ := trodAll_cons r1
  obtain ⟨v3, vs3, d3, ds3, p3, q3, rfl, rfl, rfl, h3, r3⟩ := trodAll_cons r2
  obtain ⟨v4, vs4, d4, ds4, p4, q4, rfl, rfl, rfl, h4, r4⟩ := trodAll_cons r3
  obtain ⟨v5, vs5, d5, ds5, p5, q5, rfl, rfl, rfl, h5, r5⟩ := trodAll_cons r4
  obtain ⟨v6, vs6, d6, ds6, p6, q6, rfl, rfl, rfl, h6, r6⟩ := trodAll_cons r5
  obtain ⟨v7, vs7, d7, ds7, p7, q7, rfl, rfl, rfl, h7, r7⟩ := trodAll_cons r6
  obtain ⟨v8, vs8, d8, ds8, p8, q8, rfl, rfl, rfl, h8, r8⟩ := trodAll_cons r7
  obtain ⟨v9, vs9, d9, ds9, p9, q9, rfl, rfl, rfl, h9, r9⟩ := trodAll_cons r8
  obtain ⟨v10, vs10, d10, ds10, p10, q10, rfl, rfl, rfl, h10, r10⟩ := trodAll_cons r9
  obtain ⟨v11, vs11, d11, ds11, p11, q11, rfl, rfl, rfl, h11, r11⟩ := trodAll_cons r10
  obtain ⟨rfl, rfl, rfl⟩ := trodAll_nil r11
  obtain rfl : args = #[v0, v1, v2, v3, v4, v5, v6, v7, v8, v9, v10, v11] := by cases args; simp_all
  obtain ⟨g, tg, cs, fuel, dg, pg, rfl, hg, htg, hvar, hdg, rfl⟩ := trodVars_one hV
  obtain rfl := Option.some.inj (gNames.symm.trans hg)
  obtain rfl := Option.some.inj (tNames.symm.trans htg)
  obtain ⟨a0, rfl, rfl, rfl, w0⟩ := open_int Tryd.underlying3 (hval 0 3 v0 rfl rfl) h0
  obtain ⟨a1, rfl, rfl, rfl, w1⟩ := open_string Tryd.underlying9 (hval 1 9 v1 rfl rfl) h1
  obtain ⟨a2, rfl, rfl, rfl, w2⟩ := open_string Tryd.underlying9 (hval 2 9 v2 rfl rfl) h2
  obtain ⟨a3, rfl, rfl, rfl, w3⟩ := open_int Tryd.underlying3 (hval 3 3 v3 rfl rfl) h3
  obtain ⟨a4, rfl, rfl, rfl, w4⟩ := open_string Tryd.underlying9 (hval 4 9 v4 rfl rfl) h4
  obtain ⟨a5, rfl, rfl, rfl, w5⟩ := open_string Tryd.underlying9 (hval 5 9 v5 rfl rfl) h5
  obtain ⟨a6, rfl, rfl, rfl, w6⟩ := open_int Tryd.underlying3 (hval 6 3 v6 rfl rfl) h6
  obtain ⟨a7, rfl, rfl, rfl, w7⟩ := open_string Tryd.underlying9 (hval 7 9 v7 rfl rfl) h7
  obtain ⟨a8, rfl, rfl, rfl, w8⟩ := open_string Tryd.underlying9 (hval 8 9 v8 rfl rfl) h8
  obtain ⟨a9, len9, cap9, rfl⟩ := okWide_slice Tryd.underlying22 (hval 9 22 v9 rfl rfl)
  have k9 := h9
  have lt9 : ∀ x ∈ p9, x.block < W.heap.size := by obtain ⟨m, hm⟩ := k9; exact DataW.trod_lt m _ _ _ hm
  obtain ⟨X9, w9⟩ := open_nums h9
  obtain ⟨a10, len10, cap10, rfl⟩ := okWide_slice Tryd.underlying23 (hval 10 23 v10 rfl rfl)
  have k10 := h10
  have lt10 : ∀ x ∈ p10, x.block < W.heap.size := by obtain ⟨m, hm⟩ := k10; exact DataW.trod_lt m _ _ _ hm
  obtain ⟨X10, w10⟩ := open_strs h10
  obtain ⟨a11, len11, cap11, rfl⟩ := okWide_slice Tryd.underlying23 (hval 11 23 v11 rfl rfl)
  have k11 := h11
  have lt11 : ∀ x ∈ p11, x.block < W.heap.size := by obtain ⟨m, hm⟩ := k11; exact DataW.trod_lt m _ _ _ hm
  obtain ⟨X11, w11⟩ := open_strs h11
  have hN := names_of_laid hL
  have hw0 : 0 < W.heap.size := World.block_lt_of_cell? _ _ hN.1
  have ltg : ∀ x ∈ pg, x.block < W.heap.size := DataW.trod_lt fuel _ _ _ hdg
  clear hA0 hV0 hval0
  refine (law_walk a0 a3 a6 a1 a2 a4 a5 a7 a8 a9 a10 a11 len9 len10 len11 cap9 cap10 cap11 X9 X10 X11 W w1 w2 w4 w5 w7 w8 w9 w10 w11 hN hw0).mono fun e W' ⟨he, bel⟩ => ?_
  subst he
  have kg : DataW.Trod enc Tryd.prog W 0 (fun _ => true) true 54 (.agg cs) dg pg := ⟨fuel, by simpa [Value.cells] using hdg⟩
  obtain ⟨n, hn⟩ := Below.trod laidOut (by kernel_rfl) (of_decide_eq_true (by kernel_rfl)) kg bel ltg
  have hvars : DataW.TrodVars enc Tryd.prog W' (fun b => decide (b < W.heap.size)) [nm] [dg] (MemPlace.row ⟨0, 0, none⟩ cs.size ++ pg) :=
    trodVars_mk1 (fuel := n) hg htg (var?_below bel hg hw0 hvar) (by simpa [Value.cells] using hn)
  exact ⟨_, rfl, _, _, _, [], _, _, hW', trodAll_mk1 (shut_bool Tryd.underlying4 _), (trodAll_cons_mk (shut_int Tryd.underlying3 w0) (trodAll_cons_mk (shut_string Tryd.underlying9 w1) (trodAll_cons_mk (shut_string Tryd.underlying9 w2) (trodAll_cons_mk (shut_int Tryd.underlying3 w3) (trodAll_cons_mk (shut_string Tryd.underlying9 w4) (trodAll_cons_mk (shut_string Tryd.underlying9 w5) (trodAll_cons_mk (shut_int Tryd.underlying3 w6) (trodAll_cons_mk (shut_string Tryd.underlying9 w7) (trodAll_cons_mk (shut_string Tryd.underlying9 w8) (trodAll_cons_mk (Below.trod laidOut (by kernel_rfl) (of_decide_eq_true (by kernel_rfl)) k9 bel lt9) (trodAll_cons_mk (Below.trod laidOut (by kernel_rfl) (of_decide_eq_true (by kernel_rfl)) k10 bel lt10) (trodAll_cons_mk (Below.trod laidOut (by kernel_rfl) (of_decide_eq_true (by kernel_rfl)) k11 bel lt11) trodAll_mk0)))))))))))), hvars, bel.frame _, fun h => by cases h⟩

theorem over : Rows.fnRulingSetThenRaisesEndAtTheGreatestRow.holds Tryd.pinned (OpenSpec.ofChange Rows.fnRulingSetThenRaisesEndAtTheGreatestSpec) :=
  OpenClaim.holds_of_wide 3 Tryd.f3 rfl rfl rfl rfl rfl rfl rfl ⟨rfl, rfl, rfl, rfl, rfl⟩ rfl rfl rfl rfl rfl (by kernel_rfl) Tryd.func3 (by kernel_rfl)
    (of_decide_eq_true (by kernel_rfl)) (by unfold Func.isWrapper; first | (rw [if_pos (by decide +kernel)]; kernel_rfl) | (rw [if_neg (by decide +kernel)]; exact ⟨rfl, rfl⟩))
    (fun os started H enc _ => lifted os started H enc)

/-- THE STATEMENT: THE TIED CARD -/
theorem proved : Rows.FnRulingSetThenRaisesEndAtTheGreatestCardSaid :=
  Claim7.holds_tied_plain_at .later [] [.widerDeep] true (true, "0674b4a9bc66676a9bffe4758c42ba0ed5766ba042d2e740cef6477e99304c77") false
    over (fun _ h => by cases h) (by kernel_rfl) (fun _ h => by cases h) fnRulingSetThenRaisesEndAtTheGreatest_row_tie rfl ⟨rfl, rfl⟩ (by kernel_rfl) rfl
    (fun f fn hf hfn => by
      obtain rfl : f = 3 := Option.some.inj ((show Tryd.prog.funcNamed Rows.fnRulingSetThenRaisesEndAtTheGreatestRow.func = some 3 by kernel_rfl).symm.trans hf) |>.symm
      obtain rfl : fn = Tryd.f3 := (Option.some.inj (Tryd.func3.symm.trans hfn)).symm
      exact ⟨by kernel_rfl, fun j t ht => by
        rw [Tryd.params3] at ht
        have hm : t ∈ [3, 9, 9, 3, 9, 9, 3, 9, 9, 22, 23, 23] := by simpa using Array.mem_of_getElem? ht
        have hall : ([3, 9, 9, 3, 9, 9, 3, 9, 9, 22, 23, 23].all fun u => !Tryd.prog.wantsStandIn u) = true := by kernel_rfl
        exact (show Tryd.prog.wantsStandIn t = false by simpa using List.all_eq_true.1 hall t hm)⟩)
    (by kernel_rfl)
end Go.Proofs.Qxb6609046aDoor.fnRuling
