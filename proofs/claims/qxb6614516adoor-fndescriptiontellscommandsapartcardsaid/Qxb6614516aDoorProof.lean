/-
  'Rows.FnDescriptionTellsCommandsApartCardSaid' PROVED: the row's step (the listed map opened; each look-up answered off the datum), the row, the card by the builder's one call.
-/
import Derived.Test.Qxb6614516aDoorTie
import Derived.Test.Qxb6614516aDoorCards
import Derived.Test.Qxb6614516aDoorWalks
import Derived.ProofKit
import Derived.LaidMore
import Derived.OpenShut
import Derived.ShutString
import Derived.Stop.Joined
import Derived.SevenTiedAt
namespace Go.Proofs.Qxb6614516aDoor
open Go.ChangeShapes Go.WideShapes Go.ChangeAt Go.WideMaps Go.WideElems Go.RowKit
open Go.ChangeMaps (open_string shut_string)
set_option linter.unusedVariables false

theorem own : ownKnob Tryd.prog.godebug = none := by kernel_rfl
theorem laidOut : laidOutB Tryd.prog = true := by kernel_rfl
theorem gTerms : Tryd.prog.globalNamed (Rows.fnDescriptionTellsCommandsApartSpec.vars.headD "") = some 0 := by kernel_rfl
theorem tTerms : (Tryd.prog.globals[0]?).map (·.type) = some 28 := by kernel_rfl
theorem law : KeyLaw Tryd.prog 23 := string_law Tryd.underlying23
theorem zero27 (W : World) : (zeroValue 27).run Tryd.prog W = .ok (.agg #[.string ⟨#[]⟩, .bool false]) W := by kernel_rfl
theorem cells27 : Tryd.prog.cellsOf 27 = 2 := by kernel_rfl
theorem cells9 : Tryd.prog.cellsOf 9 = 1 := by kernel_rfl
theorem cells4 : Tryd.prog.cellsOf 4 = 1 := by kernel_rfl

/-- The door's own heap meets the condition: closed facts. -/
theorem door_met (os : Os) (args : Array Value) : laidMetH Tryd.prog Rows.fnDescriptionTellsCommandsApartRow.laid ((World.doorLaid Tryd.prog 400 os).forCall (fun _ _ => 0) ⟨#[], args, []⟩).memory :=
  laidMetH_of_parts3 (fuel := 8) (laidMet_of_run' 8 (by kernel_rfl) (by kernel_rfl)) (by kernel_rfl) (by kernel_rfl)

/-- An element of the map, opened. -/
theorem elem27 {H : Type} {enc : TypeId × Value → H} {W : World} {base : Nat} {sp : Nat → Bool} {held : Bool} {n : Nat} {v : Value} {z : DataW H × List MemPlace} (h : elemAt enc Tryd.prog W base sp held n 27 v = some z) :
    ∃ (s : ByteArray) (y : Bool), v = .agg #[.string s, .bool y] ∧ z.1 = .agg [.lit (.string s.data.toList), .lit (.bool y)] := by
  unfold elemAt at h
  split at h
  · rename_i hf
    obtain ⟨y0, y1, m, rfl, hlen, h0, h1⟩ := trod_struct2 Tryd.underlying27 h
    obtain ⟨s, c0, rfl, _⟩ := DataW.trod_string Tryd.underlying9 h0
    obtain ⟨b, c1, rfl⟩ := DataW.trod_bool Tryd.underlying4 h1
    cases v <;> simp [Value.formed, Tryd.underlying27] at hf
    rename_i cs
    refine ⟨s, b, ?_, rfl⟩
    simp only [Value.cells, cells27, cells9, cells4] at c0 c1 hlen
    obtain ⟨l⟩ := cs
    match l, hlen with
    | [x0, x1], _ =>
      simp at c0 c1
      rw [c0, c1]
  · cases h

theorem datum_eq : (Rows.laid_example_com_bursar_bursar_internal_money_terms (H := Unit)) = .map [(.string tCreate, .agg [.lit (.string dCreate), .lit (.bool true)]), (.string tRenew, .agg [.lit (.string dRenew), .lit (.bool true)]),
    (.string tRestore, .agg [.lit (.string dRestore), .lit (.bool false)]), (.string tTransfer, .agg [.lit (.string dTransfer), .lit (.bool true)])] := rfl

/-- What the listed datum holds at a key. -/
theorem datum_at (l : List UInt8) : (Rows.laid_example_com_bursar_bursar_internal_money_terms (H := Unit)).atKey (.string l) .nil = (if dscL l = [] then .nil else (Rows.laid_example_com_bursar_bursar_internal_money_terms (H := Unit)).atKey (.string l) .nil) ∧
    (dscL l ≠ [] → ∃ y, (Rows.laid_example_com_bursar_bursar_internal_money_terms (H := Unit)).atKey (.string l) .nil = .agg [.lit (.string (dscL l)), .lit (.bool y)]) := by
  by_cases h1 : l = tCreate
  · subst h1; exact ⟨rfl, fun _ => ⟨true, rfl⟩⟩
  by_cases h2 : l = tRenew
  · subst h2; exact ⟨rfl, fun _ => ⟨true, rfl⟩⟩
  by_cases h3 : l = tRestore
  · subst h3; exact ⟨rfl, fun _ => ⟨false, rfl⟩⟩
  by_cases h4 : l = tTransfer
  · subst h4; exact ⟨rfl, fun _ => ⟨true, rfl⟩⟩
  have hd : dscL l = [] := by simp [dscL, h1, h2, h3, h4]
  refine ⟨?_, fun h => absurd hd h⟩
  rw [if_pos hd, datum_eq]
  have hs : ∀ a : List UInt8, l ≠ a → Lit.sameKey (.string a) (.string l) = false := by
    intro a ha
    show (a == l) = false
    exact beq_eq_false_iff_ne.2 (fun h => ha h.symm)
  unfold DataW.atKey
  simp only [List.find?_cons, List.find?_nil, hs _ h1, hs _ h2, hs _ h3, hs _ h4]

/-- WHAT THE CONDITION GIVES THE WALKS: the map's cell; every look-up. -/
theorem of_laid {W : World} (h : laidMetH Tryd.prog Rows.fnDescriptionTellsCommandsApartRow.laid W) : ∃ bm, W.cell? ⟨0, 0, none⟩ = some (.map (some bm)) ∧
    ∀ s : ByteArray, s.size ≤ maxLen → ∃ y, (Instr.lookup 28 (.map (some bm)) (.string s) false).run Tryd.prog W = .ok (.agg #[.string (dsc s), .bool y]) W := by
  rw [MakeChecks.laidMetH_plain _ _ _ (by kernel_rfl)] at h
  obtain ⟨ps, ⟨g0, t0, cs0, f0, p0, q0, hg0, ht0, hv0, hd0, _, _⟩, _, _⟩ := h
  obtain rfl := Option.some.inj (gTerms.symm.trans hg0)
  obtain rfl := Option.some.inj (tTerms.symm.trans ht0)
  rcases open_map Tryd.underlying28 hd0 with ⟨_, hx⟩ | ⟨bm, es, clock, m, rfl, hcs, hb, _, F, hx⟩
  · rw [datum_eq] at hx; simp at hx
  simp only [Prod.mk.injEq] at hx
  have hcell : W.cell? ⟨0, 0, none⟩ = some (.map (some bm)) := by
    have := World.var?_cell hg0 hv0 0
    rw [Array.eq_one_of_toList hcs] at this
    simpa using this
  refine ⟨bm, hcell, fun s hs => ?_⟩
  obtain ⟨hno, hyes⟩ := datum_at s.toList
  rcases fit_lookup (w := W) law Tryd.underlying28 (zero27 W) hb F (keyOf_string_mk (s := s) Tryd.underlying23 hs) with ⟨hrun, hat⟩ | ⟨v, y, hrun, hRv, hat, _⟩
  · have e := hat .nil
    rw [← hx.1, ← ByteArray.toList_eq] at e
    by_cases hd : dscL s.toList = []
    · refine ⟨false, ?_⟩
      rw [hrun]
      have : dsc s = ⟨#[]⟩ := by unfold dsc; rw [hd]
      rw [this]
    · obtain ⟨y, hy⟩ := hyes hd
      rw [hy] at e
      cases e
  · have e := hat .nil
    rw [← hx.1, ← ByteArray.toList_eq] at e
    obtain ⟨s', y', rfl, hz⟩ := elem27 hRv
    rw [hz] at e
    by_cases hd : dscL s.toList = []
    · rw [if_pos hd] at hno
      rw [hno] at e
      cases e
    · obtain ⟨y, hy⟩ := hyes hd
      rw [hy] at e
      have e1 : dscL s.toList = s'.data.toList := by injection e with e; injection e with e _; injection e with e; injection e
      refine ⟨y', ?_⟩
      rw [hrun]
      have : dsc s = s' := by
        unfold dsc; rw [e1]
      rw [this]

set_option maxRecDepth 100000 in
theorem lifted (os : Os) (started : os.Started) (H : Type) (enc : TypeId × Value → H) :
    ReturnsInHanded {} Tryd.checked os 3 .any (fun w args => (Rows.fnDescriptionTellsCommandsApartSpec.pre enc Tryd.prog Tryd.f3 [] false w args ∧ laidMetH Tryd.prog Rows.fnDescriptionTellsCommandsApartRow.laid w) ∧ sizedMet enc Tryd.prog Tryd.f3 (OpenSpec.ofChange Rows.fnDescriptionTellsCommandsApartSpec) false w args)
      (Rows.fnDescriptionTellsCommandsApartSpec.post enc Tryd.prog Tryd.f3 false true false false) := by
  refine returnsInHanded_of_change_and (C := Tryd.checked) (X := fun w _ => laidMetH Tryd.prog Rows.fnDescriptionTellsCommandsApartRow.laid w) (fun _ _ _ hh h => h.of_heap hh) own started (by kernel_rfl) Tryd.func3
    (ChangeSpec.witness_shaped (enc := enc) (C := Tryd.checked) (os := os) (X := fun w _ => laidMetH Tryd.prog Rows.fnDescriptionTellsCommandsApartRow.laid w) false (World.doorLaid Tryd.prog 400 os) #[.string ⟨#[]⟩, .string ⟨#[]⟩] 8 rfl (World.shaped_of_RefB (by kernel_rfl) (by kernel_rfl)) (by kernel_rfl) (by kernel_rfl) (by kernel_rfl) (door_met os _)) ?_
  intro W base args ds gs before hval0 hW _ _ hL _
  have hval : ∀ (j : Nat) t v, Tryd.f3.params[j]? = some t → args[j]? = some v → Value.okWide Tryd.prog W .any base t v := hval0
  have hW' := hW
  obtain ⟨p, q, hA0, hV, rfl, hfz, hnd⟩ := hW
  have hA : DataW.TrodAll enc Tryd.prog W 0 (fun _ => true) true Tryd.f3.params.toList args.toList ds p := hA0
  rw [Tryd.params3] at hA hval
  obtain ⟨v0, v1, d0, d1, p0, p1, rfl, rfl, rfl, h0, h1⟩ := trodAll_two hA
  obtain ⟨c, rfl, rfl, rfl, hc⟩ := open_string Tryd.underlying9 (hval 0 9 v0 rfl rfl) h0
  obtain ⟨d, rfl, rfl, rfl, hd⟩ := open_string Tryd.underlying9 (hval 1 9 v1 rfl rfl) h1
  obtain ⟨g, t, cs, fuel, dg, pg, rfl, hg, ht, hv, htr, rfl⟩ := trodVars_one hV
  obtain rfl := Option.some.inj (gTerms.symm.trans hg)
  obtain rfl := Option.some.inj (tTerms.symm.trans ht)
  obtain ⟨bm, hm, look⟩ := of_laid hL
  clear hA0 hval0
  have fin : ∀ (e : Ending) (W' : World), (e = .returned (.bool true) ∧ W = W') → ∃ v, e = .returned v ∧ Rows.fnDescriptionTellsCommandsApartSpec.post enc Tryd.prog Tryd.f3 false true false false W #[.string c, .string d] v W' := by
    rintro e W' ⟨rfl, rfl⟩
    obtain ⟨m1, hm1⟩ : ∃ m1, DataW.trod enc Tryd.prog W 0 (fun b => decide (b < W.heap.size)) true m1 28 cs.toList = some (dg, pg) := by
      obtain ⟨v, hv1⟩ : ∃ v : Value, cs.toList = v.cells.toList := by
        rcases open_map Tryd.underlying28 htr with ⟨h, _⟩ | ⟨b, es, clock, n, _, h, _⟩
        · exact ⟨.map none, h⟩
        · exact ⟨.map (some b), h⟩
      have T : DataW.Trod enc Tryd.prog W 0 (fun _ => true) true 28 v dg pg := ⟨fuel, by rw [← hv1]; exact htr⟩
      obtain ⟨m1, hm1⟩ := Below.trod laidOut (by kernel_rfl) (of_decide_eq_true (by kernel_rfl)) T (Below.refl _ _) (DataW.trod_lt fuel _ _ _ htr)
      exact ⟨m1, by rw [hv1]; exact hm1⟩
    exact ⟨_, rfl, _, _, _, [], [], _, hW', trodAll_mk1 (shut_bool Tryd.underlying4 _), trodAll_mk2 (shut_string Tryd.underlying9 hc) (shut_string Tryd.underlying9 hd), trodVars_mk1 hg ht hv hm1, World.keptBut_refl _ _, fun h => by cases h⟩
  obtain ⟨yc, lc⟩ := look c hc
  obtain ⟨yd, ld⟩ := look d hd
  by_cases hout : 1048576 < c.size + d.size
  · exact (law_out c d hc hd hout W).mono fun e W' he => fin e W' he
  have hin : c.size + d.size ≤ 1048576 := by omega
  cases kc : kn c <;> cases kd : kn d
  · cases hcd : (c.toList == d.toList)
    · exact (law_ff_apart c d bm yc yd W hin hm lc ld kc kd hcd).mono fun e W' he => fin e W' he
    · exact (law_ff_same c d bm yc yd W hin hm lc ld kc kd hcd).mono fun e W' he => fin e W' he
  · exact (law_ft c d bm yc yd W hin hm lc ld kc kd).mono fun e W' he => fin e W' he
  · exact (law_tf c d bm yc yd W hin hm lc ld kc kd).mono fun e W' he => fin e W' he
  · cases hcd : (c.toList == d.toList)
    · exact (law_tt_apart c d bm yc yd W hin hm lc ld kc kd hcd).mono fun e W' he => fin e W' he
    · exact (law_tt_same c d bm yc yd W hin hm lc ld kc kd hcd).mono fun e W' he => fin e W' he

theorem row_holds : Rows.FnDescriptionTellsCommandsApartSaid :=
  OpenClaim.holds_of_wide 3 Tryd.f3 rfl rfl rfl rfl rfl rfl rfl ⟨rfl, rfl, rfl, rfl, rfl⟩ rfl rfl rfl rfl rfl (by kernel_rfl) Tryd.func3 (by kernel_rfl)
    (of_decide_eq_true (by kernel_rfl)) (by unfold Func.isWrapper; first | (rw [if_pos (by decide +kernel)]; kernel_rfl) | (rw [if_neg (by decide +kernel)]; exact ⟨rfl, rfl⟩))
    (fun os started H enc _ => lifted os started H enc)

/-- THE TIED CARD. -/
theorem card_proved : Rows.FnDescriptionTellsCommandsApartCardSaid :=
  Claim7.holds_tied_plain_at .later [] [.mapped] true Rows.fnDescriptionTellsCommandsApartCard.stood.harness false
    row_holds (fun _ h => by cases h) (by kernel_rfl) (fun _ h => by cases h) fnDescriptionTellsCommandsApart_row_tie rfl ⟨rfl, rfl⟩ (by kernel_rfl) rfl
    (fun f fn hf hfn => by
      obtain rfl : f = 3 := Option.some.inj ((show Tryd.prog.funcNamed Rows.fnDescriptionTellsCommandsApartRow.func = some 3 by kernel_rfl).symm.trans hf) |>.symm
      obtain rfl : fn = Tryd.f3 := (Option.some.inj (Tryd.func3.symm.trans hfn)).symm
      exact ⟨by kernel_rfl, fun j t ht => by
        rw [Tryd.params3] at ht
        have hm : t ∈ [9, 9] := by simpa using Array.mem_of_getElem? ht
        have hall : ([9, 9].all fun u => !Tryd.prog.wantsStandIn u) = true := by kernel_rfl
        exact (show Tryd.prog.wantsStandIn t = false by simpa using List.all_eq_true.1 hall t hm)⟩)
    (by kernel_rfl)
end Go.Proofs.Qxb6614516aDoor
