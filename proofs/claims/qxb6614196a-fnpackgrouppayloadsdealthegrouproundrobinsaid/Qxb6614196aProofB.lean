/-
  'Rows.FnPackGroupPayloadsDealTheGroupRoundRobinSaid' PROVED: the row's step over the walk.
-/
import Derived.Test.Qxb6614196aLawB
import Derived.Test.Qxb6614196aOpen
namespace Go.Proofs.Qxb6614196a.fnPackGroupPayloadsDealTheGroupRoundRobin
open Go.ChangeShapes Go.WideShapes Go.ChangeAt Go.RowKit
set_option linter.unusedVariables false

set_option maxRecDepth 100000 in
set_option maxHeartbeats 1000000 in
theorem lifted (os : Os) (started : os.Started) (H : Type) (enc : TypeId × Value → H) :
    ReturnsInHanded {} Try.checked os 4 .any (Rows.fnPackGroupPayloadsDealTheGroupRoundRobinSpec.pre6 enc Try.prog Try.f4 Rows.fnPackGroupPayloadsDealTheGroupRoundRobinRow.domain false) (Rows.fnPackGroupPayloadsDealTheGroupRoundRobinSpec.post enc Try.prog Try.f4 false true false false) := by
  refine returnsInHanded_of_change (C := Try.checked) own started (by kernel_rfl) Try.func4
    (ChangeSpec.witness6 (enc := enc) (C := Try.checked) false ⟨#[], #[.slice none 0 0, .slice none 0 0, .int .i64 0, .int .i64 0, .int .u8 0, .slice none 0 0, .bool false], []⟩ 8 (by kernel_rfl) (by kernel_rfl) (by kernel_rfl) (by kernel_rfl)) ?_
  intro W base args ds gs before hval0 hW hcnd _
  have hval : ∀ (j : Nat) t v, Try.f4.params[j]? = some t → args[j]? = some v → Value.okWide Try.prog W .any base t v := hval0
  have hW' := hW
  obtain ⟨p, q, hA0, hV, rfl, hfz, hnd⟩ := hW
  have hA : DataW.TrodAll enc Try.prog W 0 (fun _ => true) true Try.f4.params.toList args.toList ds p := hA0
  rw [Try.params4] at hA hval
  obtain ⟨v0, vs0, d0, ds0, p0, q0, hargs, rfl, rfl, h0, r0⟩ := trodAll_cons hA
  obtain ⟨v1, vs1, d1, ds1, p1, q1, rfl, rfl, rfl, h1, r1⟩ := trodAll_cons r0
  obtain ⟨v2, vs2, d2, ds2, p2, q2, rfl, rfl, rfl, h2, r2⟩ := trodAll_cons r1
  obtain ⟨v3, vs3, d3, ds3, p3, q3, rfl, rfl, rfl, h3, r3⟩ := trodAll_cons r2
  obtain ⟨v4, vs4, d4, ds4, p4, q4, rfl, rfl, rfl, h4, r4⟩ := trodAll_cons r3
  obtain ⟨v5, vs5, d5, ds5, p5, q5, rfl, rfl, rfl, h5, r5⟩ := trodAll_cons r4
  obtain ⟨v6, vs6, d6, ds6, p6, q6, rfl, rfl, rfl, h6, r6⟩ := trodAll_cons r5
  obtain ⟨rfl, rfl, rfl⟩ := trodAll_nil r6
  obtain rfl : args = #[v0, v1, v2, v3, v4, v5, v6] := by cases args; simp_all
  obtain ⟨rfl, rfl⟩ := trodVars_none hV
  have k0 := h0
  have lt0 : ∀ x ∈ p0, x.block < W.heap.size := by obtain ⟨m, hm⟩ := k0; exact DataW.trod_lt m _ _ _ hm
  obtain ⟨sa0, sn0, sc0, rfl⟩ := okWide_slice Try.underlying24 (hval 0 24 v0 rfl rfl)
  have k1 := h1
  have lt1 : ∀ x ∈ p1, x.block < W.heap.size := by obtain ⟨m, hm⟩ := k1; exact DataW.trod_lt m _ _ _ hm
  obtain ⟨sa1, sn1, sc1, rfl⟩ := okWide_slice Try.underlying25 (hval 1 25 v1 rfl rfl)
  have k5 := h5
  have lt5 : ∀ x ∈ p5, x.block < W.heap.size := by obtain ⟨m, hm⟩ := k5; exact DataW.trod_lt m _ _ _ hm
  obtain ⟨sa5, sn5, sc5, rfl⟩ := okWide_slice Try.underlying26 (hval 5 26 v5 rfl rfl)
  obtain ⟨S, hk, hkn, hks⟩ : ∃ S, VStr W sa0 sn0 S ∧ sn0 ≤ maxLen ∧ ∀ i, i < sn0 → (S i).size ≤ maxLen := by
    obtain ⟨fuel, hf⟩ := h0
    obtain ⟨a, n, c, S, hcs, r⟩ := str_open hf
    simp [Value.cells] at hcs
    obtain ⟨rfl, rfl, rfl⟩ := hcs
    exact ⟨S, r⟩
  obtain ⟨Z, hc, _, hcn⟩ : ∃ Z, VByt W sa1 sn1 Z ∧ NilOK sa1 sn1 sc1 ∧ sn1 ≤ maxLen := by
    obtain ⟨fuel, hf⟩ := h1
    obtain ⟨a, n, c, Z, hcs, r⟩ := byt_open hf
    simp [Value.cells] at hcs
    obtain ⟨rfl, rfl, rfl⟩ := hcs
    exact ⟨Z, r⟩
  obtain ⟨T, Y, OA, OL, OC, OB, hg, ho, hgn, hgy⟩ : ∃ (T : Nat → Int) (Y : Nat → ByteArray) (OA : Nat → Option Addr) (OL OC : Nat → Nat) (OB : Nat → Nat → Int), VFrm W sa5 sn5 T Y OA OL OC ∧ (∀ i, i < sn5 → VByt W (OA i) (OL i) (OB i) ∧ NilOK (OA i) (OL i) (OC i)) ∧ sn5 ≤ maxLen ∧ ∀ i, i < sn5 → (Y i).size ≤ maxLen ∧ OL i ≤ maxLen := by
    obtain ⟨fuel, hf⟩ := h5
    obtain ⟨a, n, c, T, Y, OA, OL, OC, OB, hcs, r⟩ := frm_open hf
    simp [Value.cells] at hcs
    obtain ⟨rfl, rfl, rfl⟩ := hcs
    exact ⟨T, Y, OA, OL, OC, OB, r⟩
  obtain ⟨a2, rfl, rfl, rfl, w2⟩ := open_int Try.underlying3 (hval 2 3 v2 rfl rfl) h2
  obtain ⟨a3, rfl, rfl, rfl, w3⟩ := open_int Try.underlying3 (hval 3 3 v3 rfl rfl) h3
  obtain ⟨a4, rfl, rfl, rfl, w4⟩ := open_int Try.underlying5 (hval 4 5 v4 rfl rfl) h4
  obtain ⟨a6, rfl, rfl, rfl⟩ := open_bool Try.underlying4 (hval 6 4 v6 rfl rfl) h6
  have b4 := bounds_u8 w4
  clear hA0 hval0
  refine (law_two sa0 sa1 sa5 sn0 sc0 sn1 sc1 sn5 sc5 a2 a3 a4 a6 S Z T Y OA OL OC OB W ⟨hk, hc, hg, ho, hkn, hcn, hgn, hks, hgy, b4.1, b4.2⟩).mono fun e W' ⟨he, bel⟩ => ?_
  subst he
  exact ⟨_, rfl, _, _, _, [], _, [], hW', trodAll_mk1 (shut_bool Try.underlying4 _), (trodAll_cons_mk (Below.trod laidOut (by kernel_rfl) (of_decide_eq_true (by kernel_rfl)) k0 bel lt0) (trodAll_cons_mk (Below.trod laidOut (by kernel_rfl) (of_decide_eq_true (by kernel_rfl)) k1 bel lt1) (trodAll_cons_mk (shut_int Try.underlying3 w2) (trodAll_cons_mk (shut_int Try.underlying3 w3) (trodAll_cons_mk (shut_int Try.underlying5 w4) (trodAll_cons_mk (Below.trod laidOut (by kernel_rfl) (of_decide_eq_true (by kernel_rfl)) k5 bel lt5) (trodAll_cons_mk (shut_bool Try.underlying4 _) trodAll_mk0))))))), rfl, bel.frame _, fun h => by cases h⟩

theorem over : Rows.fnPackGroupPayloadsDealTheGroupRoundRobinRow.holds Try.pinned (OpenSpec.ofChange Rows.fnPackGroupPayloadsDealTheGroupRoundRobinSpec) :=
  OpenClaim.holds_of_wide 4 Try.f4 rfl rfl rfl rfl rfl rfl rfl ⟨rfl, rfl, rfl, rfl, rfl⟩ rfl rfl rfl rfl rfl (by kernel_rfl) Try.func4 (by kernel_rfl)
    (of_decide_eq_true (by kernel_rfl)) (by unfold Func.isWrapper; first | (rw [if_pos (by decide +kernel)]; kernel_rfl) | (rw [if_neg (by decide +kernel)]; exact ⟨rfl, rfl⟩))
    (fun os started H enc _ => lifted os started H enc)

/-- THE STATEMENT -/
theorem proved : Rows.FnPackGroupPayloadsDealTheGroupRoundRobinSaid := over
end Go.Proofs.Qxb6614196a.fnPackGroupPayloadsDealTheGroupRoundRobin
