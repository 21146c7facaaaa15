/-
  The seven arguments opened: from their readings to what the walks ask; the row's step, for both laws.
-/
import Derived.Test.Qxb6614196aLawA
import Derived.SliceStrings
import Derived.Deep.Slices
import Derived.Deep.Strs
import Derived.ShutString
import Derived.ChangeOld
namespace Go.Proofs.Qxb6614196a
open Go.ChangeShapes Go.WideShapes Go.ChangeAt Go.RowKit
set_option linter.unusedVariables false

theorem own : ownKnob Try.prog.godebug = none := by kernel_rfl
theorem laidOut : laidOutB Try.prog = true := by kernel_rfl
theorem cells5 : Try.prog.cellsOf 5 = 1 := by kernel_rfl
theorem cells9 : Try.prog.cellsOf 9 = 1 := by kernel_rfl
theorem cells33 : Try.prog.cellsOf 33 = 3 := by kernel_rfl
theorem cells31 : Try.prog.cellsOf 31 = 1 := by kernel_rfl
theorem cells25 : Try.prog.cellsOf 25 = 1 := by kernel_rfl
section
variable {H : Type} {enc : TypeId × Value → H} {W : World}

theorem byt_open {fuel : Nat} {cs : List Value} {x : DataW H × List MemPlace} (h : DataW.trod enc Try.prog W 0 (fun _ => true) true fuel 25 cs = some x) : ∃ (a : Option Addr) (n c : Nat) (Z : Nat → Int), cs = [.slice a n c] ∧ VByt W a n Z ∧ NilOK a n c ∧ n ≤ maxLen := by
  rcases open_ints Try.underlying25 Try.underlying5 cells5 h with ⟨rfl, _⟩ | ⟨a, len, cap, zs, rfl, _, hl, hm, hz, _, hcell, hwz⟩
  · exact ⟨none, 0, 0, fun _ => 0, rfl, .inl rfl, fun _ => ⟨rfl, rfl⟩, Nat.zero_le _⟩
  · simp only [if_true] at hz
    refine ⟨some a, len, cap, fun i => zs.getD i 0, rfl, ?_, (fun h => by cases h), by omega⟩
    by_cases h0 : len = 0
    · exact .inl h0
    · obtain ⟨b, off, spot⟩ := a
      have hc0 := hcell 0 (by omega)
      have hspot : spot = none := by simpa [Addr.add] using World.cell?_spot hc0
      subst hspot
      refine .inr ⟨b, off, rfl, by have := block_lt_of_cell hc0; simpa [Addr.add] using this, fun i hi => ⟨?_, ?_⟩⟩
      · have := hcell i (by omega); rwa [Addr.add_lit] at this
      · have hi' : i < zs.length := by omega
        have := bounds_u8 (hwz zs[i] (List.getElem_mem hi'))
        simpa [List.getD, hi'] using this
theorem str_open {fuel : Nat} {cs : List Value} {x : DataW H × List MemPlace} (h : DataW.trod enc Try.prog W 0 (fun _ => true) true fuel 24 cs = some x) : ∃ (a : Option Addr) (n c : Nat) (S : Nat → ByteArray), cs = [.slice a n c] ∧ VStr W a n S ∧ n ≤ maxLen ∧ ∀ i, i < n → (S i).size ≤ maxLen := by
  rcases open_strings Try.underlying24 Try.underlying9 cells9 h with ⟨rfl, _⟩ | ⟨a, len, cap, ss, rfl, _, hl, hm, hz, _, hcell, hws⟩
  · exact ⟨none, 0, 0, fun _ => ByteArray.empty, rfl, .inl rfl, Nat.zero_le _, fun i hi => by omega⟩
  · simp only [if_true] at hz
    refine ⟨some a, len, cap, fun i => ss.getD i ByteArray.empty, rfl, ?_, by omega, fun i hi => ?_⟩
    · by_cases h0 : len = 0
      · exact .inl h0
      · obtain ⟨b, off, spot⟩ := a
        have hc0 := hcell 0 (by omega)
        have hspot : spot = none := by simpa [Addr.add] using World.cell?_spot hc0
        subst hspot
        refine .inr ⟨b, off, rfl, by have := block_lt_of_cell hc0; simpa [Addr.add] using this, fun i hi => ?_⟩
        have := hcell i (by omega); rwa [Addr.add_lit] at this
    · have hi' : i < ss.length := by omega
      have := hws ss[i] (List.getElem_mem hi')
      simpa [List.getD, hi'] using this
theorem frm_one {n : Nat} {cs : List Value} {x : DataW H × List MemPlace} (h : DataW.trod enc Try.prog W 0 (fun _ => true) true n 33 cs = some x) : ∃ (t : Int) (y : ByteArray) (a : Option Addr) (n c : Nat) (Z : Nat → Int), cs = [.int .u32 t, .string y, .slice a n c] ∧ y.size ≤ maxLen ∧ VByt W a n Z ∧ NilOK a n c ∧ n ≤ maxLen := by
  obtain ⟨y0, y1, y2, k, _, hlen, h0, h1, h2⟩ := Go.Deep.trod_struct3 Try.underlying33 h
  rw [cells33] at hlen
  match cs, hlen with
  | [c0, c1, c2], _ =>
    simp only [cells31, cells9, cells25] at h0 h1 h2
    obtain ⟨t, e0, _, _⟩ := DataW.trod_int Try.underlying31 h0
    obtain ⟨y, e1, _, hy⟩ := DataW.trod_string Try.underlying9 h1
    obtain ⟨a, n, c, Z, e2, hv, hn, hm⟩ := byt_open h2
    simp at e0 e1 e2
    subst e0; subst e1; subst e2
    exact ⟨t, y, a, n, c, Z, rfl, hy, hv, hn, hm⟩
theorem frm_open {fuel : Nat} {cs : List Value} {x : DataW H × List MemPlace} (h : DataW.trod enc Try.prog W 0 (fun _ => true) true fuel 26 cs = some x) : ∃ (a : Option Addr) (n c : Nat) (T : Nat → Int) (Y : Nat → ByteArray) (OA : Nat → Option Addr) (OL OC : Nat → Nat) (OB : Nat → Nat → Int), cs = [.slice a n c] ∧ VFrm W a n T Y OA OL OC ∧
    (∀ i, i < n → VByt W (OA i) (OL i) (OB i) ∧ NilOK (OA i) (OL i) (OC i)) ∧ n ≤ maxLen ∧ ∀ i, i < n → (Y i).size ≤ maxLen ∧ OL i ≤ maxLen := by
  rcases Go.Deep.open_slice Try.underlying26 h with ⟨rfl, _⟩ | ⟨a, len, cap, m, k, D, Pl, rfl, _, hl, hm, hmm, _, hel⟩
  · exact ⟨none, 0, 0, fun _ => 0, fun _ => ByteArray.empty, fun _ => none, fun _ => 0, fun _ => 0, fun _ _ => 0, rfl, .inl rfl, fun i hi => by omega, Nat.zero_le _, fun i hi => by omega⟩
  · simp only [if_true] at hmm
    have key : ∀ i, i < len → ∃ r : Int × ByteArray × Option Addr × Nat × Nat × (Nat → Int), W.cell? (a.add (i * 3)) = some (.int .u32 r.1) ∧ W.cell? (a.add (i * 3 + 1)) = some (.string r.2.1) ∧ W.cell? (a.add (i * 3 + 2)) = some (.slice r.2.2.1 r.2.2.2.1 r.2.2.2.2.1) ∧ r.2.1.size ≤ maxLen ∧ VByt W r.2.2.1 r.2.2.2.1 r.2.2.2.2.2 ∧ NilOK r.2.2.1 r.2.2.2.1 r.2.2.2.2.1 ∧ r.2.2.2.1 ≤ maxLen := by
      intro i hi
      obtain ⟨cs', hc, ht⟩ := hel i (by omega)
      rw [cells33] at hc
      obtain ⟨_, hlen, hcl⟩ := World.cells?_some hc
      obtain ⟨t, y, oa, n, c, Z, rfl, hy, hv, hn, hm'⟩ := frm_one ht
      have h0 := hcl 0 (by omega)
      have h1 := hcl 1 (by omega)
      have h2 := hcl 2 (by omega)
      rw [Go.Deep.add_add] at h0 h1 h2
      exact ⟨(t, y, oa, n, c, Z), h0, h1, h2, hy, hv, hn, hm'⟩
    obtain ⟨r, hr⟩ := Go.Deep.choose_lt (α := Int × ByteArray × Option Addr × Nat × Nat × (Nat → Int)) key
    refine ⟨some a, len, cap, fun i => (r i).1, fun i => (r i).2.1, fun i => (r i).2.2.1, fun i => (r i).2.2.2.1, fun i => (r i).2.2.2.2.1, fun i => (r i).2.2.2.2.2, rfl, ?_, fun i hi => ⟨(hr i hi).2.2.2.2.1, (hr i hi).2.2.2.2.2.1⟩, by omega, fun i hi => ⟨(hr i hi).2.2.2.1, (hr i hi).2.2.2.2.2.2⟩⟩
    by_cases h0 : len = 0
    · exact .inl h0
    · obtain ⟨b, off, spot⟩ := a
      have hc0 := (hr 0 (by omega)).1
      have hspot : spot = none := by simpa [Addr.add] using World.cell?_spot hc0
      subst hspot
      refine .inr ⟨b, off, rfl, by have := block_lt_of_cell hc0; simpa [Addr.add] using this, fun i hi => ?_⟩
      obtain ⟨e0, e1, e2, _⟩ := hr i hi
      rw [Addr.add_lit] at e0 e1 e2
      exact ⟨e0, by rw [Nat.add_assoc]; exact e1, by rw [Nat.add_assoc]; exact e2⟩
end
end Go.Proofs.Qxb6614196a
