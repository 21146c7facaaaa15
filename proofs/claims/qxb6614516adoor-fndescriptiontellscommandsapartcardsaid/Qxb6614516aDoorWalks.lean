import Derived.Test.Qxb6614516aDoorRows
import Derived.WalkKit
import Derived.ProofKit
import Derived.OpenShut
import Derived.WalkSmall
import Derived.WalkSpells
import Derived.WalkLawsBesides
namespace Go.Proofs.Qxb6614516aDoor
open Go.ChangeShapes Go.WideShapes Go.ChangeAt Go.RowKit
set_option linter.unusedVariables false

def tCreate : List UInt8 := [99, 114, 101, 97, 116, 101]
def tRenew : List UInt8 := [114, 101, 110, 101, 119]
def tRestore : List UInt8 := [114, 101, 115, 116, 111, 114, 101]
def tTransfer : List UInt8 := [116, 114, 97, 110, 115, 102, 101, 114]
def dCreate : List UInt8 := [82, 101, 103, 105, 115, 116, 114, 97, 116, 105, 111, 110, 32, 70, 101, 101]
def dRenew : List UInt8 := [82, 101, 110, 101, 119, 97, 108, 32, 70, 101, 101]
def dRestore : List UInt8 := [82, 101, 100, 101, 109, 112, 116, 105, 111, 110, 32, 70, 101, 101]
def dTransfer : List UInt8 := [84, 114, 97, 110, 115, 102, 101, 114, 32, 70, 101, 101]

/-- What a command's text is described by. -/
def dscL (l : List UInt8) : List UInt8 := if l = tCreate then dCreate else if l = tRenew then dRenew else if l = tRestore then dRestore else if l = tTransfer then dTransfer else []
def dsc (s : ByteArray) : ByteArray := ⟨(dscL s.toList).toArray⟩
def kn (s : ByteArray) : Bool := decide (s.toList = tCreate) || decide (s.toList = tRenew) || decide (s.toList = tTransfer) || decide (s.toList = tRestore)
theorem dsc_toList (s : ByteArray) : (dsc s).toList = dscL s.toList := by simp [dsc, ByteArray.toList_eq]

/-! ### the plain law -/
theorem kn_cases {s : ByteArray} (h : kn s = true) : s.toList = tCreate ∨ s.toList = tRenew ∨ s.toList = tTransfer ∨ s.toList = tRestore := by
  simp [kn] at h; simpa [or_assoc] using h
theorem not_kn {s : ByteArray} (h : kn s = false) : s.toList ≠ tCreate ∧ s.toList ≠ tRenew ∧ s.toList ≠ tTransfer ∧ s.toList ≠ tRestore := by
  simp [kn] at h; obtain ⟨⟨⟨a, b⟩, c⟩, d⟩ := h; exact ⟨a, b, c, d⟩
theorem dsc_no {s : ByteArray} (h : kn s = false) : (dsc s).toList = [] := by
  obtain ⟨a, b, c, d⟩ := not_kn h
  rw [dsc_toList]; simp [dscL, a, b, c, d]
theorem dsc_four {s : ByteArray} (h : kn s = true) : (s.toList = tCreate ∧ (dsc s).toList = dCreate) ∨ (s.toList = tRenew ∧ (dsc s).toList = dRenew) ∨ (s.toList = tTransfer ∧ (dsc s).toList = dTransfer) ∨ (s.toList = tRestore ∧ (dsc s).toList = dRestore) := by
  rw [dsc_toList]
  rcases kn_cases h with e | e | e | e <;> rw [e] <;> simp [dscL] <;> decide
theorem ne_yes {s : ByteArray} (h : kn s = true) : (dsc s).toList.isEmpty = false := by
  rcases dsc_four h with ⟨_, e⟩ | ⟨_, e⟩ | ⟨_, e⟩ | ⟨_, e⟩ <;> rw [e] <;> rfl
theorem ne_no {s : ByteArray} (h : kn s = false) : (dsc s).toList.isEmpty = true := by rw [dsc_no h]; rfl
theorem agree_yes {c d : ByteArray} (hc : kn c = true) (hd : kn d = true) : ((dsc c).toList == (dsc d).toList) = (c.toList == d.toList) := by
  rcases dsc_four hc with ⟨e1, e2⟩ | ⟨e1, e2⟩ | ⟨e1, e2⟩ | ⟨e1, e2⟩ <;> rcases dsc_four hd with ⟨f1, f2⟩ | ⟨f1, f2⟩ | ⟨f1, f2⟩ | ⟨f1, f2⟩ <;> rw [e1, e2, f1, f2] <;> decide
theorem apart_yes_no {c d : ByteArray} (hc : kn c = true) (hd : kn d = false) : ((dsc c).toList == (dsc d).toList) = false ∧ (c.toList == d.toList) = false := by
  have h1 := ne_yes hc
  have h2 := dsc_no hd
  refine ⟨?_, ?_⟩
  · rw [h2]; rw [Bool.eq_false_iff]; intro h; simp at h; rw [h] at h1; simp at h1
  · rw [Bool.eq_false_iff]; intro h; simp at h
    obtain ⟨a1, a2, a3, a4⟩ := not_kn hd
    rcases kn_cases hc with e | e | e | e <;> rw [h] at e
    · exact a1 e
    · exact a2 e
    · exact a3 e
    · exact a4 e

/-! ### the callees -/
theorem bytes_ok (c d : ByteArray) (h : c.size + d.size ≤ 1048576) (w : World) : Calls Tryd.prog 4 #[.string c, .string d] w fun e w' => e = .returned (.bool true) ∧ w = w' := by
  go_enter Tryd.func4, Tryd.ntmps4
  go_wp2
  go_ret
  exact ⟨rfl, rfl⟩
theorem bytes_no (c d : ByteArray) (hc : c.size ≤ maxLen) (hd : d.size ≤ maxLen) (h : 1048576 < c.size + d.size) (w : World) : Calls Tryd.prog 4 #[.string c, .string d] w fun e w' => e = .returned (.bool false) ∧ w = w' := by
  unfold maxLen at hc hd
  by_cases h1 : 1048576 < c.size
  · go_enter Tryd.func4, Tryd.ntmps4
    go_wp2
    go_ret
    exact ⟨rfl, rfl⟩
  · by_cases h2 : 1048576 < d.size
    · go_enter Tryd.func4, Tryd.ntmps4
      go_wp2
      go_ret
      exact ⟨rfl, rfl⟩
    · go_enter Tryd.func4, Tryd.ntmps4
      go_wp2
      go_ret
      exact ⟨rfl, rfl⟩
theorem known_any (s : ByteArray) (w : World) : Calls Tryd.prog 6 #[.string s] w fun e w' => e = .returned (.bool (kn s)) ∧ w = w' := by
  by_cases hk : kn s = true
  · rw [hk]
    rcases kn_cases hk with h | h | h | h
    · have g0 : (s.toList == [99, 114, 101, 97, 116, 101]) = true := by rw [h]; rfl
      clear h hk
      go_enter Tryd.func6, Tryd.ntmps6
      go_wp2
      go_ret
      exact ⟨rfl, rfl⟩
    · have g1 : (s.toList == [114, 101, 110, 101, 119]) = true := by rw [h]; rfl
      have g0 : (s.toList == [99, 114, 101, 97, 116, 101]) = false := by rw [h]; rfl
      clear h hk
      go_enter Tryd.func6, Tryd.ntmps6
      go_wp2
      go_ret
      exact ⟨rfl, rfl⟩
    · have g2 : (s.toList == [116, 114, 97, 110, 115, 102, 101, 114]) = true := by rw [h]; rfl
      have g0 : (s.toList == [99, 114, 101, 97, 116, 101]) = false := by rw [h]; rfl
      have g1 : (s.toList == [114, 101, 110, 101, 119]) = false := by rw [h]; rfl
      clear h hk
      go_enter Tryd.func6, Tryd.ntmps6
      go_wp2
      go_ret
      exact ⟨rfl, rfl⟩
    · have g3 : (s.toList == [114, 101, 115, 116, 111, 114, 101]) = true := by rw [h]; rfl
      have g0 : (s.toList == [99, 114, 101, 97, 116, 101]) = false := by rw [h]; rfl
      have g1 : (s.toList == [114, 101, 110, 101, 119]) = false := by rw [h]; rfl
      have g2 : (s.toList == [116, 114, 97, 110, 115, 102, 101, 114]) = false := by rw [h]; rfl
      clear h hk
      go_enter Tryd.func6, Tryd.ntmps6
      go_wp2
      go_ret
      exact ⟨rfl, rfl⟩
  · have hk' : kn s = false := by simpa using hk
    rw [hk']
    obtain ⟨a0, a1, a2, a3⟩ := not_kn hk'
    have g0 : (s.toList == [99, 114, 101, 97, 116, 101]) = false := beq_eq_false_iff_ne.2 a0
    have g1 : (s.toList == [114, 101, 110, 101, 119]) = false := beq_eq_false_iff_ne.2 a1
    have g2 : (s.toList == [116, 114, 97, 110, 115, 102, 101, 114]) = false := beq_eq_false_iff_ne.2 a2
    have g3 : (s.toList == [114, 101, 115, 116, 111, 114, 101]) = false := beq_eq_false_iff_ne.2 a3
    clear a0 a1 a2 a3 hk hk'
    go_enter Tryd.func6, Tryd.ntmps6
    go_wp2
    go_ret
    exact ⟨rfl, rfl⟩
theorem field0 (a b : Value) (w : World) : (Instr.field 27 (.agg #[a, b]) 0).run Tryd.prog w = .ok a w := by kernel_rfl
theorem desc_any (s : ByteArray) (bm : Nat) (y : Bool) (w : World) (hc : w.cell? ⟨0, 0, none⟩ = some (.map (some bm))) (hl : (Instr.lookup 28 (.map (some bm)) (.string s) false).run Tryd.prog w = .ok (.agg #[.string (dsc s), .bool y]) w) :
    Calls Tryd.prog 5 #[.string s] w fun e w' => e = .returned (.string (dsc s)) ∧ w = w' := by
  have hfld : ∀ w, (Instr.field 27 (.agg #[.string (dsc s), .bool y]) 0).run Tryd.prog w = .ok (.string (dsc s)) w := fun _ => field0 _ _ _
  go_enter Tryd.func5, Tryd.ntmps5
  go_wp2
  go_ret
  exact ⟨rfl, rfl⟩
theorem of_toList {s : ByteArray} {l : List UInt8} (h : s.toList = l) : s = ⟨l.toArray⟩ := by
  rw [ByteArray.toList_eq] at h
  obtain ⟨⟨x⟩⟩ := s
  simp at h; rw [h]
theorem fee_any (s : ByteArray) (hs : s.toList = dCreate ∨ s.toList = dRenew ∨ s.toList = dTransfer ∨ s.toList = dRestore) (w : World) :
    Calls Tryd.prog 7 #[.string s] w fun e w' => e = .returned (.bool true) ∧ w = w' := by
  rcases hs with h | h | h | h
  · obtain rfl := of_toList h
    clear h
    unfold dCreate
    have hx : ((ByteArray.mk #[82, 101, 103, 105, 115, 116, 114, 97, 116, 105, 111, 110, 32, 70, 101, 101]).extract 12 16).toList == [32, 70, 101, 101] := by decide +kernel
    go_enter Tryd.func7, Tryd.ntmps7
    go_wp2
    go_ret
    exact ⟨rfl, rfl⟩
  · obtain rfl := of_toList h
    clear h
    unfold dRenew
    have hx : ((ByteArray.mk #[82, 101, 110, 101, 119, 97, 108, 32, 70, 101, 101]).extract 7 11).toList == [32, 70, 101, 101] := by decide +kernel
    go_enter Tryd.func7, Tryd.ntmps7
    go_wp2
    go_ret
    exact ⟨rfl, rfl⟩
  · obtain rfl := of_toList h
    clear h
    unfold dTransfer
    have hx : ((ByteArray.mk #[84, 114, 97, 110, 115, 102, 101, 114, 32, 70, 101, 101]).extract 8 12).toList == [32, 70, 101, 101] := by decide +kernel
    go_enter Tryd.func7, Tryd.ntmps7
    go_wp2
    go_ret
    exact ⟨rfl, rfl⟩
  · obtain rfl := of_toList h
    clear h
    unfold dRestore
    have hx : ((ByteArray.mk #[82, 101, 100, 101, 109, 112, 116, 105, 111, 110, 32, 70, 101, 101]).extract 10 14).toList == [32, 70, 101, 101] := by decide +kernel
    go_enter Tryd.func7, Tryd.ntmps7
    go_wp2
    go_ret
    exact ⟨rfl, rfl⟩
theorem fee_dsc {s : ByteArray} (h : kn s = true) (w : World) : Calls Tryd.prog 7 #[.string (dsc s)] w fun e w' => e = .returned (.bool true) ∧ w = w' := by
  refine fee_any _ ?_ w
  rcases dsc_four h with ⟨_, e⟩ | ⟨_, e⟩ | ⟨_, e⟩ | ⟨_, e⟩
  · exact .inl e
  · exact .inr (.inl e)
  · exact .inr (.inr (.inl e))
  · exact .inr (.inr (.inr e))

/-! ### the law -/
theorem law_out (c d : ByteArray) (hc : c.size ≤ maxLen) (hd : d.size ≤ maxLen) (h : 1048576 < c.size + d.size) (w : World) :
    Calls Tryd.prog 3 #[.string c, .string d] w fun e w' => e = .returned (.bool true) ∧ w = w' := by
  go_enter Tryd.func3, Tryd.ntmps3
  go_wp2_with (go_at_call 4; refine (bytes_no _ _ hc hd h _).mono ?_; rintro e w' ⟨rfl, rfl⟩)
  go_ret
  exact ⟨rfl, rfl⟩

set_option maxHeartbeats 400000 in
theorem law_tt_same (c d : ByteArray) (bm : Nat) (yc yd : Bool) (w : World) (h : c.size + d.size ≤ 1048576) (hm : w.cell? ⟨0, 0, none⟩ = some (.map (some bm)))
    (lc : (Instr.lookup 28 (.map (some bm)) (.string c) false).run Tryd.prog w = .ok (.agg #[.string (dsc c), .bool yc]) w)
    (ld : (Instr.lookup 28 (.map (some bm)) (.string d) false).run Tryd.prog w = .ok (.agg #[.string (dsc d), .bool yd]) w)
    (kc : kn c = true) (kd : kn d = true) (hcd : (c.toList == d.toList) = true) :
    Calls Tryd.prog 3 #[.string c, .string d] w fun e w' => e = .returned (.bool true) ∧ w = w' := by
  have hdd := agree_yes kc kd
  rw [hcd] at hdd
  have ec := ne_yes kc
  have ed := ne_yes kd
  have C1 : Hid (Calls Tryd.prog 5 #[.string c] w fun e w' => e = .returned (.string (dsc c)) ∧ w = w') := desc_any c bm yc w hm lc
  have C2 : Hid (Calls Tryd.prog 5 #[.string d] w fun e w' => e = .returned (.string (dsc d)) ∧ w = w') := desc_any d bm yd w hm ld
  clear lc ld hm
  go_enter Tryd.func3, Tryd.ntmps3
  go_wp2_with (go_at_call 4; refine (bytes_ok _ _ h _).mono ?_; rintro e w' ⟨rfl, rfl⟩)
  refine C1.out.mono ?_
  rintro e w' ⟨rfl, rfl⟩
  go_wp2_with fail
  refine C2.out.mono ?_
  rintro e w' ⟨rfl, rfl⟩
  go_wp2_with fail
  refine (known_any c _).mono ?_
  rintro e w' ⟨rfl, rfl⟩
  go_wp2_with fail
  refine (known_any d _).mono ?_
  rintro e w' ⟨rfl, rfl⟩
  go_wp2_with fail
  refine (fee_dsc kc _).mono ?_
  rintro e w' ⟨rfl, rfl⟩
  go_wp2_with fail
  refine (fee_dsc kd _).mono ?_
  rintro e w' ⟨rfl, rfl⟩
  go_wp2_with fail
  go_ret
  exact ⟨rfl, rfl⟩
set_option maxHeartbeats 400000 in
theorem law_tt_apart (c d : ByteArray) (bm : Nat) (yc yd : Bool) (w : World) (h : c.size + d.size ≤ 1048576) (hm : w.cell? ⟨0, 0, none⟩ = some (.map (some bm)))
    (lc : (Instr.lookup 28 (.map (some bm)) (.string c) false).run Tryd.prog w = .ok (.agg #[.string (dsc c), .bool yc]) w)
    (ld : (Instr.lookup 28 (.map (some bm)) (.string d) false).run Tryd.prog w = .ok (.agg #[.string (dsc d), .bool yd]) w)
    (kc : kn c = true) (kd : kn d = true) (hcd : (c.toList == d.toList) = false) :
    Calls Tryd.prog 3 #[.string c, .string d] w fun e w' => e = .returned (.bool true) ∧ w = w' := by
  have hdd := agree_yes kc kd
  rw [hcd] at hdd
  have ec := ne_yes kc
  have ed := ne_yes kd
  have C1 : Hid (Calls Tryd.prog 5 #[.string c] w fun e w' => e = .returned (.string (dsc c)) ∧ w = w') := desc_any c bm yc w hm lc
  have C2 : Hid (Calls Tryd.prog 5 #[.string d] w fun e w' => e = .returned (.string (dsc d)) ∧ w = w') := desc_any d bm yd w hm ld
  clear lc ld hm
  go_enter Tryd.func3, Tryd.ntmps3
  go_wp2_with (go_at_call 4; refine (bytes_ok _ _ h _).mono ?_; rintro e w' ⟨rfl, rfl⟩)
  refine C1.out.mono ?_
  rintro e w' ⟨rfl, rfl⟩
  go_wp2_with fail
  refine C2.out.mono ?_
  rintro e w' ⟨rfl, rfl⟩
  go_wp2_with fail
  refine (known_any c _).mono ?_
  rintro e w' ⟨rfl, rfl⟩
  go_wp2_with fail
  refine (known_any d _).mono ?_
  rintro e w' ⟨rfl, rfl⟩
  go_wp2_with fail
  refine (fee_dsc kc _).mono ?_
  rintro e w' ⟨rfl, rfl⟩
  go_wp2_with fail
  refine (fee_dsc kd _).mono ?_
  rintro e w' ⟨rfl, rfl⟩
  go_wp2_with fail
  go_ret
  exact ⟨rfl, rfl⟩
set_option maxHeartbeats 400000 in
theorem law_tf (c d : ByteArray) (bm : Nat) (yc yd : Bool) (w : World) (h : c.size + d.size ≤ 1048576) (hm : w.cell? ⟨0, 0, none⟩ = some (.map (some bm)))
    (lc : (Instr.lookup 28 (.map (some bm)) (.string c) false).run Tryd.prog w = .ok (.agg #[.string (dsc c), .bool yc]) w)
    (ld : (Instr.lookup 28 (.map (some bm)) (.string d) false).run Tryd.prog w = .ok (.agg #[.string (dsc d), .bool yd]) w)
    (kc : kn c = true) (kd : kn d = false)  :
    Calls Tryd.prog 3 #[.string c, .string d] w fun e w' => e = .returned (.bool true) ∧ w = w' := by
  obtain ⟨hdd, hcd⟩ := apart_yes_no kc kd
  have ec := ne_yes kc
  have ed := ne_no kd
  have C1 : Hid (Calls Tryd.prog 5 #[.string c] w fun e w' => e = .returned (.string (dsc c)) ∧ w = w') := desc_any c bm yc w hm lc
  have C2 : Hid (Calls Tryd.prog 5 #[.string d] w fun e w' => e = .returned (.string (dsc d)) ∧ w = w') := desc_any d bm yd w hm ld
  clear lc ld hm
  go_enter Tryd.func3, Tryd.ntmps3
  go_wp2_with (go_at_call 4; refine (bytes_ok _ _ h _).mono ?_; rintro e w' ⟨rfl, rfl⟩)
  refine C1.out.mono ?_
  rintro e w' ⟨rfl, rfl⟩
  go_wp2_with fail
  refine C2.out.mono ?_
  rintro e w' ⟨rfl, rfl⟩
  go_wp2_with fail
  refine (known_any c _).mono ?_
  rintro e w' ⟨rfl, rfl⟩
  go_wp2_with fail
  refine (known_any d _).mono ?_
  rintro e w' ⟨rfl, rfl⟩
  go_wp2_with fail
  refine (fee_dsc kc _).mono ?_
  rintro e w' ⟨rfl, rfl⟩
  go_wp2_with fail
  go_ret
  exact ⟨rfl, rfl⟩
set_option maxHeartbeats 400000 in
theorem law_ft (c d : ByteArray) (bm : Nat) (yc yd : Bool) (w : World) (h : c.size + d.size ≤ 1048576) (hm : w.cell? ⟨0, 0, none⟩ = some (.map (some bm)))
    (lc : (Instr.lookup 28 (.map (some bm)) (.string c) false).run Tryd.prog w = .ok (.agg #[.string (dsc c), .bool yc]) w)
    (ld : (Instr.lookup 28 (.map (some bm)) (.string d) false).run Tryd.prog w = .ok (.agg #[.string (dsc d), .bool yd]) w)
    (kc : kn c = false) (kd : kn d = true)  :
    Calls Tryd.prog 3 #[.string c, .string d] w fun e w' => e = .returned (.bool true) ∧ w = w' := by
  obtain ⟨hdd0, hcd0⟩ := apart_yes_no kd kc
  have hdd : ((dsc c).toList == (dsc d).toList) = false := by rw [Bool.beq_comm]; exact hdd0
  have hcd : (c.toList == d.toList) = false := by rw [Bool.beq_comm]; exact hcd0
  clear hdd0 hcd0
  have ec := ne_no kc
  have ed := ne_yes kd
  have C1 : Hid (Calls Tryd.prog 5 #[.string c] w fun e w' => e = .returned (.string (dsc c)) ∧ w = w') := desc_any c bm yc w hm lc
  have C2 : Hid (Calls Tryd.prog 5 #[.string d] w fun e w' => e = .returned (.string (dsc d)) ∧ w = w') := desc_any d bm yd w hm ld
  clear lc ld hm
  go_enter Tryd.func3, Tryd.ntmps3
  go_wp2_with (go_at_call 4; refine (bytes_ok _ _ h _).mono ?_; rintro e w' ⟨rfl, rfl⟩)
  refine C1.out.mono ?_
  rintro e w' ⟨rfl, rfl⟩
  go_wp2_with fail
  refine C2.out.mono ?_
  rintro e w' ⟨rfl, rfl⟩
  go_wp2_with fail
  refine (known_any c _).mono ?_
  rintro e w' ⟨rfl, rfl⟩
  go_wp2_with fail
  refine (known_any d _).mono ?_
  rintro e w' ⟨rfl, rfl⟩
  go_wp2_with fail
  refine (fee_dsc kd _).mono ?_
  rintro e w' ⟨rfl, rfl⟩
  go_wp2_with fail
  go_ret
  exact ⟨rfl, rfl⟩
set_option maxHeartbeats 400000 in
theorem law_ff_same (c d : ByteArray) (bm : Nat) (yc yd : Bool) (w : World) (h : c.size + d.size ≤ 1048576) (hm : w.cell? ⟨0, 0, none⟩ = some (.map (some bm)))
    (lc : (Instr.lookup 28 (.map (some bm)) (.string c) false).run Tryd.prog w = .ok (.agg #[.string (dsc c), .bool yc]) w)
    (ld : (Instr.lookup 28 (.map (some bm)) (.string d) false).run Tryd.prog w = .ok (.agg #[.string (dsc d), .bool yd]) w)
    (kc : kn c = false) (kd : kn d = false) (hcd : (c.toList == d.toList) = true) :
    Calls Tryd.prog 3 #[.string c, .string d] w fun e w' => e = .returned (.bool true) ∧ w = w' := by
  have hdd : ((dsc c).toList == (dsc d).toList) = true := by rw [dsc_no kc, dsc_no kd]; rfl
  have ec := ne_no kc
  have ed := ne_no kd
  have C1 : Hid (Calls Tryd.prog 5 #[.string c] w fun e w' => e = .returned (.string (dsc c)) ∧ w = w') := desc_any c bm yc w hm lc
  have C2 : Hid (Calls Tryd.prog 5 #[.string d] w fun e w' => e = .returned (.string (dsc d)) ∧ w = w') := desc_any d bm yd w hm ld
  clear lc ld hm
  go_enter Tryd.func3, Tryd.ntmps3
  go_wp2_with (go_at_call 4; refine (bytes_ok _ _ h _).mono ?_; rintro e w' ⟨rfl, rfl⟩)
  refine C1.out.mono ?_
  rintro e w' ⟨rfl, rfl⟩
  go_wp2_with fail
  refine C2.out.mono ?_
  rintro e w' ⟨rfl, rfl⟩
  go_wp2_with fail
  refine (known_any c _).mono ?_
  rintro e w' ⟨rfl, rfl⟩
  go_wp2_with fail
  refine (known_any d _).mono ?_
  rintro e w' ⟨rfl, rfl⟩
  go_wp2_with fail
  go_ret
  exact ⟨rfl, rfl⟩
set_option maxHeartbeats 400000 in
theorem law_ff_apart (c d : ByteArray) (bm : Nat) (yc yd : Bool) (w : World) (h : c.size + d.size ≤ 1048576) (hm : w.cell? ⟨0, 0, none⟩ = some (.map (some bm)))
    (lc : (Instr.lookup 28 (.map (some bm)) (.string c) false).run Tryd.prog w = .ok (.agg #[.string (dsc c), .bool yc]) w)
    (ld : (Instr.lookup 28 (.map (some bm)) (.string d) false).run Tryd.prog w = .ok (.agg #[.string (dsc d), .bool yd]) w)
    (kc : kn c = false) (kd : kn d = false) (hcd : (c.toList == d.toList) = false) :
    Calls Tryd.prog 3 #[.string c, .string d] w fun e w' => e = .returned (.bool true) ∧ w = w' := by
  have hdd : ((dsc c).toList == (dsc d).toList) = true := by rw [dsc_no kc, dsc_no kd]; rfl
  have ec := ne_no kc
  have ed := ne_no kd
  have C1 : Hid (Calls Tryd.prog 5 #[.string c] w fun e w' => e = .returned (.string (dsc c)) ∧ w = w') := desc_any c bm yc w hm lc
  have C2 : Hid (Calls Tryd.prog 5 #[.string d] w fun e w' => e = .returned (.string (dsc d)) ∧ w = w') := desc_any d bm yd w hm ld
  clear lc ld hm
  go_enter Tryd.func3, Tryd.ntmps3
  go_wp2_with (go_at_call 4; refine (bytes_ok _ _ h _).mono ?_; rintro e w' ⟨rfl, rfl⟩)
  refine C1.out.mono ?_
  rintro e w' ⟨rfl, rfl⟩
  go_wp2_with fail
  refine C2.out.mono ?_
  rintro e w' ⟨rfl, rfl⟩
  go_wp2_with fail
  refine (known_any c _).mono ?_
  rintro e w' ⟨rfl, rfl⟩
  go_wp2_with fail
  refine (known_any d _).mono ?_
  rintro e w' ⟨rfl, rfl⟩
  go_wp2_with fail
  go_ret
  exact ⟨rfl, rfl⟩
end Go.Proofs.Qxb6614516aDoor
