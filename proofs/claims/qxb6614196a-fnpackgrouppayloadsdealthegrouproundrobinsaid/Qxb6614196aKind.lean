/-
  The callees of 'packGroup' that look a type up and write a nibble.
-/
import Derived.Test.Qxb6614196aMk
namespace Go.Proofs.Qxb6614196a
open Go.ChangeShapes Go.WideShapes Go.ChangeAt Go.RowKit
set_option linter.unusedVariables false

/-- The closure of 'kindOfType'. -/
theorem isType_any (c n : Int) (o : Bool) (s : ByteArray) (z : Int) (bt : Nat) (y : ByteArray) (w : World) (hb : bt < w.heap.size) (hc : w.cell? ⟨bt, 0, none⟩ = some (.string y)) :
    Calls Try.prog 31 #[.agg #[.int .u8 c, .int .u8 n, .bool o, .string s, .int .i64 z], .pointer (some ⟨bt, 0, none⟩)] w fun e w' => e = .returned (.bool (s.toList == y.toList)) ∧ w.alloc (.cells #[.int .u8 c, .int .u8 n, .bool o, .string s, .int .i64 z] 58) = w' := by
  go_enter Try.func31, Try.ntmps31
  go_wp2
  go_ret
  exact ⟨rfl, rfl⟩

/-- 'tocEnd'. -/
theorem tocEnd_any (a b c : Int) (f : Nat) (hf : f ≤ 1000) (w : World) :
    Calls Try.prog 21 #[.agg #[.int .u8 a, .int .u8 b, .int .u8 c, .int .i64 f]] w fun e w' => e = .returned (.int .i64 ((2 + (f + 1) / 2 : Nat) : Int)) ∧ w.alloc (.cells #[.int .u8 a, .int .u8 b, .int .u8 c, .int .i64 f] 51) = w' := by
  go_enter Try.func21, Try.ntmps21
  go_wp2
  go_ret
  exact ⟨ret_int (by show (_ : Int) = _; go_num), rfl⟩
/-- A nibble laid into a ToC octet. -/
def put8 (v c : Int) (j : Nat) : Int := bits .or .u8 v (if j % 2 = 0 then c * 16 % 256 else c)
set_option maxHeartbeats 400000 in
/-- 'putRFC3558ToC'. -/
theorem put_any (g len cap j : Nat) (c v : Int) (w : World) (hj2 : j ≤ 1000) (hl : 2 + j / 2 < len) (hc : w.cell? ⟨g, 2 + j / 2, none⟩ = some (.int .u8 v)) (hf : w.frozen? ⟨g, 2 + j / 2, none⟩ = false) (hlen : len ≤ 1000000) :
    Calls Try.prog 28 #[.slice (some ⟨g, 0, none⟩) len cap, .int .i64 j, .int .u8 c] w fun e w' => e = .returned (.tuple #[]) ∧ w.setCell ⟨g, 2 + j / 2, none⟩ (.int .u8 (put8 v c j)) = w' := by
  by_cases hj : j % 2 = 0
  · have e8 : put8 v c j = bits .or .u8 v (c * 16 % 256) := by rw [put8, if_pos hj]
    have h1 : (((j : Int) % 2) == 0) = true := by rw [beq_iff_eq]; omega
    rw [e8]
    clear e8
    go_enter Try.func28, Try.ntmps28
    go_wp2
    go_end0
    exact ⟨rfl, rfl⟩
  · have e8 : put8 v c j = bits .or .u8 v c := by rw [put8, if_neg hj]
    have h1 : (((j : Int) % 2) == 0) = false := by rw [beq_eq_false_iff_ne]; omega
    rw [e8]
    clear e8
    go_enter Try.func28, Try.ntmps28
    go_wp2
    go_end0
    exact ⟨rfl, rfl⟩

/-- A row of the table, read. -/
theorem krow {w : World} {br nk k : Nat} {Z : Nat → Int} {S : Nat → ByteArray} (h : w.rowIs br 58 (nk * 5) (kcell Z S nk)) (hk : k < nk) :
    w.cell? ⟨br, k * 5, none⟩ = some (.int .u8 (Z k)) ∧ w.cell? ⟨br, k * 5 + 1, none⟩ = some (.int .u8 0) ∧ w.cell? ⟨br, k * 5 + 2, none⟩ = some (.bool false) ∧ w.cell? ⟨br, k * 5 + 3, none⟩ = some (.string (S k)) ∧ w.cell? ⟨br, k * 5 + 4, none⟩ = some (.int .i64 0) := by
  refine ⟨?_, ?_, ?_, ?_, ?_⟩
  · rw [h.cell (by omega)]; simp [kcell, hk]
  · rw [h.cell (by omega)]; simp [kcell, show (k * 5 + 1) % 5 = 1 by omega]
  · rw [h.cell (by omega)]; simp [kcell, show (k * 5 + 2) % 5 = 2 by omega]
  · rw [h.cell (by omega)]; simp [kcell, show (k * 5 + 3) % 5 = 3 by omega, show (k * 5 + 3) / 5 = k by omega, hk]
  · rw [h.cell (by omega)]; simp [kcell, show (k * 5 + 4) % 5 = 4 by omega]

set_option maxHeartbeats 400000 in
/-- 'slices.IndexFunc' at that closure: the first row of the type. -/
theorem index_any (br nk bt : Nat) (Z : Nat → Int) (S : Nat → ByteArray) (y : ByteArray) (w : World) (mk : nk ≤ 1048576) (hbt : bt < w.heap.size) (hrow : w.rowIs br 58 (nk * 5) (kcell Z S nk)) (hy : w.cell? ⟨bt, 0, none⟩ = some (.string y))
    (hh : frow S y nk < nk) (he : (S (frow S y nk)).toList = y.toList) :
    Calls Try.prog 30 #[.slice (some ⟨br, 0, none⟩) nk nk, .func (.func 31) #[] #[.pointer (some ⟨bt, 0, none⟩)]] w fun e w' => e = .returned (.int .i64 (frow S y nk)) ∧ Below w.heap.size w w' := by
  have HROW : Hid (w.rowIs br 58 (nk * 5) (kcell Z S nk)) := hrow
  have HY : Hid (w.cell? ⟨bt, 0, none⟩ = some (.string y)) := hy
  have HE : Hid ((S (frow S y nk)).toList = y.toList) := he
  have hlr := hrow.lt
  clear hrow hy he
  go_enter Try.func30, Try.ntmps30
  go_wp2
  go_loopw [8] (fun i wr => ∃ k : Nat, k ≤ nk ∧ i = .int .i64 k ∧ Hid (noneBefore S y k) ∧ Below w.heap.size w wr) (fun i _ => nk - (intOf i).toNat)
  case atStart => exact ⟨0, Nat.zero_le _, rfl, fun i hi => by omega, Below.refl _ _⟩
  case round =>
    obtain ⟨k, hkk, rfl, hnb, hbel⟩ := hrel
    by_cases hlt : k < nk
    · have hy2 : wr.cell? ⟨bt, 0, none⟩ = some (.string y) := (hbel.cell (p := ⟨bt, 0, none⟩) hbt).trans HY.out
      obtain ⟨r0, r1, r2, r3, r4⟩ := krow (HROW.out.of_block (hbel.block _ hlr)) hlt
      have hsz := hbel.size
      have hbt2 : bt < wr.heap.size := by omega
      have HB : Hid (Below w.heap.size w wr) := hbel
      clear hbel
      by_cases he : (S k).toList = y.toList
      · have he' : ((S k).toList == y.toList) = true := by rw [he]; simp
        have HK : Hid ((S k).toList = y.toList) := he
        clear he
        go_wp2_with (go_at_call 31; refine (isType_any _ _ _ _ _ bt y _ (by exact hbt2) (by exact hy2)).mono ?_; rintro e w' ⟨rfl, rfl⟩)
        go_ret
        exact ⟨ret_int (by rw [frow_hit hlt hnb.out HK.out]), HB.out.alloc hsz _⟩
      · have he' : ((S k).toList == y.toList) = false := beq_eq_false_iff_ne.2 he
        have HK : Hid ((S k).toList ≠ y.toList) := he
        clear he
        go_wp2_with (go_at_call 31; refine (isType_any _ _ _ _ _ bt y _ (by exact hbt2) (by exact hy2)).mono ?_; rintro e w' ⟨rfl, rfl⟩)
        go_roundw
        case rel => exact ⟨k + 1, by omega, by go_num, noneBefore_succ hnb.out HK.out, HB.out.alloc hsz _⟩
        case measure => simp [intOf]; omega
    · obtain rfl : k = nk := by omega
      exact absurd (frow_none hnb.out) (by omega)

set_option maxHeartbeats 400000 in
/-- 'kindOfType': the first row of the type. -/
theorem kind_any (bkk br nk : Nat) (Z : Nat → Int) (S : Nat → ByteArray) (y : ByteArray) (w : World) (mk : nk ≤ 1048576) (hbk : bkk < w.heap.size) (hk : w.cell? ⟨bkk, 0, none⟩ = some (.slice (some ⟨br, 0, none⟩) nk nk)) (hrow : w.rowIs br 58 (nk * 5) (kcell Z S nk))
    (hh : frow S y nk < nk) (he : (S (frow S y nk)).toList = y.toList) :
    Calls Try.prog 27 #[.pointer (some ⟨bkk, 0, none⟩), .string y] w fun e w' => e = .returned (.tuple #[.agg #[.int .u8 (Z (frow S y nk)), .int .u8 0, .bool false, .string (S (frow S y nk)), .int .i64 0], .bool true]) ∧ Below w.heap.size w w' := by
  have HROW : Hid (w.rowIs br 58 (nk * 5) (kcell Z S nk)) := hrow
  have HE : Hid ((S (frow S y nk)).toList = y.toList) := he
  have HKK : Hid (w.cell? ⟨bkk, 0, none⟩ = some (.slice (some ⟨br, 0, none⟩) nk nk)) := hk
  have hlr := hrow.lt
  clear hrow he
  go_enter Try.func27, Try.ntmps27
  go_wp2_with fail
  refine (index_any br nk w.heap.size Z S y _ mk (by simp; omega) (by exact (HROW.out.alloc _).alloc _) (by rw [World.cell?_alloc_past _ _ _ (by simp), World.cell?_alloc_at _ _ _ _ rfl]; rfl) hh HE.out).mono ?_
  rintro e w1 ⟨rfl, hb1⟩
  have hs1 : w.heap.size + 1 + 1 ≤ w1.heap.size := by have := hb1.size; simpa using this
  have hk1 : w1.cell? ⟨bkk, 0, none⟩ = some (.slice (some ⟨br, 0, none⟩) nk nk) := cell_later hb1 (by rw [World.cell?_alloc_past _ _ _ (by simp; omega), World.cell?_alloc_past _ _ _ hbk]; exact HKK.out)
  obtain ⟨r0, r1, r2, r3, r4⟩ := krow (((HROW.out.alloc _).alloc _).of_block (hb1.block _ (by simp; omega))) hh
  have HB : Hid (Below w.heap.size w w1) := (((Below.refl _ _).alloc (Nat.le_refl _) _).alloc (by simp) _).trans (hb1.mono (by simp; omega))
  have b0 : w1.cell? ⟨w.heap.size + 1, 0, none⟩ = some (.int .u8 0) := (hb1.cell (p := ⟨w.heap.size + 1, 0, none⟩) (by simp)).trans (by rw [World.cell?_alloc_at _ _ _ _ (by simp)]; rfl)
  have f0 : w1.frozen? ⟨w.heap.size + 1, 0, none⟩ = false := (hb1.frozen (p := ⟨w.heap.size + 1, 0, none⟩) (by simp)).trans (World.frozen?_alloc_at _ _ _ _ (by simp))
  have b1 : w1.cell? ⟨w.heap.size + 1, 1, none⟩ = some (.int .u8 0) := (hb1.cell (p := ⟨w.heap.size + 1, 1, none⟩) (by simp)).trans (by rw [World.cell?_alloc_at _ _ _ _ (by simp)]; rfl)
  have f1 : w1.frozen? ⟨w.heap.size + 1, 1, none⟩ = false := (hb1.frozen (p := ⟨w.heap.size + 1, 1, none⟩) (by simp)).trans (World.frozen?_alloc_at _ _ _ _ (by simp))
  have b2 : w1.cell? ⟨w.heap.size + 1, 2, none⟩ = some (.bool false) := (hb1.cell (p := ⟨w.heap.size + 1, 2, none⟩) (by simp)).trans (by rw [World.cell?_alloc_at _ _ _ _ (by simp)]; rfl)
  have f2 : w1.frozen? ⟨w.heap.size + 1, 2, none⟩ = false := (hb1.frozen (p := ⟨w.heap.size + 1, 2, none⟩) (by simp)).trans (World.frozen?_alloc_at _ _ _ _ (by simp))
  have b3 : w1.cell? ⟨w.heap.size + 1, 3, none⟩ = some (.string ⟨#[]⟩) := (hb1.cell (p := ⟨w.heap.size + 1, 3, none⟩) (by simp)).trans (by rw [World.cell?_alloc_at _ _ _ _ (by simp)]; rfl)
  have f3 : w1.frozen? ⟨w.heap.size + 1, 3, none⟩ = false := (hb1.frozen (p := ⟨w.heap.size + 1, 3, none⟩) (by simp)).trans (World.frozen?_alloc_at _ _ _ _ (by simp))
  have b4 : w1.cell? ⟨w.heap.size + 1, 4, none⟩ = some (.int .i64 0) := (hb1.cell (p := ⟨w.heap.size + 1, 4, none⟩) (by simp)).trans (by rw [World.cell?_alloc_at _ _ _ _ (by simp)]; rfl)
  have f4 : w1.frozen? ⟨w.heap.size + 1, 4, none⟩ = false := (hb1.frozen (p := ⟨w.heap.size + 1, 4, none⟩) (by simp)).trans (World.frozen?_alloc_at _ _ _ _ (by simp))
  have hh' : ((frow S y nk : Nat) : Int) < (nk : Int) := by omega
  clear hb1 hk
  go_wp2
  exact bodyPost_ret (v := .tuple #[.agg #[.int .u8 (Z (frow S y nk)), .int .u8 0, .bool false, .string (S (frow S y nk)), .int .i64 0], .bool true]) (by simp [results, Try.results27, go_sem, b0, b1, b2, b3, b4]) rfl ⟨rfl, ((((HB.out.setCell (by simp) _).setCell (by simp) _).setCell (by simp) _).setCell (by simp) _).setCell (by simp) _⟩
end Go.Proofs.Qxb6614196a
