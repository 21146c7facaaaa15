import Derived.Test.Qxb6614317aRows
import Derived.WalkKit
import Derived.ProofKit
import Derived.OpenShut
import Derived.Below
import Derived.WalkSmall
import Derived.WalkSpells
import Derived.Laws.CopyOwn
import Derived.Deep.OwnRows
import Derived.Deep.QuietTactic
import Derived.BigQuiet
namespace Go.Proofs.Qxb6614317a
open Go.ChangeShapes Go.WideShapes Go.ChangeAt Go.RowKit
set_option linter.unusedVariables false

theorem info5 : (Try.prog.info? 5).map (fun i => (i.zero, i.size, i.bytes)) = some (some (.int .u8 0), 1, 1) := by kernel_rfl
theorem size5 : (Try.prog.info? 5).map (·.size) = some 1 := by kernel_rfl

/-- The bytes as cells. -/
def B8 (zs : List Int) : List Value := zs.map (.int .u8)
theorem B8_len (zs : List Int) : (B8 zs).length = zs.length := by simp [B8]
theorem B8_one (zs : List Int) : ∀ v ∈ B8 zs, v.oneCell' = true := ints_oneCell _ _

/-- 'zzCloneBytes' of a slice that is not nil: a new row with the same bytes. -/
theorem clone_some (x : Addr) (len cap : Nat) (zs : List Int) (w : World) (hlen : len ≤ 1048576) (hz : zs.length = len)
    (hc : ∀ i, i < zs.length → w.cell? (x.add i) = some (.int .u8 (zs.getD i 0))) (hb : ∀ i, i < zs.length → (x.add i).block < w.heap.size) :
    Calls Try.prog 6 #[.slice (some x) len cap] w fun e w' => e = .returned (.slice (some ⟨w.heap.size, 0, none⟩) len len) ∧ Hid (w'.heap[w.heap.size]? = some (.cells (B8 zs).toArray 5 (0, 0))) ∧ w.heap.size + 1 ≤ w'.heap.size ∧ Below w.heap.size w w' := by
  have hmk := run_make_row' (P := Try.prog) 22 5 (.int .u8 0) 1 Try.underlying22 info5 rfl .i64 .i64 len (by omega) (by omega)
  have hnil := fun (w : World) => Lib.run_eql_slice_nil (P := Try.prog) w 22 5 (some x) len cap 0 0 Try.underlying22
  go_enter Try.func6, Try.ntmps6
  go_wp2_with (refine wpList_copy_splice rfl (.tmp 9) (.tmp 10) 22 22 rfl 5 Try.underlying22 size5 _ _ _ _ _ _ rfl rfl w.heap.size 0 (madeCells #[.int .u8 0] len).toList 5 ?hg (B8 zs) ?hn ?hpos ?hfit (B8_one zs) w.heap.size w ?hbel (Nat.le_refl _) ?_)
  case hg => rw [Array.toArray_toList]; exact heap_alloc_new _ _
  case hn => rw [B8_len, hz]; simp
  case hpos =>
    intro _ j v hj
    have hjl : j < zs.length := by have := (List.getElem?_eq_some_iff.1 hj).1; rwa [B8_len] at this
    have e := hc j hjl
    rw [World.cell?_alloc_lt w _ (x.add j) (hb j hjl), e]
    simp [B8, List.getElem?_map, List.getElem?_eq_getElem hjl] at hj
    rw [← hj]; simp [List.getD, hjl]
  case hfit => rw [B8_len, hz]; simp [madeCells]
  case hbel => exact (Below.refl _ _).alloc (Nat.le_refl _) _
  intro w1 hg1 hb1
  have hsp : splice (madeCells #[.int .u8 0] len).toList 0 (B8 zs) = B8 zs := by
    unfold splice
    rw [List.drop_eq_nil_of_le (by rw [B8_len, hz]; simp [madeCells])]
    simp
  rw [hsp] at hg1
  clear hsp hmk hnil hc hb
  go_wp2
  go_ret
  exact ⟨rfl, hg1, lt_of_block hg1.out, hb1⟩

/-- 'zzSameBytes' of two rows that hold the same bytes. -/
theorem same_rows (g1 g2 len : Nat) (zs : List Int) (w : World) (hlen : len ≤ 1048576)
    (h1 : ∀ i, i < len → w.cell? ⟨g1, i, none⟩ = some (.int .u8 (zs.getD i 0))) (h2 : ∀ i, i < len → w.cell? ⟨g2, i, none⟩ = some (.int .u8 (zs.getD i 0))) :
    Calls Try.prog 10 #[.slice (some ⟨g1, 0, none⟩) len len, .slice (some ⟨g2, 0, none⟩) len len] w fun e w' => e = .returned (.bool true) ∧ ∃ n, w' = w.drewN n := by
  have hnil1 := fun (w : World) => Lib.run_eql_slice_nil (P := Try.prog) w 22 5 (some ⟨g1, 0, none⟩) len len 0 0 Try.underlying22
  have hnil2 := fun (w : World) => Lib.run_eql_slice_nil (P := Try.prog) w 22 5 (some ⟨g2, 0, none⟩) len len 0 0 Try.underlying22
  go_enter Try.func10, Try.ntmps10
  go_wp2
  go_loopw [5] (fun i wr => ∃ k : Nat, k ≤ len ∧ i = .int .i64 k ∧ ∃ n, wr = w.drewN n) (fun i _ => len - (intOf i).toNat)
  case atStart => exact ⟨0, Nat.zero_le _, rfl, 0, rfl⟩
  case round =>
    obtain ⟨k, hk, rfl, n, rfl⟩ := hrel
    by_cases hlt : k < len
    · have hlt' : (k : Int) < (len : Int) := by omega
      have c1 := h1 k hlt
      have c2 := h2 k hlt
      go_wp2
      go_quiet (fail)
      go_wp2
      go_roundw
      case rel => exact ⟨k + 1, by omega, by go_num, _, rfl⟩
      case measure => simp [intOf]; omega
    · go_wp2
      go_ret
      exact ⟨rfl, _, rfl⟩

theorem bytes_ok (a : Option Addr) (len cap : Nat) (n : Int) (hlen : len ≤ 1048576) (w : World) :
    Calls Try.prog 5 #[.slice a len cap, .int .i64 n] w fun e w' => e = .returned (.bool true) ∧ w = w' := by
  go_enter Try.func5, Try.ntmps5
  go_wp2
  go_ret
  exact ⟨rfl, rfl⟩

theorem bytes_no (a : Option Addr) (len cap : Nat) (n : Int) (hlen : 1048576 < len) (hm : len ≤ maxLen) (w : World) :
    Calls Try.prog 5 #[.slice a len cap, .int .i64 n] w fun e w' => e = .returned (.bool false) ∧ w = w' := by
  unfold maxLen at hm
  go_enter Try.func5, Try.ntmps5
  go_wp2
  go_ret
  exact ⟨rfl, rfl⟩

/-- Outside its premises the law answers true at once. -/
theorem law_out (a : Option Addr) (len cap : Nat) (n : Int) (hm : len ≤ maxLen) (n1 : -9223372036854775808 ≤ n) (n2 : n ≤ 9223372036854775807)
    (h : 1048576 < len ∨ (len ≤ 1048576 ∧ n < 0) ∨ (len ≤ 1048576 ∧ 0 ≤ n ∧ 8 * (len : Int) < n) ∨ (len ≤ 1048576 ∧ 0 ≤ n ∧ n ≤ 8 * (len : Int) ∧ ¬ (len : Int) = (n + 7) / 8)) (w : World) :
    Calls Try.prog 3 #[.slice a len cap, .int .i64 n] w fun e w' => e = .returned (.bool true) ∧ w = w' := by
  unfold maxLen at hm
  rcases h with h | ⟨h, h0⟩ | ⟨h, h0, h1⟩ | ⟨h, h0, h1, h2⟩
  · go_enter Try.func3, Try.ntmps3
    go_wp2_with (go_at_call 5; refine (bytes_no _ _ _ _ h hm _).mono ?_; rintro e w' ⟨rfl, rfl⟩)
    go_ret
    exact ⟨rfl, rfl⟩
  · go_enter Try.func3, Try.ntmps3
    go_wp2_with (go_at_call 5; refine (bytes_ok _ _ _ _ h _).mono ?_; rintro e w' ⟨rfl, rfl⟩)
    go_ret
    exact ⟨rfl, rfl⟩
  · have h0' : ¬ n < 0 := by omega
    go_enter Try.func3, Try.ntmps3
    go_wp2_with (go_at_call 5; refine (bytes_ok _ _ _ _ h _).mono ?_; rintro e w' ⟨rfl, rfl⟩)
    go_ret
    exact ⟨rfl, rfl⟩
  · have h0' : ¬ n < 0 := by omega
    have h1' : ¬ 8 * (len : Int) < n := by omega
    go_enter Try.func3, Try.ntmps3
    go_wp2_with (go_at_call 5; refine (bytes_ok _ _ _ _ h _).mono ?_; rintro e w' ⟨rfl, rfl⟩)
    go_ret
    exact ⟨rfl, rfl⟩

theorem cellB8 {w : World} {g : Nat} {zs : List Int} (h : w.heap[g]? = some (.cells (B8 zs).toArray 5 (0, 0))) {i : Nat} (hi : i < zs.length) : w.cell? ⟨g, i, none⟩ = some (.int .u8 (zs.getD i 0)) := by
  simp [World.cell?, h, B8, List.getD, List.getElem?_eq_getElem hi]

/-- Inside them: a buffer that is not nil. -/
theorem law_in (x : Addr) (len cap : Nat) (zs : List Int) (n : Int) (w : World) (hlen : len ≤ 1048576) (hz : zs.length = len)
    (hc : ∀ i, i < zs.length → w.cell? (x.add i) = some (.int .u8 (zs.getD i 0))) (hb : ∀ i, i < zs.length → (x.add i).block < w.heap.size)
    (h0 : 0 ≤ n) (h1 : n ≤ 8 * (len : Int)) (h2 : (len : Int) = (n + 7) / 8) :
    Calls Try.prog 3 #[.slice (some x) len cap, .int .i64 n] w fun e w' => e = .returned (.bool true) ∧ Below w.heap.size w w' := by
  have HC : Hid (∀ i, i < zs.length → w.cell? (x.add i) = some (.int .u8 (zs.getD i 0))) := hc
  have HB : Hid (∀ i, i < zs.length → (x.add i).block < w.heap.size) := hb
  have h2' : ((len : Int) != (n + 7) / 8) = false := by simpa using h2
  have H2 : Hid ((len : Int) = (n + 7) / 8) := h2
  have h3 : 8 * (len : Int) < n + 8 := by omega
  clear hc hb h2
  go_enter Try.func3, Try.ntmps3
  go_wp2_with (go_at_call 5; refine (bytes_ok _ _ _ _ hlen _).mono ?_; rintro e w' ⟨rfl, rfl⟩)
  refine (clone_some x len cap zs w hlen hz HC.out HB.out).mono ?_
  rintro e w1 ⟨rfl, hg1, hz1, hb1⟩
  go_wp2_with fail
  refine (clone_some ⟨w.heap.size, 0, none⟩ len len zs w1 hlen hz (fun i hi => by rw [Addr.add_lit, Nat.zero_add]; exact cellB8 hg1.out hi) (fun i _ => by rw [Addr.add_lit]; exact hz1)).mono ?_
  rintro e w2 ⟨rfl, hg2, hz2, hb2⟩
  have HG1 : Hid (w2.heap[w.heap.size]? = some (.cells (B8 zs).toArray 5 (0, 0))) := (hb2.block _ hz1).trans hg1.out
  have hbel : Below w.heap.size w w2 := hb1.trans (hb2.mono (by omega))
  clear hg1 hb1 hb2 HC HB
  have hr1 : w.heap.size < w2.heap.size := by omega
  go_wp2_with (first | (go_at_call 7; go_in) | (go_at_call 8; go_in) | (go_at_call 17; go_in) | (go_at_call 9; go_in) | (go_at_call 11; go_in))
  go_end0
  go_wp2_with (first | (go_at_call 7; go_in) | (go_at_call 8; go_in) | (go_at_call 17; go_in) | (go_at_call 9; go_in) | (go_at_call 11; go_in))
  go_end0
  go_wp2_with (first | (go_at_call 7; go_in) | (go_at_call 8; go_in) | (go_at_call 17; go_in) | (go_at_call 9; go_in) | (go_at_call 11; go_in))
  go_end0
  go_wp2_with (first | (go_at_call 7; go_in) | (go_at_call 8; go_in) | (go_at_call 17; go_in) | (go_at_call 9; go_in) | (go_at_call 11; go_in))
  go_end0
  go_wp2_with (first | (go_at_call 7; go_in) | (go_at_call 8; go_in) | (go_at_call 17; go_in) | (go_at_call 9; go_in) | (go_at_call 11; go_in))
  refine (same_rows w.heap.size w1.heap.size len zs _ hlen ?_ ?_).mono ?_
  · intro i hi
    rw [World.cell?_alloc_past _ _ _ (by omega)]
    exact cellB8 HG1.out (by omega)
  · intro i hi
    rw [World.cell?_alloc_past _ _ _ (by omega)]
    exact cellB8 hg2.out (by omega)
  rintro e w3 ⟨rfl, nq, rfl⟩
  go_wp2
  go_ret
  exact ⟨rfl, below_drewN (hbel.alloc (by omega) _) _⟩

theorem clone_nil (w : World) : Calls Try.prog 6 #[.slice none 0 0] w fun e w' => e = .returned (.slice none 0 0) ∧ w = w' := by
  have hnil := fun (w : World) => Lib.run_eql_slice_nil (P := Try.prog) w 22 5 none 0 0 0 0 Try.underlying22
  go_enter Try.func6, Try.ntmps6
  go_wp2
  go_ret
  exact ⟨rfl, rfl⟩

theorem same_nil (w : World) : Calls Try.prog 10 #[.slice none 0 0, .slice none 0 0] w fun e w' => e = .returned (.bool true) ∧ w = w' := by
  have hnil := fun (w : World) => Lib.run_eql_slice_nil (P := Try.prog) w 22 5 none 0 0 0 0 Try.underlying22
  go_enter Try.func10, Try.ntmps10
  go_wp2
  refine wp_loop_rounds 1 ?_
  rw [rounds_succ]
  go_wp2
  go_ret
  exact ⟨rfl, rfl⟩

/-- Inside them: the nil buffer. -/
theorem law_nil (w : World) :
    Calls Try.prog 3 #[.slice none 0 0, .int .i64 0] w fun e w' => e = .returned (.bool true) ∧ Below w.heap.size w w' := by
  go_enter Try.func3, Try.ntmps3
  go_wp2_with (first | (go_at_call 5; go_in) | (go_at_call 6; refine (clone_nil _).mono ?_; rintro e w' ⟨rfl, rfl⟩) | (go_at_call 7; go_in) | (go_at_call 8; go_in) | (go_at_call 17; go_in))
  go_end0
  go_wp2_with (first | (go_at_call 7; go_in) | (go_at_call 8; go_in) | (go_at_call 17; go_in) | (go_at_call 9; go_in) | (go_at_call 11; go_in))
  go_end0
  go_wp2_with (first | (go_at_call 7; go_in) | (go_at_call 8; go_in) | (go_at_call 17; go_in) | (go_at_call 9; go_in) | (go_at_call 11; go_in))
  go_end0
  go_wp2_with (first | (go_at_call 7; go_in) | (go_at_call 8; go_in) | (go_at_call 17; go_in) | (go_at_call 9; go_in) | (go_at_call 11; go_in))
  go_end0
  go_wp2_with (first | (go_at_call 9; go_in) | (go_at_call 11; go_in) | (go_at_call 10; refine (same_nil _).mono ?_; rintro e w' ⟨rfl, rfl⟩))
  go_ret
  exact ⟨rfl, (Below.refl _ _).alloc (Nat.le_refl _) _⟩
end Go.Proofs.Qxb6614317a
