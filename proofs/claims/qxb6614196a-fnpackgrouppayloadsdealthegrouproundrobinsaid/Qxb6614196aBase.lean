/-
  Words that all walks of this seat share: the views of the arguments; closed facts on types; small laws on worlds.
-/
import Derived.Test.Qxb6614196aRows
import Derived.WalkKit
import Derived.ProofKit
import Derived.OpenShut
import Derived.Below
import Derived.WalkSmall
import Derived.WalkSpells
import Derived.WalkLawsBesides
import Derived.Deep.OwnRows
import Derived.Deep.QuietTactic
import Derived.BigQuiet
import Derived.Deep.RegionHeld3
import Derived.Deep.DrawnRows
import Derived.Deep.AppendLies
namespace Go.Proofs.Qxb6614196a
open Go.ChangeShapes Go.WideShapes Go.ChangeAt Go.RowKit

/-- A slice of strings, as it lies in memory. -/
def VStr (w : World) (a : Option Addr) (n : Nat) (S : Nat → ByteArray) : Prop :=
  n = 0 ∨ ∃ b off, a = some ⟨b, off, none⟩ ∧ b < w.heap.size ∧ ∀ i, i < n → w.cell? ⟨b, off + i, none⟩ = some (.string (S i))
/-- A slice of bytes. -/
def VByt (w : World) (a : Option Addr) (n : Nat) (Z : Nat → Int) : Prop :=
  n = 0 ∨ ∃ b off, a = some ⟨b, off, none⟩ ∧ b < w.heap.size ∧ ∀ i, i < n → w.cell? ⟨b, off + i, none⟩ = some (.int .u8 (Z i)) ∧ 0 ≤ Z i ∧ Z i ≤ 255
/-- A slice of frames (three cells each). -/
def VFrm (w : World) (a : Option Addr) (n : Nat) (T : Nat → Int) (Y : Nat → ByteArray) (OA : Nat → Option Addr) (OL OC : Nat → Nat) : Prop :=
  n = 0 ∨ ∃ b off, a = some ⟨b, off, none⟩ ∧ b < w.heap.size ∧ ∀ i, i < n → w.cell? ⟨b, off + i * 3, none⟩ = some (.int .u32 (T i)) ∧ w.cell? ⟨b, off + i * 3 + 1, none⟩ = some (.string (Y i)) ∧ w.cell? ⟨b, off + i * 3 + 2, none⟩ = some (.slice (OA i) (OL i) (OC i))

/-- The first row of a type; the number of rows where there is none. -/
def frow (S : Nat → ByteArray) (y : ByteArray) : Nat → Nat
  | 0 => 0
  | n + 1 => let r := frow S y n; if r < n then r else if (S n).toList = y.toList then n else n + 1
theorem frow_le (S : Nat → ByteArray) (y : ByteArray) (n : Nat) : frow S y n ≤ n := by
  induction n with
  | zero => simp [frow]
  | succ n ih => simp only [frow]; split; omega; split <;> omega
/-- None of the first n rows has the type. -/
def noneBefore (S : Nat → ByteArray) (y : ByteArray) (n : Nat) : Prop := ∀ i, i < n → (S i).toList ≠ y.toList
theorem frow_none {S : Nat → ByteArray} {y : ByteArray} {n : Nat} (h : noneBefore S y n) : frow S y n = n := by
  induction n with
  | zero => rfl
  | succ n ih =>
    have := ih (fun i hi => h i (by omega))
    simp only [frow, this]
    rw [if_neg (by omega), if_neg (h n (by omega))]
theorem frow_hit {S : Nat → ByteArray} {y : ByteArray} {n k : Nat} (hk : k < n) (h : noneBefore S y k) (e : (S k).toList = y.toList) : frow S y n = k := by
  induction n with
  | zero => omega
  | succ n ih =>
    by_cases hkn : k < n
    · have := ih hkn
      simp only [frow, this]; rw [if_pos hkn]
    · obtain rfl : k = n := by omega
      have := frow_none h
      simp only [frow, this]; rw [if_neg (by omega), if_pos e]
theorem noneBefore_succ {S : Nat → ByteArray} {y : ByteArray} {n : Nat} (h : noneBefore S y n) (e : (S n).toList ≠ y.toList) : noneBefore S y (n + 1) := by
  intro i hi
  by_cases h' : i < n
  · exact h i h'
  · obtain rfl : i = n := by omega
    exact e
theorem ret_int {k : IntKind} {a b : Int} (h : a = b) : Ending.returned (.int k a) = .returned (.int k b) := by rw [h]
/-- Some bool; the world as it was but for draws; what a yes says. A definition, so that the walk leaves it standing. -/
def AnsB (p : Prop) (w : World) (e : Ending) (w' : World) : Prop := ∃ b : Bool, e = .returned (.bool b) ∧ (∃ n, w' = w.drewN n) ∧ (b = true → p)
theorem AnsB.no {p : Prop} (w : World) (n : Nat) : AnsB p w (.returned (.bool false)) (w.drewN n) := ⟨false, rfl, ⟨n, rfl⟩, fun h => by cases h⟩
theorem AnsB.yes {p : Prop} (h : p) (w : World) (n : Nat) : AnsB p w (.returned (.bool true)) (w.drewN n) := ⟨true, rfl, ⟨n, rfl⟩, fun _ => h⟩
theorem AnsB.any {p : Prop} (h : p) (b : Bool) (w : World) (n : Nat) : AnsB p w (.returned (.bool b)) (w.drewN n) := ⟨b, rfl, ⟨n, rfl⟩, fun _ => h⟩
/-- What 'pgDomainOK' lets by. -/
structure Dom (B L m : Int) (nk nc ng : Nat) (S : Nat → ByteArray) (Z : Nat → Int) (Y : Nat → ByteArray) : Prop where
  b1 : 1 ≤ B
  b2 : B ≤ 32
  l0 : 0 ≤ L
  l7 : L ≤ 7
  m7 : m ≤ 7
  len : nc = nk
  code : ∀ i, i < nc → Z i ≤ 15
  grp : (ng : Int) = (L + 1) * B
  row : ∀ i, i < ng → frow S (Y i) nk < nk ∧ (S (frow S (Y i) nk)).toList = (Y i).toList
theorem VStr.later {w w' : World} {a : Option Addr} {n : Nat} {S : Nat → ByteArray} (h : VStr w a n S) (hb : Below w.heap.size w w') : VStr w' a n S := by
  rcases h with h | ⟨b, off, e, hlt, hc⟩
  · exact .inl h
  · exact .inr ⟨b, off, e, by have := hb.size; omega, fun i hi => (hb.cell (p := ⟨b, off + i, none⟩) hlt).trans (hc i hi)⟩
theorem VByt.later {w w' : World} {a : Option Addr} {n : Nat} {Z : Nat → Int} (h : VByt w a n Z) (hb : Below w.heap.size w w') : VByt w' a n Z := by
  rcases h with h | ⟨b, off, e, hlt, hc⟩
  · exact .inl h
  · exact .inr ⟨b, off, e, by have := hb.size; omega, fun i hi => ⟨(hb.cell (p := ⟨b, off + i, none⟩) hlt).trans (hc i hi).1, (hc i hi).2⟩⟩
theorem VFrm.later {w w' : World} {a : Option Addr} {n : Nat} {T : Nat → Int} {Y : Nat → ByteArray} {OA : Nat → Option Addr} {OL OC : Nat → Nat} (h : VFrm w a n T Y OA OL OC) (hb : Below w.heap.size w w') : VFrm w' a n T Y OA OL OC := by
  rcases h with h | ⟨b, off, e, hlt, hc⟩
  · exact .inl h
  · exact .inr ⟨b, off, e, by have := hb.size; omega, fun i hi => ⟨(hb.cell (p := ⟨b, off + i * 3, none⟩) hlt).trans (hc i hi).1, (hb.cell (p := ⟨b, off + i * 3 + 1, none⟩) hlt).trans (hc i hi).2.1, (hb.cell (p := ⟨b, off + i * 3 + 2, none⟩) hlt).trans (hc i hi).2.2⟩⟩
theorem info5 : (Try.prog.info? 5).map (fun i => (i.zero, i.size, i.bytes)) = some (some (.int .u8 0), 1, 1) := by kernel_rfl
/-- 'nil' means: nothing in it. -/
def NilOK (o : Option Addr) (n c : Nat) : Prop := o = none → n = 0 ∧ c = 0
theorem mk_run {t e : TypeId} {z : Value} {size bytes : Nat} (ht : Try.prog.underlying t = some (.slice e)) (hinfo : (Try.prog.info? e).map (fun i => (i.zero, i.size, i.bytes)) = some (some z, size, bytes))
    (l c : Nat) (hlc : l ≤ c) (hb : bytes * c ≤ 281474976710656) (h63 : c ≤ 9223372036854775807) (w : World) :
    (Instr.makeSlice t (.int .i64 (l : Int)) (.int .i64 (c : Int))).run Try.prog w = .ok (.slice (some ⟨w.heap.size, 0, none⟩) l c) (w.alloc (.cells (madeCells z.cells (c * size)) e)) := by
  obtain ⟨i, hi, hz, hs, hby⟩ := info_parts hinfo
  have hb' : (i.bytes : Int) * (c : Int) ≤ 281474976710656 := by
    have h : ((i.bytes * c : Nat) : Int) ≤ 281474976710656 := by rw [hby]; omega
    rwa [Int.natCast_mul] at h
  have hr := run_make (P := Try.prog) w t e i z ht hi hz .i64 .i64 l c (by omega) (by omega) hb' (by omega)
  simpa only [Int.toNat_natCast, hs] using hr
/-- What make lays: the zero value's cells, again and again. -/
theorem made_row (w : World) (z : Array Value) (n : Nat) (t : TypeId) : (w.alloc (.cells (madeCells z n) t)).rowIs w.heap.size t n (fun i => z[i % z.size]!) :=
  ⟨_, heap_alloc_new _ _, size_madeCells _ _, fun i hi => by simp [madeCells, hi]⟩
theorem info58 : (Try.prog.info? 58).map (fun i => (i.zero, i.size, i.bytes)) = some (some (.agg #[.int .u8 0, .int .u8 0, .bool false, .string ⟨#[]⟩, .int .i64 0]), 5, 32) := by kernel_rfl
theorem info63 : (Try.prog.info? 63).map (fun i => (i.zero, i.size, i.bytes)) = some (some (.agg #[.int .u32 0, .string ⟨#[]⟩, .slice none 0 0]), 3, 48) := by kernel_rfl
/-- A slice of bytes whose block lies from lo on, below N. -/
def VB (w : World) (lo N : Nat) (a : Option Addr) (n : Nat) (Z : Nat → Int) : Prop :=
  n = 0 ∨ ∃ b off, a = some ⟨b, off, none⟩ ∧ lo ≤ b ∧ b < N ∧ ∀ i, i < n → w.cell? ⟨b, off + i, none⟩ = some (.int .u8 (Z i)) ∧ 0 ≤ Z i ∧ Z i ≤ 255
theorem VB.step {w w' : World} {lo lo' N M : Nat} {a : Option Addr} {n : Nat} {Z : Nat → Int} (h : VB w lo N a n Z) (hb : ∀ b, lo ≤ b → b < N → w'.heap[b]? = w.heap[b]?) (hl : lo' ≤ lo) (hM : N ≤ M) : VB w' lo' M a n Z := by
  rcases h with h | ⟨b, off, e, h0, hlt, hc⟩
  · exact .inl h
  · exact .inr ⟨b, off, e, by omega, by omega, fun i hi => ⟨(World.cell?_of_block (w := w) (a := ⟨b, off + i, none⟩) (hb b h0 hlt)).trans (hc i hi).1, (hc i hi).2⟩⟩
end Go.Proofs.Qxb6614196a
