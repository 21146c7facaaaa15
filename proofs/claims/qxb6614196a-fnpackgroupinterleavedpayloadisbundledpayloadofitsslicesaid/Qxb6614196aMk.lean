import Derived.Test.Qxb6614196aBase
namespace Go.Proofs.Qxb6614196a
open Go.ChangeShapes Go.WideShapes Go.ChangeAt Go.RowKit
set_option linter.unusedVariables false

/-- A row that is filled from its head. -/
def fill8 (Z : Nat → Int) (k : Nat) (i : Nat) : Value := .int .u8 (if i < k then Z i else 0)

set_option maxHeartbeats 400000 in
/-- 'pgClone': a slice with the same bytes, in memory that nothing writes. -/
theorem clone_any (a : Option Addr) (n c : Nat) (Z : Nat → Int) (w : World) (ha : a = none → n = 0 ∧ c = 0) (hv : VByt w a n Z) (hn : n ≤ 1048576) :
    Calls Try.prog 23 #[.slice a n c] w fun e w' => ∃ o cc, e = .returned (.slice o n cc) ∧ VB w' w.heap.size w'.heap.size o n Z ∧ NilOK o n cc ∧ Below w.heap.size w w' := by
  cases a with
  | none =>
    obtain ⟨rfl, rfl⟩ := ha rfl
    have hnil := fun (w : World) => Lib.run_eql_slice_nil (P := Try.prog) w 25 5 none 0 0 0 0 Try.underlying25
    go_enter Try.func23, Try.ntmps23
    go_wp2
    go_ret
    exact ⟨none, 0, rfl, .inl rfl, fun _ => ⟨rfl, rfl⟩, Below.refl _ _⟩
  | some x =>
    have hnil := fun (w : World) => Lib.run_eql_slice_nil (P := Try.prog) w 25 5 (some x) n c 0 0 Try.underlying25
    have hmk := run_make_row' (P := Try.prog) 25 5 (.int .u8 0) 1 Try.underlying25 info5 rfl .i64 .i64 n (by omega) (by omega)
    go_enter Try.func23, Try.ntmps23
    go_wp2
    clear hnil hmk
    go_loopw [4] (fun i wr => ∃ k : Nat, k ≤ n ∧ i = .int .i64 k ∧ wr.rowIs w.heap.size 5 n (fill8 Z k) ∧ Below w.heap.size w wr) (fun i _ => n - (intOf i).toNat)
    case atStart => exact ⟨0, Nat.zero_le _, rfl, (World.rowIs_made w (.int .u8 0) n 5).congr (fun i _ => by simp [fill8]), (Below.refl _ _).alloc (Nat.le_refl _) _⟩
    case round =>
      obtain ⟨k, hk, rfl, hrow, hbel⟩ := hrel
      by_cases hlt : k < n
      · rcases hv with hv | ⟨b, off, hx, hb, hc⟩
        · omega
        obtain rfl := Option.some.inj hx
        have hck : wr.cell? ⟨b, off + k, none⟩ = some (.int .u8 (Z k)) := (hbel.cell (p := ⟨b, off + k, none⟩) hb).trans (hc k hlt).1
        have hcg := hrow.cell hlt
        have hfg := hrow.frozen k
        have HR : Hid (wr.rowIs w.heap.size 5 n (fill8 Z k)) := hrow
        have HB : Hid (Below w.heap.size w wr) := hbel
        clear hrow hbel hc hx
        go_wp2
        go_roundw
        case rel => exact ⟨k + 1, by omega, by go_num, (HR.out.set k (.int .u8 (Z k))).congr (fun i hi => by
          unfold fill8
          by_cases e : i = k
          · subst e; simp
          · simp only [if_neg e]
            by_cases h' : i < k
            · rw [if_pos h', if_pos (by omega)]
            · rw [if_neg h', if_neg (by omega)]), HB.out.setCell (Nat.le_refl _) _⟩
        case measure => simp [intOf]; omega
      · obtain rfl : k = n := by omega
        have HR : Hid (wr.rowIs w.heap.size 5 k (fill8 Z k)) := hrow
        have HB : Hid (Below w.heap.size w wr) := hbel
        have HV : Hid (VByt w (some x) k Z) := hv
        clear hrow hbel hv
        go_wp2
        go_ret
        refine ⟨_, _, rfl, ?_, (fun h => by cases h), HB.out⟩
        rcases HV.out with hv | ⟨b, off, hx, hb, hc⟩
        · exact .inl hv
        · exact .inr ⟨_, 0, rfl, Nat.le_refl _, HR.out.lt, fun i hi => ⟨by
            have := HR.out.cell hi
            rw [Nat.zero_add, this]
            simp [fill8, hi], (hc i hi).2⟩⟩

/-- 'ZZnewFrameKind': a row of the table. -/
theorem newKind_any (c : Int) (s : ByteArray) (w : World) :
    Calls Try.prog 22 #[.int .u8 c, .string s] w fun e w' => e = .returned (.agg #[.int .u8 c, .int .u8 0, .bool false, .string s, .int .i64 0]) ∧ w.alloc (.cells #[.int .u8 c, .int .u8 0, .bool false, .string s, .int .i64 0] 58) = w' := by
  go_enter Try.func22, Try.ntmps22
  go_wp2
  exact bodyPost_ret (v := .agg #[.int .u8 c, .int .u8 0, .bool false, .string s, .int .i64 0]) (by simp [results, Try.results22, go_sem]) rfl ⟨rfl, rfl⟩

/-- The table's rows, filled from the head. -/
def kcell (Z : Nat → Int) (S : Nat → ByteArray) (k : Nat) (i : Nat) : Value :=
  match i % 5 with
  | 0 => .int .u8 (if i / 5 < k then Z (i / 5) else 0)
  | 1 => .int .u8 0
  | 2 => .bool false
  | 3 => .string (if i / 5 < k then S (i / 5) else ⟨#[]⟩)
  | _ => .int .i64 0
/-- The frames, filled from the head. -/
def fcell (T : Nat → Int) (Y : Nat → ByteArray) (O : Nat → Option Addr) (OL OC : Nat → Nat) (k : Nat) (i : Nat) : Value :=
  match i % 3 with
  | 0 => .int .u32 (if i / 3 < k then T (i / 3) else 0)
  | 1 => .string (if i / 3 < k then Y (i / 3) else ⟨#[]⟩)
  | _ => if i / 3 < k then .slice (O (i / 3)) (OL (i / 3)) (OC (i / 3)) else .slice none 0 0

theorem kcell_ne {Z : Nat → Int} {S : Nat → ByteArray} {k i : Nat} (h : i / 5 ≠ k) : kcell Z S k i = kcell Z S (k + 1) i := by
  have e : (i / 5 < k + 1) = (i / 5 < k) := propext (by omega)
  simp only [kcell, e]
theorem kcell_start {Z : Nat → Int} {S : Nat → ByteArray} (i : Nat) : #[Value.int .u8 0, .int .u8 0, .bool false, .string ⟨#[]⟩, .int .i64 0][i % 5]! = kcell Z S 0 i := by
  have h5 : i % 5 < 5 := Nat.mod_lt _ (by decide)
  unfold kcell
  simp only [Nat.not_lt_zero, if_false]
  generalize i % 5 = r at *
  match r, h5 with
  | 0, _ => rfl
  | 1, _ => rfl
  | 2, _ => rfl
  | 3, _ => rfl
  | 4, _ => rfl
theorem kstep {wr : World} {b nk k : Nat} {Z : Nat → Int} {S : Nat → ByteArray} (h : wr.rowIs b 58 (nk * 5) (kcell Z S k)) (o : Obj) :
    ((((((wr.setCell ⟨b, k * 5, none⟩ (.int .u8 (Z k))).setCell ⟨b, k * 5 + 1, none⟩ (.int .u8 0)).setCell ⟨b, k * 5 + 2, none⟩ (.bool false)).setCell ⟨b, k * 5 + 3, none⟩ (.string (S k))).setCell ⟨b, k * 5 + 4, none⟩ (.int .i64 0)).alloc o).drew.rowIs b 58 (nk * 5) (kcell Z S (k + 1)) := by
  refine ((((((h.set (k * 5) _).set (k * 5 + 1) _).set (k * 5 + 2) _).set (k * 5 + 3) _).set (k * 5 + 4) _).alloc o).drew.congr (fun i hi => ?_)
  by_cases e4 : i = k * 5 + 4
  · subst e4; simp [kcell, show (k * 5 + 4) % 5 = 4 by omega]
  by_cases e3 : i = k * 5 + 3
  · subst e3; simp [kcell, show (k * 5 + 3) % 5 = 3 by omega, show (k * 5 + 3) / 5 = k by omega]
  by_cases e2 : i = k * 5 + 2
  · subst e2; simp [kcell, show (k * 5 + 2) % 5 = 2 by omega]
  by_cases e1 : i = k * 5 + 1
  · subst e1; simp [kcell, show (k * 5 + 1) % 5 = 1 by omega]
  by_cases e0 : i = k * 5
  · subst e0; simp [kcell]
  simp only [if_neg e0, if_neg e1, if_neg e2, if_neg e3, if_neg e4]
  exact kcell_ne (by omega)
theorem fcell_ne {T : Nat → Int} {Y : Nat → ByteArray} {O O' : Nat → Option Addr} {OL OC OC' : Nat → Nat} {k i : Nat} (hO : ∀ j, j < k → O j = O' j ∧ OC j = OC' j) (h : i / 3 ≠ k) : fcell T Y O OL OC k i = fcell T Y O' OL OC' (k + 1) i := by
  have e : (i / 3 < k + 1) = (i / 3 < k) := propext (by omega)
  simp only [fcell, e]
  by_cases hk : i / 3 < k
  · obtain ⟨h1, h2⟩ := hO _ hk
    simp only [h1, h2]
  · simp only [if_neg hk]
theorem fcell_start {T : Nat → Int} {Y : Nat → ByteArray} {O : Nat → Option Addr} {OL OC : Nat → Nat} (i : Nat) : #[Value.int .u32 0, .string ⟨#[]⟩, .slice none 0 0][i % 3]! = fcell T Y O OL OC 0 i := by
  have h3 : i % 3 < 3 := Nat.mod_lt _ (by decide)
  unfold fcell
  simp only [Nat.not_lt_zero, if_false]
  generalize i % 3 = r at *
  match r, h3 with
  | 0, _ => rfl
  | 1, _ => rfl
  | 2, _ => rfl
def upd {α : Type} (f : Nat → α) (k : Nat) (v : α) : Nat → α := fun i => if i = k then v else f i
theorem fstep {wr : World} {b ng k : Nat} {T : Nat → Int} {Y : Nat → ByteArray} {O : Nat → Option Addr} {OL OC : Nat → Nat} (h : wr.rowIs b 63 (ng * 3) (fcell T Y O OL OC k)) (o : Option Addr) (c : Nat) :
    (((wr.setCell ⟨b, k * 3, none⟩ (.int .u32 (T k))).setCell ⟨b, k * 3 + 1, none⟩ (.string (Y k))).setCell ⟨b, k * 3 + 2, none⟩ (.slice o (OL k) c)).rowIs b 63 (ng * 3) (fcell T Y (upd O k o) OL (upd OC k c) (k + 1)) := by
  refine (((h.set (k * 3) _).set (k * 3 + 1) _).set (k * 3 + 2) _).congr (fun i hi => ?_)
  by_cases e2 : i = k * 3 + 2
  · subst e2; simp [fcell, upd, show (k * 3 + 2) % 3 = 2 by omega, show (k * 3 + 2) / 3 = k by omega]
  by_cases e1 : i = k * 3 + 1
  · subst e1; simp [fcell, show (k * 3 + 1) % 3 = 1 by omega, show (k * 3 + 1) / 3 = k by omega]
  by_cases e0 : i = k * 3
  · subst e0; simp [fcell]
  simp only [if_neg e0, if_neg e1, if_neg e2]
  refine fcell_ne (fun j hj => ?_) (by omega)
  simp [upd, show j ≠ k by omega]
/-- A row's cells at an element of three cells, in a later world. -/
theorem row3 {w w1 : World} {b t n N k : Nat} {f : Nat → Value} (h : w.rowIs b t n f) (hb : Below N w w1) (hN : b < N) (hk : k * 3 + 2 < n) :
    (w1.cell? ⟨b, k * 3, none⟩ = some (f (k * 3)) ∧ w1.cell? ⟨b, k * 3 + 1, none⟩ = some (f (k * 3 + 1)) ∧ w1.cell? ⟨b, k * 3 + 2, none⟩ = some (f (k * 3 + 2))) ∧
    w1.frozen? ⟨b, k * 3, none⟩ = false ∧ w1.frozen? ⟨b, k * 3 + 1, none⟩ = false ∧ w1.frozen? ⟨b, k * 3 + 2, none⟩ = false := by
  have h1 := h.of_block (hb.block b hN)
  exact ⟨⟨h1.cell (by omega), h1.cell (by omega), h1.cell hk⟩, h1.frozen _, h1.frozen _, h1.frozen _⟩

/-- The zero table's cells. -/
def Z80 : Array Value := ((.slice none 0 0) :: (List.replicate 16 [.int .u8 0, .int .u8 0, .bool false, .string ⟨#[]⟩, .int .i64 0]).flatten).toArray
theorem zero80 (w : World) : (zeroValue 80).run Try.prog w = .ok (.agg Z80) w := by kernel_rfl
theorem Z80_size : Z80.size = 81 := by kernel_rfl
/-- 'ZZnewFrameKinds': the table. -/
theorem newKinds_any (a : Addr) (n c : Nat) (w : World) :
    Calls Try.prog 25 #[.slice (some a) n c] w fun e w' => e = .returned (.pointer (some ⟨w.heap.size, 0, none⟩)) ∧ w'.cell? ⟨w.heap.size, 0, none⟩ = some (.slice (some a) n c) ∧ w'.heap.size = w.heap.size + 1 ∧ Below w.heap.size w w' := by
  have hz := zero80
  have hne : ¬ Z80 = #[] := by intro h; have := Z80_size; rw [h] at this; simp at this
  go_enter Try.func25, Try.ntmps25
  go_wp2
  go_ret
  refine ⟨rfl, ?_, by simp, (Below.refl _ _).alloc (Nat.le_refl _) _⟩
  rw [World.cell?_alloc_at _ _ _ _ rfl]
  simp [Z80_size]
/-- 'ZZnewRFC3558Packer': the packer. -/
theorem newPacker_any (B L m : Int) (pk : Addr) (g : Addr) (n c : Nat) (tk : Bool) (w : World) :
    Calls Try.prog 24 #[.int .i64 B, .int .i64 L, .int .u8 m, .pointer (some pk), .slice (some g) n c, .bool tk] w fun e w' => e = .returned (.pointer (some ⟨w.heap.size, 0, none⟩)) ∧
      w.alloc (.cells #[.string ⟨#[]⟩, .pointer (some pk), .int .i64 B, .int .i64 L, .int .u8 m, .int .u32 0, .bool false, .slice (some g) n c, .slice none 0 0, .bool tk] 74) = w' := by
  go_enter Try.func24, Try.ntmps24
  go_wp2
  go_ret
  exact ⟨rfl, rfl⟩

/-- A packer as 'pgPacker' lays it, in block bp, the heap's last. -/
structure Packed (w : World) (bp bkk br bf nk ng : Nat) (B L m : Int) (tk : Bool) (Z : Nat → Int) (S : Nat → ByteArray) (T : Nat → Int) (Y : Nat → ByteArray) (OL : Nat → Nat) (OB : Nat → Nat → Int) (FO : Nat → Option Addr) (FC : Nat → Nat) : Prop where
  size : w.heap.size = bp + 1
  blk : w.heap[bp]? = some (.cells #[.string ⟨#[]⟩, .pointer (some ⟨bkk, 0, none⟩), .int .i64 B, .int .i64 L, .int .u8 m, .int .u32 0, .bool false, .slice (some ⟨bf, 0, none⟩) ng ng, .slice none 0 0, .bool tk] 74 (0, 0))
  k1 : bkk < bp
  k2 : br < bp
  k3 : bf < bp
  kin : w.cell? ⟨bkk, 0, none⟩ = some (.slice (some ⟨br, 0, none⟩) nk nk)
  rows : w.rowIs br 58 (nk * 5) (kcell Z S nk)
  frms : w.rowIs bf 63 (ng * 3) (fcell T Y FO OL FC ng)
  oct : ∀ i, i < ng → VB w 0 bp (FO i) (OL i) (OB i) ∧ NilOK (FO i) (OL i) (FC i)

set_option maxHeartbeats 2000000 in
/-- 'pgPacker'. -/
theorem packer_any (bk offk bc offc bg offg nk ck cc ng cg : Nat) (B L m : Int) (tk : Bool) (S : Nat → ByteArray) (Z : Nat → Int) (T : Nat → Int) (Y : Nat → ByteArray) (OA : Nat → Option Addr) (OL OC : Nat → Nat) (OB : Nat → Nat → Int) (w : World)
    (hbk : bk < w.heap.size) (hbc : bc < w.heap.size) (hbg : bg < w.heap.size)
    (hk : ∀ i, i < nk → w.cell? ⟨bk, offk + i, none⟩ = some (.string (S i))) (hc : ∀ i, i < nk → w.cell? ⟨bc, offc + i, none⟩ = some (.int .u8 (Z i)))
    (hg : ∀ i, i < ng → w.cell? ⟨bg, offg + i * 3, none⟩ = some (.int .u32 (T i)) ∧ w.cell? ⟨bg, offg + i * 3 + 1, none⟩ = some (.string (Y i)) ∧ w.cell? ⟨bg, offg + i * 3 + 2, none⟩ = some (.slice (OA i) (OL i) (OC i)))
    (ho : ∀ i, i < ng → VByt w (OA i) (OL i) (OB i) ∧ NilOK (OA i) (OL i) (OC i) ∧ OL i ≤ 1048576) (mk : nk ≤ 1048576) (mg : ng ≤ 1048576) :
    Calls Try.prog 13 #[.slice (some ⟨bk, offk, none⟩) nk ck, .slice (some ⟨bc, offc, none⟩) nk cc, .int .i64 B, .int .i64 L, .int .u8 m, .slice (some ⟨bg, offg, none⟩) ng cg, .bool tk] w fun e w' =>
      ∃ bp bkk br bf FO FC, e = .returned (.pointer (some ⟨bp, 0, none⟩)) ∧ Packed w' bp bkk br bf nk ng B L m tk Z S T Y OL OB FO FC ∧ Below w.heap.size w w' ∧ w.heap.size ≤ bp := by
  have hmk := mk_run Try.underlying53 info58 nk nk (Nat.le_refl _) (by omega) (by omega)
  have hmk2 := mk_run Try.underlying60 info63 ng ng (Nat.le_refl _) (by omega) (by omega)
  have HK : Hid (∀ i, i < nk → w.cell? ⟨bk, offk + i, none⟩ = some (.string (S i))) := hk
  have HC : Hid (∀ i, i < nk → w.cell? ⟨bc, offc + i, none⟩ = some (.int .u8 (Z i))) := hc
  have HG : Hid (∀ i, i < ng → w.cell? ⟨bg, offg + i * 3, none⟩ = some (.int .u32 (T i)) ∧ w.cell? ⟨bg, offg + i * 3 + 1, none⟩ = some (.string (Y i)) ∧ w.cell? ⟨bg, offg + i * 3 + 2, none⟩ = some (.slice (OA i) (OL i) (OC i))) := hg
  have HO : Hid (∀ i, i < ng → VByt w (OA i) (OL i) (OB i) ∧ NilOK (OA i) (OL i) (OC i) ∧ OL i ≤ 1048576) := ho
  clear hk hc hg ho
  go_enter Try.func13, Try.ntmps13
  go_wp2
  go_loopw [16] (fun i wr => ∃ k : Nat, k ≤ nk ∧ i = .int .i64 k ∧ wr.rowIs w.heap.size 58 (nk * 5) (kcell Z S k) ∧ Below w.heap.size w wr) (fun i _ => nk - (intOf i).toNat)
  case atStart => exact ⟨0, Nat.zero_le _, rfl, (made_row w _ (nk * 5) 58).congr (fun i _ => kcell_start i), (Below.refl _ _).alloc (Nat.le_refl _) _⟩
  case round =>
    obtain ⟨k, hkk, rfl, hrow, hbel⟩ := hrel
    have HR : Hid (wr.rowIs w.heap.size 58 (nk * 5) (kcell Z S k)) := hrow
    have HB : Hid (Below w.heap.size w wr) := hbel
    have hsz := hbel.size
    have hlr := hrow.lt
    by_cases hlt : k < nk
    · have hck : wr.cell? ⟨bc, offc + k, none⟩ = some (.int .u8 (Z k)) := (hbel.cell (p := ⟨bc, offc + k, none⟩) hbc).trans (HC.out k hlt)
      have hsk : wr.cell? ⟨bk, offk + k, none⟩ = some (.string (S k)) := (hbel.cell (p := ⟨bk, offk + k, none⟩) hbk).trans (HK.out k hlt)
      have hlt' : (k : Int) < (nk : Int) := by omega
      have hbc' : bc < wr.heap.size := by omega
      have hbk' : bk < wr.heap.size := by omega
      have r0 : wr.cell? ⟨w.heap.size, k * 5, none⟩ = some (kcell Z S k (k * 5)) := hrow.cell (by omega)
      have r1 : wr.cell? ⟨w.heap.size, k * 5 + 1, none⟩ = some (kcell Z S k (k * 5 + 1)) := hrow.cell (by omega)
      have r2 : wr.cell? ⟨w.heap.size, k * 5 + 2, none⟩ = some (kcell Z S k (k * 5 + 2)) := hrow.cell (by omega)
      have r3 : wr.cell? ⟨w.heap.size, k * 5 + 3, none⟩ = some (kcell Z S k (k * 5 + 3)) := hrow.cell (by omega)
      have r4 : wr.cell? ⟨w.heap.size, k * 5 + 4, none⟩ = some (kcell Z S k (k * 5 + 4)) := hrow.cell (by omega)
      have q0 := hrow.frozen (k * 5)
      have q1 := hrow.frozen (k * 5 + 1)
      have q2 := hrow.frozen (k * 5 + 2)
      have q3 := hrow.frozen (k * 5 + 3)
      have q4 := hrow.frozen (k * 5 + 4)
      clear hrow hbel hmk hmk2
      go_wp2
      go_region_held3 (fun w' => w'.cell? ⟨bc, offc + k, none⟩ = some (.int .u8 (Z k)) ∧ w'.cell? ⟨bk, offk + k, none⟩ = some (.string (S k))) (simp [go_sem, World.cell?_alloc_past, *]) ((go_at_call 22; refine (newKind_any _ _ _).mono ?_; rintro e w' ⟨rfl, rfl⟩))
      go_wp2
      go_roundw
      case rel => exact ⟨k + 1, by omega, by go_num, kstep HR.out _, (((((((HB.out.setCell (Nat.le_refl _) _).setCell (Nat.le_refl _) _).setCell (Nat.le_refl _) _).setCell (Nat.le_refl _) _).setCell (Nat.le_refl _) _).alloc (by simpa using hsz) _).drew)⟩
      case measure => simp [intOf]; omega
    · obtain rfl : k = nk := by omega
      clear hrow hbel hmk
      go_wp2
      clear hmk2
      rename World => w1
      go_loopw [18] (fun i w2 => ∃ (j : Nat) (FO : Nat → Option Addr) (FC : Nat → Nat), j ≤ ng ∧ i = .int .i64 j ∧ w2.rowIs w1.heap.size 63 (ng * 3) (fcell T Y FO OL FC j) ∧ (∀ i, i < j → VB w2 (w1.heap.size + 1) w2.heap.size (FO i) (OL i) (OB i) ∧ NilOK (FO i) (OL i) (FC i)) ∧ Below w1.heap.size w1 w2) (fun i _ => ng - (intOf i).toNat)
      case atStart => exact ⟨0, fun _ => none, fun _ => 0, Nat.zero_le _, rfl, (made_row w1 _ (ng * 3) 63).congr (fun i _ => fcell_start i), fun i hi => by omega, (Below.refl _ _).alloc (Nat.le_refl _) _⟩
      case round =>
        obtain ⟨j, FO, FC, hj, rfl, hrow, hof, hbel⟩ := hrel
        have HR2 : Hid (wr.rowIs w1.heap.size 63 (ng * 3) (fcell T Y FO OL FC j)) := hrow
        have HB2 : Hid (Below w1.heap.size w1 wr) := hbel
        have HF : Hid (∀ i, i < j → VB wr (w1.heap.size + 1) wr.heap.size (FO i) (OL i) (OB i) ∧ NilOK (FO i) (OL i) (FC i)) := hof
        have hlr2 := hrow.lt
        have hB : Below w.heap.size w wr := HB.out.trans (hbel.mono hsz)
        by_cases hlt : j < ng
        · obtain ⟨g0, g1, g2⟩ := HG.out j hlt
          have hlt' : (j : Int) < (ng : Int) := by omega
          have z0 : wr.cell? ⟨bg, offg + j * 3, none⟩ = some (.int .u32 (T j)) := (hB.cell (p := ⟨bg, _, none⟩) hbg).trans g0
          have z1 : wr.cell? ⟨bg, offg + j * 3 + 1, none⟩ = some (.string (Y j)) := (hB.cell (p := ⟨bg, _, none⟩) hbg).trans g1
          have z2 : wr.cell? ⟨bg, offg + j * 3 + 2, none⟩ = some (.slice (OA j) (OL j) (OC j)) := (hB.cell (p := ⟨bg, _, none⟩) hbg).trans g2
          obtain ⟨ov, on, ol⟩ := HO.out j hlt
          have hne : ¬ bg = w1.heap.size := by omega
          have hne' : ¬ w1.heap.size = bg := by omega
          have HV : Hid (VByt wr (OA j) (OL j) (OB j)) := ov.later hB
          have HN : Hid (NilOK (OA j) (OL j) (OC j)) := on
          clear hrow hof hbel g0 g1 g2 ov on hB
          go_wp2
          go_region_held3 (fun w' => w'.cell? ⟨bg, offg + j * 3, none⟩ = some (.int .u32 (T j)) ∧ w'.cell? ⟨bg, offg + j * 3 + 1, none⟩ = some (.string (Y j)) ∧ w'.cell? ⟨bg, offg + j * 3 + 2, none⟩ = some (.slice (OA j) (OL j) (OC j))) (simp [go_sem, *]) ((go_at_call 23; refine (clone_any _ _ _ (OB j) _ HN.out (by exact HV.out) ol).mono ?_; rintro e w3 ⟨o, c3, rfl, hvb, hnl, hb3⟩; have y0 := cell_later hb3 z0; have y1 := cell_later hb3 z1; have y2 := cell_later hb3 z2; obtain ⟨⟨r0, r1, r2⟩, q0, q1, q2⟩ := row3 (k := j) (by exact HR2.out) hb3 (by exact hlr2) (by omega)))
          go_wp2
          go_roundw
          case rel =>
            have hb3' : Below wr.heap.size wr w3 := ((Below.refl wr.heap.size wr).drew).trans (by exact hb3)
            have hb4 : Below w1.heap.size w1 w3 := HB2.out.trans (hb3'.mono HB2.out.size)
            have hs3 : wr.heap.size ≤ w3.heap.size := hb3'.size
            have hblk : ∀ x y z (b : Nat), b ≠ w1.heap.size → (((w3.setCell ⟨w1.heap.size, j * 3, none⟩ x).setCell ⟨w1.heap.size, j * 3 + 1, none⟩ y).setCell ⟨w1.heap.size, j * 3 + 2, none⟩ z).heap[b]? = w3.heap[b]? := fun x y z b hb => by
              rw [Below.heap_setCell _ _ _ _ hb, Below.heap_setCell _ _ _ _ hb, Below.heap_setCell _ _ _ _ hb]
            refine ⟨j + 1, upd FO j o, upd FC j c3, by omega, by go_num, fstep (HR2.out.of_block (hb3'.block _ hlr2)) o c3, ?_, ?_⟩
            · intro i hi
              by_cases hij : i = j
              · subst hij
                simp only [upd, if_true]
                refine ⟨hvb.step (fun b h0 h1 => hblk _ _ _ b (by have : wr.heap.size ≤ b := h0; omega)) (by exact hlr2) (by simp), hnl⟩
              · simp only [upd, if_neg hij]
                obtain ⟨f1, f2⟩ := HF.out i (by omega)
                exact ⟨f1.step (fun b h0 h1 => (hblk _ _ _ b (by omega)).trans (hb3'.block b h1)) (Nat.le_refl _) (by simp; omega), f2⟩
            · exact ((hb4.setCell (Nat.le_refl _) _).setCell (Nat.le_refl _) _).setCell (Nat.le_refl _) _
          case measure => simp [intOf]; omega
        · obtain rfl : j = ng := by omega
          have HROWS : Hid (wr.rowIs w.heap.size 58 (k * 5) (kcell Z S k)) := HR.out.of_block (hbel.block _ hlr)
          have hBB : Below w.heap.size w wr := hB
          have HBB : Hid (Below w.heap.size w wr) := hB
          clear hrow hof hbel hB hBB HR HB HG HO HK HC
          go_wp2_with fail
          refine (newKinds_any ⟨w.heap.size, 0, none⟩ k k wr).mono ?_
          rintro e w4 ⟨rfl, hc4, hs4, hb4⟩
          have HC4 : Hid (w4.cell? ⟨wr.heap.size, 0, none⟩ = some (.slice (some ⟨w.heap.size, 0, none⟩) k k)) := hc4
          have HS4 : Hid (w4.heap.size = wr.heap.size + 1) := hs4
          clear hc4 hs4
          go_wp2_with fail
          refine (newPacker_any B L m ⟨wr.heap.size, 0, none⟩ ⟨w1.heap.size, 0, none⟩ j j tk w4).mono ?_
          rintro e w5 ⟨rfl, rfl⟩
          go_wp2
          go_ret
          have hs4 := HS4.out
          refine ⟨w4.heap.size, wr.heap.size, w.heap.size, w1.heap.size, FO, FC, rfl, ?_, ?_, by have := HBB.out.size; omega⟩
          · exact {
              size := by simp
              blk := heap_alloc_new _ _
              k1 := by omega
              k2 := by omega
              k3 := by omega
              kin := by rw [World.cell?_alloc_past _ _ _ (by omega)]; exact HC4.out
              rows := (HROWS.out.of_block (hb4.block _ (by omega))).alloc _
              frms := (HR2.out.of_block (hb4.block _ (by omega))).alloc _
              oct := fun i hi => ⟨(HF.out i hi).1.step (fun b h0 h1 => (heap_alloc_old _ _ (by omega)).trans (hb4.block b h1)) (Nat.zero_le _) (by omega), (HF.out i hi).2⟩ }
          · exact (HBB.out.trans (hb4.mono HBB.out.size)).alloc (by have := HBB.out.size; omega) _
end Go.Proofs.Qxb6614196a
