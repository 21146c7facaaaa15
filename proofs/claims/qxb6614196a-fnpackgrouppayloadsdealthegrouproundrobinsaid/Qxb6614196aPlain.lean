/-
  What a payload holds, said plainly; small laws on the worlds that 'packGroup' goes through.
-/
import Derived.Test.Qxb6614196aKind
import Derived.Test.Qxb6614196aAdd
namespace Go.Proofs.Qxb6614196a
open Go.ChangeShapes Go.WideShapes Go.ChangeAt Go.RowKit
set_option linter.unusedVariables false

/-- Where frame j's octets begin in a payload of b frames. -/
def offs (b : Nat) (ol : Nat → Nat) : Nat → Nat
  | 0 => 2 + (b + 1) / 2
  | j + 1 => offs b ol j + ol j
/-- ToC octet t behind k nibbles. -/
def tocv (code : Nat → Int) : Nat → Nat → Int
  | 0, _ => 0
  | k + 1, t => if t = k / 2 then put8 (tocv code k t) (code k) k else tocv code k t
/-- The header and the ToC behind k nibbles. -/
def hcell (h0 h1 : Int) (code : Nat → Int) (k : Nat) (i : Nat) : Value := .int .u8 (if i = 0 then h0 else if i = 1 then h1 else tocv code k (i - 2))
/-- The bytes of the first j frames. -/
def bodyL (ol : Nat → Nat) (ob : Nat → Nat → Int) (j : Nat) : List Value := (List.range j).flatMap fun i => (List.range (ol i)).map fun k => .int .u8 (ob i k)

theorem offs_mono (b : Nat) (ol : Nat → Nat) {i j : Nat} (h : i ≤ j) : offs b ol i ≤ offs b ol j := by
  induction j with
  | zero => obtain rfl : i = 0 := by omega
            exact Nat.le_refl _
  | succ j ih =>
    by_cases e : i = j + 1
    · subst e; exact Nat.le_refl _
    · have := ih (by omega); simp only [offs]; omega
theorem offs_le (b : Nat) (ol : Nat → Nat) (j : Nat) (h : ∀ i, i < j → ol i ≤ 1048576) : offs b ol j ≤ 2 + (b + 1) / 2 + j * 1048576 := by
  induction j with
  | zero => simp [offs]
  | succ j ih => have := ih (fun i hi => h i (by omega)); have := h j (by omega); simp only [offs]; omega
/-- Every octet behind the ToC is some frame's. -/
theorem offs_find (b : Nat) (ol : Nat → Nat) (j : Nat) : ∀ p, 2 + (b + 1) / 2 ≤ p → p < offs b ol j → ∃ i k, i < j ∧ k < ol i ∧ p = offs b ol i + k := by
  induction j with
  | zero => intro p h1 h2; simp only [offs] at h2; omega
  | succ j ih =>
    intro p h1 h2
    by_cases h : p < offs b ol j
    · obtain ⟨i, k, hi, hk, e⟩ := ih p h1 h; exact ⟨i, k, by omega, hk, e⟩
    · simp only [offs] at h2; exact ⟨j, p - offs b ol j, by omega, by omega, by omega⟩
theorem offs_congr (b : Nat) {ol ol' : Nat → Nat} (j : Nat) (h : ∀ i, i < j → ol i = ol' i) : offs b ol j = offs b ol' j := by
  induction j with
  | zero => rfl
  | succ j ih => simp only [offs]; rw [ih (fun i hi => h i (by omega)), h j (by omega)]
theorem tocv_congr {code code' : Nat → Int} (k : Nat) (h : ∀ i, i < k → code i = code' i) (t : Nat) : tocv code k t = tocv code' k t := by
  induction k with
  | zero => rfl
  | succ k ih => simp only [tocv]; rw [ih (fun i hi => h i (by omega)), h k (by omega)]

theorem bodyL_succ (ol : Nat → Nat) (ob : Nat → Nat → Int) (j : Nat) : bodyL ol ob (j + 1) = bodyL ol ob j ++ (List.range (ol j)).map fun k => .int .u8 (ob j k) := by
  simp [bodyL, List.range_succ]
theorem bodyL_len (b : Nat) (ol : Nat → Nat) (ob : Nat → Nat → Int) (j : Nat) : 2 + (b + 1) / 2 + (bodyL ol ob j).length = offs b ol j := by
  induction j with
  | zero => simp [bodyL, offs]
  | succ j ih => rw [bodyL_succ]; simp only [offs, List.length_append, List.length_map, List.length_range]; omega
theorem bodyL_at (b : Nat) (ol : Nat → Nat) (ob : Nat → Nat → Int) (H : List Value) (hH : H.length = 2 + (b + 1) / 2) : ∀ (j i k : Nat), i < j → k < ol i → (H ++ bodyL ol ob j)[offs b ol i + k]? = some (.int .u8 (ob i k)) := by
  intro j
  induction j with
  | zero => intro i k hi; omega
  | succ j ih =>
    intro i k hi hk
    have hl := bodyL_len b ol ob j
    rw [bodyL_succ, ← List.append_assoc]
    by_cases e : i < j
    · have hm := offs_mono b ol (show i + 1 ≤ j by omega)
      simp only [offs] at hm
      rw [List.getElem?_append_left (by simp only [List.length_append]; omega)]
      exact ih i k e hk
    · obtain rfl : i = j := by omega
      rw [List.getElem?_append_right (by simp only [List.length_append]; omega)]
      have e2 : offs b ol i + k - (H ++ bodyL ol ob i).length = k := by simp only [List.length_append]; omega
      rw [e2]
      simp [hk]

/-- A payload's octets, as their block holds them. -/
structure Oct (o : Option Obj) (len : Nat) (h0 h1 : Int) (b : Nat) (code : Nat → Int) (ol : Nat → Nat) (ob : Nat → Nat → Int) : Prop where
  blk : ∃ cur, o = some (.cells cur 5 (0, 0)) ∧ cur[0]? = some (.int .u8 h0) ∧ cur[1]? = some (.int .u8 h1) ∧ (∀ t, t < (b + 1) / 2 → cur[2 + t]? = some (.int .u8 (tocv code b t))) ∧ ∀ i k, i < b → k < ol i → cur[offs b ol i + k]? = some (.int .u8 (ob i k))
  len : len = offs b ol b

/-- From a row to what is owned. -/
theorem own_of_row {w : World} {base g len size : Nat} {f : Nat → Value} (h : w.rowIs g 5 size f) (hb : base ≤ g) (hl : len ≤ size) (hm : size ≤ maxLen) : w.ownsRow base 5 1 (.slice (some ⟨g, 0, none⟩) len size) len ((List.range len).map f) := by
  obtain ⟨c, hc, hs, hf⟩ := h
  refine ⟨by simp, .inr ⟨g, size, c, rfl, hb, hc, hl, hm, by omega, ?_⟩⟩
  apply List.ext_getElem?
  intro i
  rw [List.getElem?_take]
  by_cases hi : i < len
  · rw [if_pos (by omega)]
    simp [hi, hf i (by omega)]
  · rw [if_neg (by omega)]
    simp [hi]
/-- From what is owned to a payload's octets. -/
theorem oct_of_own {w : World} {base g size b : Nat} {h0 h1 : Int} {code : Nat → Int} {ol : Nat → Nat} {ob : Nat → Nat → Int}
    (h : w.ownsRow base 5 1 (.slice (some ⟨g, 0, none⟩) (offs b ol b) size) (offs b ol b) ((List.range (2 + (b + 1) / 2)).map (hcell h0 h1 code b) ++ bodyL ol ob b)) :
    Oct w.heap[g]? (offs b ol b) h0 h1 b code ol ob := by
  rcases h.2 with ⟨h', _⟩ | ⟨g', cap', cur, h', _, hg, _, _, hcs, htake⟩
  · simp at h'
  simp only [Value.slice.injEq, Option.some.injEq, Addr.mk.injEq, and_true, true_and] at h'
  obtain ⟨rfl, rfl⟩ := h'
  have hm := offs_mono b ol (Nat.zero_le b)
  simp only [offs] at hm
  have key : ∀ i u, i < offs b ol b → ((List.range (2 + (b + 1) / 2)).map (hcell h0 h1 code b) ++ bodyL ol ob b)[i]? = some u → cur[i]? = some u := by
    intro i u hi hu
    rw [← htake, List.getElem?_take, if_pos (by omega)] at hu
    simpa using hu
  have hl : ((List.range (2 + (b + 1) / 2)).map (hcell h0 h1 code b)).length = 2 + (b + 1) / 2 := by simp
  have head : ∀ i, i < 2 + (b + 1) / 2 → cur[i]? = some (hcell h0 h1 code b i) := fun i hi => key i _ (by omega) (by rw [List.getElem?_append_left (by omega)]; simp [hi])
  refine ⟨⟨cur, hg, ?_, ?_, ?_, ?_⟩, rfl⟩
  · rw [head 0 (by omega)]; rfl
  · rw [head 1 (by omega)]; rfl
  · intro t ht
    rw [head (2 + t) (by omega)]
    simp [hcell, show ¬ (2 + t = 1) by omega]
  · intro i k hi hk
    refine key _ _ ?_ (bodyL_at b ol ob _ hl b i k hi hk)
    have := offs_mono b ol (show i + 1 ≤ b by omega)
    simp only [offs] at this
    omega

/-- The packer and all that it leads to, in blocks up to bp. -/
structure Env (w : World) (bp bkk br bf nk ng b l : Nat) (m : Int) (va : Option Addr) (vn vc : Nat) (tk : Bool) (Z : Nat → Int) (S : Nat → ByteArray) (T : Nat → Int) (Y : Nat → ByteArray) (OL : Nat → Nat) (OB : Nat → Nat → Int) (FO : Nat → Option Addr) (FC : Nat → Nat) : Prop where
  blk : w.heap[bp]? = some (.cells #[.string ⟨#[]⟩, .pointer (some ⟨bkk, 0, none⟩), .int .i64 b, .int .i64 l, .int .u8 m, .int .u32 0, .bool false, .slice (some ⟨bf, 0, none⟩) ng ng, .slice va vn vc, .bool tk] 74 (0, 0))
  k1 : bkk < bp
  k2 : br < bp
  k3 : bf < bp
  kin : w.cell? ⟨bkk, 0, none⟩ = some (.slice (some ⟨br, 0, none⟩) nk nk)
  rows : w.rowIs br 58 (nk * 5) (kcell Z S nk)
  frms : w.rowIs bf 63 (ng * 3) (fcell T Y FO OL FC ng)
  oct : ∀ i, i < ng → VB w 0 bp (FO i) (OL i) (OB i) ∧ NilOK (FO i) (OL i) (FC i)
section
variable {w w' : World} {bp bkk br bf nk ng b l : Nat} {m : Int} {va : Option Addr} {vn vc : Nat} {tk : Bool} {Z : Nat → Int} {S : Nat → ByteArray} {T : Nat → Int} {Y : Nat → ByteArray} {OL : Nat → Nat} {OB : Nat → Nat → Int} {FO : Nat → Option Addr} {FC : Nat → Nat}
theorem Env.lower (h : Env w bp bkk br bf nk ng b l m va vn vc tk Z S T Y OL OB FO FC) {va' : Option Addr} {vn' vc' : Nat} {tk' : Bool} (hb : Below bp w w')
    (hblk : w'.heap[bp]? = some (.cells #[.string ⟨#[]⟩, .pointer (some ⟨bkk, 0, none⟩), .int .i64 b, .int .i64 l, .int .u8 m, .int .u32 0, .bool false, .slice (some ⟨bf, 0, none⟩) ng ng, .slice va' vn' vc', .bool tk'] 74 (0, 0))) :
    Env w' bp bkk br bf nk ng b l m va' vn' vc' tk' Z S T Y OL OB FO FC :=
  { blk := hblk, k1 := h.k1, k2 := h.k2, k3 := h.k3, kin := (hb.cell (p := ⟨bkk, 0, none⟩) h.k1).trans h.kin, rows := h.rows.of_block (hb.block _ h.k2), frms := h.frms.of_block (hb.block _ h.k3),
    oct := fun i hi => ⟨(h.oct i hi).1.step (fun k _ hk => hb.block k hk) (Nat.le_refl _) (Nat.le_refl _), (h.oct i hi).2⟩ }
theorem Env.later (h : Env w bp bkk br bf nk ng b l m va vn vc tk Z S T Y OL OB FO FC) (hb : Below (bp + 1) w w') : Env w' bp bkk br bf nk ng b l m va vn vc tk Z S T Y OL OB FO FC :=
  h.lower (hb.mono (by omega)) ((hb.block bp (by omega)).trans h.blk)
theorem Env.cells (h : Env w bp bkk br bf nk ng b l m va vn vc tk Z S T Y OL OB FO FC) :
    w.cell? ⟨bp, 1, none⟩ = some (.pointer (some ⟨bkk, 0, none⟩)) ∧ w.cell? ⟨bp, 2, none⟩ = some (.int .i64 b) ∧ w.cell? ⟨bp, 3, none⟩ = some (.int .i64 l) ∧ w.cell? ⟨bp, 4, none⟩ = some (.int .u8 m) ∧ w.cell? ⟨bp, 7, none⟩ = some (.slice (some ⟨bf, 0, none⟩) ng ng) := by
  have e := h.blk
  refine ⟨?_, ?_, ?_, ?_, ?_⟩ <;> simp [World.cell?, e]
theorem Env.lt (h : Env w bp bkk br bf nk ng b l m va vn vc tk Z S T Y OL OB FO FC) : bp < w.heap.size := lt_of_block h.blk
end
/-- A frame of a row of frames, read. -/
theorem frow3 {w : World} {bf ng n i : Nat} {T : Nat → Int} {Y : Nat → ByteArray} {O : Nat → Option Addr} {OL OC : Nat → Nat} (h : w.rowIs bf 63 (ng * 3) (fcell T Y O OL OC n)) (hi : i < n) (hn : i < ng) :
    w.cell? ⟨bf, i * 3, none⟩ = some (.int .u32 (T i)) ∧ w.cell? ⟨bf, i * 3 + 1, none⟩ = some (.string (Y i)) ∧ w.cell? ⟨bf, i * 3 + 2, none⟩ = some (.slice (O i) (OL i) (OC i)) := by
  refine ⟨?_, ?_, ?_⟩
  · rw [h.cell (by omega)]; simp [fcell, hi]
  · rw [h.cell (by omega)]; simp [fcell, show (i * 3 + 1) % 3 = 1 by omega, show (i * 3 + 1) / 3 = i by omega, hi]
  · rw [h.cell (by omega)]; simp [fcell, show (i * 3 + 2) % 3 = 2 by omega, show (i * 3 + 2) / 3 = i by omega, hi]
theorem fstep' {wr : World} {b ng k : Nat} {T : Nat → Int} {Y : Nat → ByteArray} {O : Nat → Option Addr} {OL OC : Nat → Nat} (h : wr.rowIs b 63 (ng * 3) (fcell T Y O OL OC k)) :
    (((wr.setCell ⟨b, k * 3, none⟩ (.int .u32 (T k))).setCell ⟨b, k * 3 + 1, none⟩ (.string (Y k))).setCell ⟨b, k * 3 + 2, none⟩ (.slice (O k) (OL k) (OC k))).rowIs b 63 (ng * 3) (fcell T Y O OL OC (k + 1)) := by
  have := fstep h (O k) (OC k)
  rwa [show upd O k (O k) = O from funext fun i => by simp only [upd]; split <;> simp_all, show upd OC k (OC k) = OC from funext fun i => by simp only [upd]; split <;> simp_all] at this
/-- A world that has been written in block r alone. -/
structure Only (r : Nat) (w w' : World) : Prop where
  os : w'.os = w.os
  tape : w'.tape = w.tape
  output : w'.output = w.output
  size : w'.heap.size = w.heap.size
  block : ∀ k, k ≠ r → w'.heap[k]? = w.heap[k]?
theorem Only.refl (r : Nat) (w : World) : Only r w w := ⟨rfl, rfl, rfl, rfl, fun _ _ => rfl⟩
theorem Only.set {r : Nat} {w w' : World} (h : Only r w w') (i : Nat) (v : Value) : Only r w (w'.setCell ⟨r, i, none⟩ v) :=
  ⟨h.os, h.tape, h.output, by rw [World.size_setCell]; exact h.size, fun k hk => (Below.heap_setCell _ _ _ _ (by simpa using hk)).trans (h.block k hk)⟩
theorem Only.drew {r : Nat} {w w' : World} (h : Only r w w') : Only r w w'.drew := ⟨h.os, h.tape, h.output, h.size, h.block⟩
theorem Only.below {r : Nat} {w w' : World} (h : Only r w w') (N : Nat) (hN : N ≤ r) : Below N w w' := ⟨h.os, h.tape, h.output, by rw [h.size]; exact Nat.le_refl _, fun k hk => h.block k (by omega)⟩
end Go.Proofs.Qxb6614196a
