/-
  'packGroup'.
-/
import Derived.Test.Qxb6614196aPlain
namespace Go.Proofs.Qxb6614196a
open Go.ChangeShapes Go.WideShapes Go.ChangeAt Go.RowKit
set_option linter.unusedVariables false

/-- The group's frame that is frame j of payload n. -/
def idx (l n j : Nat) : Nat := n + j * (l + 1)
def plen (b l : Nat) (OL : Nat → Nat) (n : Nat) : Nat := offs b (fun j => OL (idx l n j)) b
def codeOf (Z : Nat → Int) (S : Nat → ByteArray) (Y : Nat → ByteArray) (nk i : Nat) : Int := Z (frow S (Y i) nk)
def tkn (tk : Bool) (n : Nat) : Bool := tk || decide (0 < n)
def hdr0 (l n : Nat) : Int := bits .or .u8 ((l : Int) * 8) n
def hdr1 (m : Int) (b : Nat) : Int := bits .or .u8 (m * 32) ((b : Int) - 1)
def payN (T : Nat → Int) (tk : Bool) (b l : Nat) (OL : Nat → Nat) (G : Nat → Nat) (i : Nat) : List Value := pay (T i) (!tkn tk i) b (T (idx l i (b - 1))) (some ⟨G i, 0, none⟩) (plen b l OL i) (plen b l OL i)
def paysL (T : Nat → Int) (tk : Bool) (b l : Nat) (OL : Nat → Nat) (G : Nat → Nat) (n : Nat) : List Value := (List.range n).flatMap (payN T tk b l OL G)
/-- Payload i's octets lie in block G i. -/
def OctN (w : World) (bp nk b l : Nat) (m : Int) (Z : Nat → Int) (S : Nat → ByteArray) (Y : Nat → ByteArray) (OL : Nat → Nat) (OB : Nat → Nat → Int) (g i : Nat) : Prop :=
  bp < g ∧ Oct w.heap[g]? (plen b l OL i) (hdr0 l i) (hdr1 m b) b (fun j => codeOf Z S Y nk (idx l i j)) (fun j => OL (idx l i j)) (fun j => OB (idx l i j))

theorem u8w (n : Nat) (h : n ≤ 255) : IntKind.u8.wrap (n : Int) = (n : Int) := by
  rw [IntKind.wrap_u8]; omega

theorem tocEnd_bel (a b c : Int) (f tl : Nat) (hf : f ≤ 1000) (ht : Hid (tl = 2 + (f + 1) / 2)) (w : World) :
    Calls Try.prog 21 #[.agg #[.int .u8 a, .int .u8 b, .int .u8 c, .int .i64 f]] w fun e w' => e = .returned (.int .i64 (tl : Int)) ∧ Below w.heap.size w w' := by
  rw [ht.out]
  exact (tocEnd_any a b c f hf w).mono fun e w' ⟨h1, h2⟩ => ⟨h1, by rw [← h2]; exact (Below.refl _ _).alloc (Nat.le_refl _) _⟩
/-- 'make([]byte, ln, cp)', its world a letter. -/
theorem wpList_mk {ops : Array Oper} {rest : List Oper} {o : Oper} {a : Act} {Q : Exit → Act → World → Prop} (w : World) (hg : o.guard = none) (l c : Operand) (hop : o.op = Op.makeSlice 25 l c) (ln cp : Nat)
    (hl : a.eval l = .int .i64 (ln : Int)) (hc : a.eval c = .int .i64 (cp : Int)) (hle : ln ≤ cp) (hcp : cp ≤ 1000000000)
    (h : ∀ w', w'.rowIs w.heap.size 5 cp (fun _ => .int .u8 0) → Below w.heap.size w w' → wpList Try.prog ops Q rest (a.put o.dst (.slice (some ⟨w.heap.size, 0, none⟩) ln cp)) w') : wpList Try.prog ops Q (o :: rest) a w := by
  refine wpList_plain hg fun K hK' => ?_
  have hrun := mk_run Try.underlying25 info5 ln cp hle (by omega) (by omega) w
  unfold Oper.wp
  simp [execOp, hop, hl, hc, hrun, Result.andThen]
  refine hK' _ _ (h _ ?_ ((Below.refl _ _).alloc (Nat.le_refl _) _))
  have := World.rowIs_made w (.int .u8 0) cp 5
  exact this
theorem hstart {w : World} {g sz : Nat} {h0 h1 : Int} {code : Nat → Int} (h : w.rowIs g 5 sz (fun _ => .int .u8 0)) : ((w.setCell ⟨g, 0, none⟩ (.int .u8 h0)).setCell ⟨g, 1, none⟩ (.int .u8 h1)).rowIs g 5 sz (hcell h0 h1 code 0) := by
  refine ((h.set 0 _).set 1 _).congr (fun i hi => ?_)
  unfold hcell
  by_cases e1 : i = 1
  · subst e1; simp
  by_cases e0 : i = 0
  · subst e0; simp
  simp [e0, e1, tocv]
theorem hstep {w : World} {g sz k : Nat} {h0 h1 : Int} {code : Nat → Int} (h : w.rowIs g 5 sz (hcell h0 h1 code k)) : (w.setCell ⟨g, 2 + k / 2, none⟩ (.int .u8 (put8 (tocv code k (k / 2)) (code k) k))).rowIs g 5 sz (hcell h0 h1 code (k + 1)) := by
  refine (h.set (2 + k / 2) _).congr (fun i hi => ?_)
  unfold hcell
  by_cases e : i = 2 + k / 2
  · subst e; simp [tocv, show ¬ (2 + k / 2 = 1) by omega]
  · simp only [if_neg e, tocv]
    by_cases e0 : i = 0
    · simp [e0]
    by_cases e1 : i = 1
    · simp [e1]
    rw [if_neg e0, if_neg e1, if_neg e0, if_neg e1, if_neg (by omega)]
theorem hcell_toc {w : World} {g sz k : Nat} {h0 h1 : Int} {code : Nat → Int} (h : w.rowIs g 5 sz (hcell h0 h1 code k)) (hk : 2 + k / 2 < sz) : w.cell? ⟨g, 2 + k / 2, none⟩ = some (.int .u8 (tocv code k (k / 2))) := by
  rw [h.cell hk]; simp [hcell, show ¬ (2 + k / 2 = 1) by omega]
theorem news_VB {w : World} {N n : Nat} {a : Option Addr} {Z : Nat → Int} (h : VB w 0 N a n Z) : ∀ ad, a = some ad → ∀ j u, ((List.range n).map fun k => Value.int .u8 (Z k))[j]? = some u → w.cell? (ad.add j) = some u := by
  intro ad had j u hu
  have hj : j < n := by have := (List.getElem?_eq_some_iff.1 hu).1; simpa using this
  rcases h with h | ⟨b, off, e, _, _, hc⟩
  · omega
  · rw [e] at had
    obtain rfl := Option.some.inj had
    rw [Addr.add_lit, (hc j hj).1]
    simpa [hj] using hu
theorem one_news (n : Nat) (Z : Nat → Int) : ∀ u ∈ (List.range n).map (fun k => Value.int .u8 (Z k)), u.oneCell' = true := by
  intro u hu
  obtain ⟨_, _, rfl⟩ := List.mem_map.1 hu
  rfl
theorem own_later {w w' : World} {base : Nat} {e : TypeId} {size : Nat} {v : Value} {n : Nat} {xs : List Value} (h : w.ownsRow base e size v n xs) (hb : Below w.heap.size w w') : w'.ownsRow base e size v n xs := by
  refine ⟨h.1, ?_⟩
  rcases h.2 with hn | ⟨g, cap, cur, hv, hbg, hg, r⟩
  · exact .inl hn
  · exact .inr ⟨g, cap, cur, hv, hbg, (hb.block g (lt_of_block hg)).trans hg, r⟩
theorem paysL_succ (T : Nat → Int) (tk : Bool) (b l : Nat) (OL : Nat → Nat) (G : Nat → Nat) (n g : Nat) : paysL T tk b l OL (upd G n g) (n + 1) = paysL T tk b l OL G n ++ pay (T n) (!tkn tk n) b (T (idx l n (b - 1))) (some ⟨g, 0, none⟩) (plen b l OL n) (plen b l OL n) := by
  unfold paysL
  rw [List.range_succ, List.flatMap_append]
  congr 1
  · rw [List.flatMap_def, List.flatMap_def]
    congr 1
    refine List.map_congr_left fun i hi => ?_
    have : i ≠ n := by have := List.mem_range.1 hi; omega
    simp [payN, upd, this]
  · simp [payN, upd]
/-- What a round of 'packGroup' leaves. -/
theorem round_end {w w0 w12 w13 : World} {bp bkk br bf nk ng b l n sz gO bm : Nat} {m : Int} {va : Option Addr} {vc : Nat} {tk : Bool} {Z : Nat → Int} {S : Nat → ByteArray} {T : Nat → Int} {Y : Nat → ByteArray} {OL : Nat → Nat} {OB : Nat → Nat → Int} {FO : Nat → Option Addr} {FC : Nat → Nat} {G : Nat → Nat}
    (hb12 : Below w0.heap.size w0 w12) (henv : Env w12 bp bkk br bf nk ng b l m va n vc (tkn tk n) Z S T Y OL OB FO FC) (hown : w0.ownsRow (bp + 1) 43 5 (.slice va n vc) n (paysL T tk b l OL G n)) (hoct : ∀ i, i < n → OctN w0 bp nk b l m Z S Y OL OB (G i) i) (hbel : Below bp w w0)
    (hbp : bp < w0.heap.size) (hgo : w0.heap.size + 1 + 1 ≤ gO) (hs12 : gO < w12.heap.size) (hsz : offs b (fun i => OL (idx l n i)) b = sz) (hbm : b = bm + 1)
    (ho : Oct w12.heap[gO]? sz (hdr0 l n) (hdr1 m b) b (fun j => codeOf Z S Y nk (idx l n j)) (fun i => OL (idx l n i)) (fun i => OB (idx l n i)))
    (hadd : Added bp (.string ⟨#[]⟩) (.pointer (some ⟨bkk, 0, none⟩)) (.int .i64 b) (.int .i64 l) (.int .u8 m) (.int .u32 0) (.bool false) (.slice (some ⟨bf, 0, none⟩) ng ng) va n vc (paysL T tk b l OL G n) (pay (T n) (!tkn tk n) b (T (idx l n bm)) (some ⟨gO, 0, none⟩) sz sz) w12 w13) :
    ∃ (va' : Option Addr) (vc' : Nat) (G' : Nat → Nat), Hid (Env w13 bp bkk br bf nk ng b l m va' (n + 1) vc' (tkn tk (n + 1)) Z S T Y OL OB FO FC) ∧ Hid (w13.ownsRow (bp + 1) 43 5 (.slice va' (n + 1) vc') (n + 1) (paysL T tk b l OL G' (n + 1))) ∧
      Hid (∀ i, i < n + 1 → OctN w13 bp nk b l m Z S Y OL OB (G' i) i) ∧ Hid (Below bp w w13) := by
  obtain ⟨g, cap, hblk, hown13⟩ := hadd.own
  have etk : tkn tk (n + 1) = true := by simp [tkn]
  have hob := hown.lt
  have hbm' : b - 1 = bm := by omega
  refine ⟨some ⟨g, 0, none⟩, cap, upd G n gO, ?_, ?_, ?_, ?_⟩
  · rw [etk]; exact henv.lower hadd.bel hblk
  · rw [paysL_succ, hbm']; unfold plen; rw [hsz]; exact hown13
  · intro i hi
    by_cases e : i = n
    · subst e
      have : upd G i gO i = gO := by simp [upd]
      rw [this]
      refine ⟨by omega, ?_⟩
      rw [hadd.far gO hs12 (by omega) (fun h => by have := hob _ h; omega)]
      unfold plen; rw [hsz]; exact ho
    · have hu : upd G n gO i = G i := by simp [upd, e]
      rw [hu]
      obtain ⟨h1, h2⟩ := hoct i (by omega)
      refine ⟨h1, ?_⟩
      obtain ⟨cur, hc, _⟩ := h2.blk
      have hlt := lt_of_block hc
      have hs := hb12.size
      rw [hadd.far (G i) (by omega) (by omega) ?_, hb12.block _ hlt]
      · exact h2
      · intro hk
        rcases hown.2 with ⟨hv, _⟩ | ⟨g', cap', cur', hv, _, hg', _⟩
        · rw [hv] at hk; simp [Value.ownBlock] at hk
        · rw [hv] at hk
          simp [Value.ownBlock] at hk
          rw [hk, hc] at hg'
          simp at hg'
  · exact (hbel.trans (hb12.mono (by omega))).trans hadd.bel
theorem flat5 (f : Nat → List Value) (hf : ∀ i, (f i).length = 5) (n i q : Nat) (hi : i < n) (hq : q < 5) : ((List.range n).flatMap f)[i * 5 + q]? = (f i)[q]? := by
  induction n with
  | zero => omega
  | succ n ih =>
    have hl : ((List.range n).flatMap f).length = n * 5 := by
      clear ih hi
      induction n with
      | zero => rfl
      | succ n ih => rw [List.range_succ, List.flatMap_append, List.length_append, ih]; simp [hf]; omega
    rw [List.range_succ, List.flatMap_append]
    by_cases e : i < n
    · rw [List.getElem?_append_left (by omega)]; exact ih e
    · obtain rfl : i = n := by omega
      rw [List.getElem?_append_right (by omega), hl]
      simp [show i * 5 + q - i * 5 = q by omega]
/-- What 'packGroup' leaves: the payloads in order, the group emptied, the stream talking. -/
structure Dealt (w : World) (bp bf g cap nk ng b l : Nat) (m : Int) (tk : Bool) (Z : Nat → Int) (S : Nat → ByteArray) (T : Nat → Int) (Y : Nat → ByteArray) (OL : Nat → Nat) (OB : Nat → Nat → Int) (G : Nat → Nat) : Prop where
  grp : w.cell? ⟨bp, 7, none⟩ = some (.slice (some ⟨bf, 0, none⟩) 0 ng)
  ready : w.cell? ⟨bp, 8, none⟩ = some (.slice (some ⟨g, 0, none⟩) (l + 1) cap)
  talk : w.cell? ⟨bp, 9, none⟩ = some (.bool true)
  lo : bp < g
  hi : g < w.heap.size
  pays : ∀ i, i < l + 1 → w.cell? ⟨g, i * 5, none⟩ = some (.int .u32 (T i)) ∧ w.cell? ⟨g, i * 5 + 1, none⟩ = some (.bool (!tkn tk i)) ∧ w.cell? ⟨g, i * 5 + 2, none⟩ = some (.int .i64 b) ∧ w.cell? ⟨g, i * 5 + 3, none⟩ = some (.int .u32 (T (idx l i (b - 1)))) ∧
    w.cell? ⟨g, i * 5 + 4, none⟩ = some (.slice (some ⟨G i, 0, none⟩) (plen b l OL i) (plen b l OL i))
  oct : ∀ i, i < l + 1 → OctN w bp nk b l m Z S Y OL OB (G i) i
theorem dealt_of {w w0 : World} {bp bkk br bf nk ng b l : Nat} {m : Int} {va : Option Addr} {vc : Nat} {tk : Bool} {Z : Nat → Int} {S : Nat → ByteArray} {T : Nat → Int} {Y : Nat → ByteArray} {OL : Nat → Nat} {OB : Nat → Nat → Int} {FO : Nat → Option Addr} {FC : Nat → Nat} {G : Nat → Nat}
    (henv : Env w0 bp bkk br bf nk ng b l m va (l + 1) vc (tkn tk (l + 1)) Z S T Y OL OB FO FC) (hown : w0.ownsRow (bp + 1) 43 5 (.slice va (l + 1) vc) (l + 1) (paysL T tk b l OL G (l + 1))) (hoct : ∀ i, i < l + 1 → OctN w0 bp nk b l m Z S Y OL OB (G i) i) (hbel : Below bp w w0) :
    (∃ g cap, Dealt (w0.setCell ⟨bp, 7, none⟩ (.slice (some ⟨bf, 0, none⟩) 0 ng)) bp bf g cap nk ng b l m tk Z S T Y OL OB G) ∧ Below bp w (w0.setCell ⟨bp, 7, none⟩ (.slice (some ⟨bf, 0, none⟩) 0 ng)) := by
  refine ⟨?_, hbel.setCell (Nat.le_refl _) _⟩
  obtain ⟨g, cap, hv, hg, hglt⟩ := hown.form (by omega)
  rw [hv] at hown
  have hblk := henv.blk
  rw [hv] at hblk
  have etk : tkn tk (l + 1) = true := by simp [tkn]
  rw [etk] at hblk
  have h2 := blk_set (i := 7) (v := .slice (some ⟨bf, 0, none⟩) 0 ng) hblk
  have hfar : ∀ i, (w0.setCell ⟨bp, 7, none⟩ (.slice (some ⟨bf, 0, none⟩) 0 ng)).cell? ⟨g, i, none⟩ = w0.cell? ⟨g, i, none⟩ := fun i => World.cell?_setCell_other _ _ _ _ (fun h => by have h' : bp = g := congrArg Addr.block h; omega)
  have hp : ∀ i q, i < l + 1 → q < 5 → w0.cell? ⟨g, i * 5 + q, none⟩ = (payN T tk b l OL G i)[q]? := fun i q hi hq => by
    rw [hown.cellAt _ (by omega)]
    exact flat5 _ (fun i => rfl) _ i q hi hq
  refine ⟨g, cap, ?_, ?_, ?_, by omega, by rw [World.size_setCell]; exact hglt, fun i hi => ⟨?_, ?_, ?_, ?_, ?_⟩, fun i hi => ⟨(hoct i hi).1, ?_⟩⟩
  · simp [World.cell?, h2]
  · simp [World.cell?, h2]
  · simp [World.cell?, h2]
  · rw [hfar]; exact hp i 0 hi (by omega)
  · rw [hfar]; exact hp i 1 hi (by omega)
  · rw [hfar]; exact hp i 2 hi (by omega)
  · rw [hfar]; exact hp i 3 hi (by omega)
  · rw [hfar]; exact hp i 4 hi (by omega)
  · rw [Below.heap_setCell _ _ _ _ (by have := (hoct i hi).1; simp; omega)]; exact (hoct i hi).2
theorem idx_lt {l n j b ng : Nat} (hng : ng = (l + 1) * b) (hn : n < l + 1) (hj : j < b) : idx l n j < ng := by
  have : (j + 1) * (l + 1) ≤ b * (l + 1) := Nat.mul_le_mul_right _ (by omega)
  rw [hng, idx, Nat.mul_comm (l + 1) b]
  rw [Nat.add_mul] at this
  omega
theorem idx_int (l n j : Nat) : (n : Int) + (j : Int) * ((l : Int) + 1) = ((idx l n j : Nat) : Int) := by
  simp [idx]
theorem prod_bd (l j : Nat) (hl : l ≤ 7) (hj : j ≤ 32) : 0 ≤ (j : Int) * ((l : Int) + 1) ∧ (j : Int) * ((l : Int) + 1) ≤ 256 :=
  ⟨Int.mul_nonneg (by omega) (by omega), Int.mul_le_mul (show (j : Int) ≤ 32 by omega) (show (l : Int) + 1 ≤ 8 by omega) (by omega) (by omega)⟩

set_option maxHeartbeats 1000000 in
set_option maxRecDepth 100000 in
theorem pack_any (bp bkk br bf nk ng b l : Nat) (m : Int) (tk : Bool) (Z : Nat → Int) (S : Nat → ByteArray) (T : Nat → Int) (Y : Nat → ByteArray) (OL : Nat → Nat) (OB : Nat → Nat → Int) (FO : Nat → Option Addr) (FC : Nat → Nat) (w : World)
    (henv : Env w bp bkk br bf nk ng b l m none 0 0 tk Z S T Y OL OB FO FC) (b1 : 1 ≤ b) (b2 : b ≤ 32) (l7 : l ≤ 7) (m0 : 0 ≤ m) (m7 : m ≤ 7) (hng : ng = (l + 1) * b) (mk : nk ≤ 1048576) (hol : ∀ i, i < ng → OL i ≤ 1048576)
    (hrow : ∀ i, i < ng → frow S (Y i) nk < nk ∧ (S (frow S (Y i) nk)).toList = (Y i).toList) :
    Calls Try.prog 26 #[.pointer (some ⟨bp, 0, none⟩)] w fun e w' => e = .returned (.tuple #[]) ∧ ∃ G, (∃ g cap, Dealt w' bp bf g cap nk ng b l m tk Z S T Y OL OB G) ∧ Below bp w w' := by
  have HENV : Hid (Env w bp bkk br bf nk ng b l m none 0 0 tk Z S T Y OL OB FO FC) := henv
  have HOL : Hid (∀ i, i < ng → OL i ≤ 1048576) := hol
  have HROW : Hid (∀ i, i < ng → frow S (Y i) nk < nk ∧ (S (frow S (Y i) nk)).toList = (Y i).toList) := hrow
  have HNG : Hid (ng = (l + 1) * b) := hng
  obtain ⟨tl, htl⟩ : ∃ tl, tl = 2 + (b + 1) / 2 := ⟨_, rfl⟩
  have HTL : Hid (tl = 2 + (b + 1) / 2) := htl
  have tl1 : tl ≤ 2 + (b + 1) / 2 := by omega
  have tl2 : 2 + (b + 1) / 2 ≤ tl := by omega
  obtain ⟨e1, e2, e3, e4, e7⟩ := henv.cells
  have hmkF := mk_run Try.underlying60 info63 b b (Nat.le_refl _) (by omega) (by omega)
  clear henv hol hrow hng htl
  go_enter Try.func26, Try.ntmps26
  go_wp2
  clear e1 e2 e3 e4 e7
  go_loopw [21] (fun i wr => ∃ (n : Nat) (va : Option Addr) (vc : Nat) (G : Nat → Nat), n ≤ l + 1 ∧ i = .int .i64 n ∧ Hid (Env wr bp bkk br bf nk ng b l m va n vc (tkn tk n) Z S T Y OL OB FO FC) ∧ Hid (wr.ownsRow (bp + 1) 43 5 (.slice va n vc) n (paysL T tk b l OL G n)) ∧
      Hid (∀ i, i < n → OctN wr bp nk b l m Z S Y OL OB (G i) i) ∧ Hid (Below bp w wr)) (fun i _ => l + 1 - (intOf i).toNat)
  case atStart => exact ⟨0, none, 0, fun _ => 0, Nat.zero_le _, rfl, by simpa [tkn] using HENV, World.ownsRow_nil _ _ _ _, fun i hi => by omega, Below.refl _ _⟩
  case round =>
    rename World => w0
    obtain ⟨n, va, vc, G, hn, rfl, henv, hown, hoct, hbel⟩ := hrel
    obtain ⟨e1, e2, e3, e4, e7⟩ := henv.out.cells
    have hbp := henv.out.lt
    by_cases hlt : n < l + 1
    · have hlt' : (n : Int) < (l : Int) + 1 := by omega
      have wl : IntKind.u8.wrap (l : Int) = (l : Int) := u8w l (by omega)
      have wn : IntKind.u8.wrap (n : Int) = (n : Int) := u8w n (by omega)
      go_wp2
      go_region_held3 (fun w' => w'.cell? ⟨bp, 2, none⟩ = some (.int .i64 b) ∧ w'.cell? ⟨bp, 3, none⟩ = some (.int .i64 l) ∧ w'.cell? ⟨bp, 4, none⟩ = some (.int .u8 m)) (simp [go_sem, *]) (fail)
      rename_i hHeld
      clear hHeld wl wn hmkF
      obtain ⟨w1, hw1⟩ : ∃ w1, w1 = ((w0.alloc (.cells (madeCells #[.int .u32 0, .string ⟨#[]⟩, .slice none 0 0] (b * 3)) 63)).alloc (.cells #[.int .u8 l, .int .u8 n, .int .u8 m, .int .i64 b] 51)).drew := ⟨_, rfl⟩
      rw [← hw1]
      have hw1s : w0.heap.size + 1 + 1 ≤ w1.heap.size := by rw [hw1]; simp
      have HW1B : Hid (Below w0.heap.size w0 w1) := by rw [hw1]; exact (((Below.refl _ _).alloc (Nat.le_refl _) _).alloc (by simp) _).drew
      have HW1R : Hid (w1.rowIs w0.heap.size 63 (b * 3) (fcell (fun j => T (idx l n j)) (fun j => Y (idx l n j)) (fun j => FO (idx l n j)) (fun j => OL (idx l n j)) (fun j => FC (idx l n j)) 0)) := by
        rw [hw1]; exact (((made_row w0 _ (b * 3) 63).alloc _).drew).congr (fun i _ => fcell_start i)
      have HW1H : Hid (w1.heap[w0.heap.size + 1]? = some (.cells #[.int .u8 l, .int .u8 n, .int .u8 m, .int .i64 b] 51 (0, 0))) := by
        rw [hw1]
        have := heap_alloc_new (w0.alloc (.cells (madeCells #[.int .u32 0, .string ⟨#[]⟩, .slice none 0 0] (b * 3)) 63)) (.cells #[.int .u8 l, .int .u8 n, .int .u8 m, .int .i64 b] 51)
        rw [World.size_alloc] at this
        exact this
      clear hw1 e1 e2 e3 e4 e7
      have g0 : w1.cell? ⟨w0.heap.size + 1, 0, none⟩ = some (.int .u8 l) := by simp [World.cell?, HW1H.out]
      have g1 : w1.cell? ⟨w0.heap.size + 1, 1, none⟩ = some (.int .u8 n) := by simp [World.cell?, HW1H.out]
      have g2 : w1.cell? ⟨w0.heap.size + 1, 2, none⟩ = some (.int .u8 m) := by simp [World.cell?, HW1H.out]
      have g3 : w1.cell? ⟨w0.heap.size + 1, 3, none⟩ = some (.int .i64 b) := by simp [World.cell?, HW1H.out]
      go_wp2_with fail
      refine (tocEnd_bel _ _ _ b tl (by omega) HTL w1).mono ?_
      rintro e w2 ⟨rfl, hb2⟩
      have hw2s : w0.heap.size + 1 + 1 ≤ w2.heap.size := Nat.le_trans hw1s hb2.size
      have HW2B : Hid (Below w0.heap.size w0 w2) := HW1B.out.trans (hb2.mono (by omega))
      have HW2R : Hid (w2.rowIs w0.heap.size 63 (b * 3) (fcell (fun j => T (idx l n j)) (fun j => Y (idx l n j)) (fun j => FO (idx l n j)) (fun j => OL (idx l n j)) (fun j => FC (idx l n j)) 0)) := HW1R.out.of_block (hb2.block _ (by omega))
      have HW2H : Hid (w2.heap[w0.heap.size + 1]? = some (.cells #[.int .u8 l, .int .u8 n, .int .u8 m, .int .i64 b] 51 (0, 0))) := (hb2.block _ (by omega)).trans HW1H.out
      clear hb2 hw1s HW1B HW1R HW1H g0 g1 g2 g3
      go_wp2
      clear w1
      go_loopw [6, 49] (fun s i wr => ∃ j : Nat, j ≤ b ∧ i = .int .i64 j ∧ s = .int .i64 (offs b (fun j => OL (idx l n j)) j) ∧ Hid (wr.rowIs w0.heap.size 63 (b * 3) (fcell (fun j => T (idx l n j)) (fun j => Y (idx l n j)) (fun j => FO (idx l n j)) (fun j => OL (idx l n j)) (fun j => FC (idx l n j)) j)) ∧ Hid (Only w0.heap.size w2 wr)) (fun _ i _ => b - (intOf i).toNat)
      case atStart => exact ⟨0, Nat.zero_le _, rfl, by rw [HTL.out]; rfl, HW2R, Only.refl _ _⟩
      case round =>
        obtain ⟨j, hj, rfl, rfl, hfr, honly⟩ := hrel
        have hws : wr.heap.size = w2.heap.size := honly.out.size
        have hEnv : Env wr bp bkk br bf nk ng b l m va n vc (tkn tk n) Z S T Y OL OB FO FC := henv.out.later ((HW2B.out.mono (by omega)).trans (honly.out.below _ (by omega)))
        have hof : offs b (fun j => OL (idx l n j)) j ≤ 2 + (b + 1) / 2 + j * 1048576 := offs_le b _ j (fun i hi => HOL.out _ (idx_lt HNG.out hlt (by omega)))
        by_cases hjb : j < b
        · obtain ⟨e1, e2, e3, e4, e7⟩ := hEnv.cells
          have hil := idx_lt HNG.out hlt hjb
          have hil' : ((idx l n j : Nat) : Int) < (ng : Int) := by omega
          have hix := idx_int l n j
          obtain ⟨hp0, hp1⟩ := prod_bd l j l7 (by omega)
          obtain ⟨c0, c1, c2⟩ := frow3 hEnv.frms hil hil
          obtain ⟨⟨r0, r1, r2⟩, q0, q1, q2⟩ := row3 (k := j) hfr.out (Below.refl (w0.heap.size + 1) wr) (by omega) (by omega)
          have hol := HOL.out _ hil
          clear hEnv e1 e2 e3 e4
          go_wp2
          go_roundw
          case rel =>
            have hst := fstep' hfr.out
            have hon := ((honly.out.set (j * 3) (.int .u32 (T (idx l n j)))).set (j * 3 + 1) (.string (Y (idx l n j)))).set (j * 3 + 2) (.slice (FO (idx l n j)) (OL (idx l n j)) (FC (idx l n j)))
            exact ⟨j + 1, by omega, by go_num, by simp only [offs]; go_num, hst, hon⟩
          case measure => simp [intOf]; omega
        · obtain rfl : b = j := by omega
          have hmn := offs_mono b (fun i => OL (idx l n i)) (Nat.zero_le b)
          simp only [show offs b (fun i => OL (idx l n i)) 0 = 2 + (b + 1) / 2 from rfl] at hmn
          generalize hsz : offs b (fun i => OL (idx l n i)) b = sz at hof hmn ⊢
          have HSZ : Hid (offs b (fun i => OL (idx l n i)) b = sz) := hsz
          have htz : tl ≤ sz := by omega
          have hH : wr.heap[w0.heap.size + 1]? = some (.cells #[.int .u8 l, .int .u8 n, .int .u8 m, .int .i64 b] 51 (0, 0)) := (honly.out.block _ (by omega)).trans HW2H.out
          have g0 : wr.cell? ⟨w0.heap.size + 1, 0, none⟩ = some (.int .u8 l) := by simp [World.cell?, hH]
          have g1 : wr.cell? ⟨w0.heap.size + 1, 1, none⟩ = some (.int .u8 n) := by simp [World.cell?, hH]
          have g2 : wr.cell? ⟨w0.heap.size + 1, 2, none⟩ = some (.int .u8 m) := by simp [World.cell?, hH]
          have g3 : wr.cell? ⟨w0.heap.size + 1, 3, none⟩ = some (.int .i64 b) := by simp [World.cell?, hH]
          have HENV2 : Hid (Env wr bp bkk br bf nk ng b l m va n vc (tkn tk n) Z S T Y OL OB FO FC) := hEnv
          have HB02 : Hid (Below w0.heap.size w0 wr) := HW2B.out.trans (honly.out.below _ (Nat.le_refl _))
          have hws' : w0.heap.size + 1 + 1 ≤ wr.heap.size := by omega
          have u1 : IntKind.u8.wrap ((b : Int) - 1) = (b : Int) - 1 := by rw [IntKind.wrap_u8]; omega
          clear hsz hH hEnv honly hws hw2s HW2B HW2R HW2H
          rename World => w3
          go_wp2_with fail
          refine (tocEnd_bel _ _ _ b tl (by omega) HTL w3).mono ?_
          rintro e w4 ⟨rfl, hb4⟩
          have hs4 := hb4.size
          go_wp2_with (at_make; refine wpList_mk _ rfl (.tmp 76) (.tmp 77) rfl tl sz rfl rfl htz (by omega) ?_; intro w5 hr5 hb5; have HR5 : Hid (w5.rowIs w4.heap.size 5 sz (fun _ => .int .u8 0)) := hr5; have z0 := hr5.cell (i := 0) (by omega); have z1 := hr5.cell (i := 1) (by omega); have y0 := hr5.frozen 0; have y1 := hr5.frozen 1; have k0 := cell_later hb5 (cell_later hb4 g0); have k1 := cell_later hb5 (cell_later hb4 g1); have k2 := cell_later hb5 (cell_later hb4 g2); have k3 := cell_later hb5 (cell_later hb4 g3); have n5 : ¬ w0.heap.size + 1 = w4.heap.size := (by omega); have n6 : ¬ w4.heap.size = w0.heap.size + 1 := (by omega); have HB4 : Hid (Below w3.heap.size w3 w4) := hb4; have HB5 : Hid (Below w4.heap.size w4 w5) := hb5; clear hr5 hb4 hb5 g0 g1 g2 g3)
          obtain ⟨w6, hw6⟩ : ∃ w6, w6 = (w5.setCell ⟨w4.heap.size, 0, none⟩ (.int .u8 (bits .or .u8 ((l : Int) * 8) n))).setCell ⟨w4.heap.size, 1, none⟩ (.int .u8 (bits .or .u8 (m * 32) ((b : Int) - 1))) := ⟨_, rfl⟩
          rw [← hw6]
          have HW6R : Hid (w6.rowIs w4.heap.size 5 sz (hcell (hdr0 l n) (hdr1 m b) (fun j => codeOf Z S Y nk (idx l n j)) 0)) := by rw [hw6]; exact hstart HR5.out
          have HW6B : Hid (Below w4.heap.size w4 w6) := by rw [hw6]; exact (HB5.out.setCell (Nat.le_refl _) _).setCell (Nat.le_refl _) _
          have HB06 : Hid (Below w0.heap.size w0 w6) := (HB02.out.trans (HB4.out.mono (by omega))).trans (HW6B.out.mono (by omega))
          have hs6 : w4.heap.size < w6.heap.size := HW6R.out.lt
          have HENV6 : Hid (Env w6 bp bkk br bf nk ng b l m va n vc (tkn tk n) Z S T Y OL OB FO FC) := henv.out.later (HB06.out.mono (by omega))
          have HFR6 : Hid (w6.rowIs w0.heap.size 63 (b * 3) (fcell (fun j => T (idx l n j)) (fun j => Y (idx l n j)) (fun j => FO (idx l n j)) (fun j => OL (idx l n j)) (fun j => FC (idx l n j)) b)) := (hfr.out.of_block (HB4.out.block _ (by omega))).of_block (HW6B.out.block _ (by omega))
          have hgo : w0.heap.size + 1 + 1 ≤ w4.heap.size := by omega
          clear hw6 HW6B HB4 HB5 HR5 z0 z1 y0 y1 k0 k1 k2 k3 n5 n6 HENV2 HB02 hfr hs4 hws' u1
          generalize w4.heap.size = gO at *
          go_loopw [99] (fun i wr => ∃ k : Nat, k ≤ b ∧ i = .int .i64 k ∧ Hid (wr.rowIs gO 5 sz (hcell (hdr0 l n) (hdr1 m b) (fun j => codeOf Z S Y nk (idx l n j)) k)) ∧ Hid (Below gO w6 wr)) (fun i _ => b - (intOf i).toNat)
          case atStart => exact ⟨0, Nat.zero_le _, rfl, HW6R, Below.refl _ _⟩
          case round =>
            obtain ⟨k, hk, rfl, hro, hbo⟩ := hrel
            have hso : w6.heap.size ≤ wr.heap.size := hbo.out.size
            have hEnv : Env wr bp bkk br bf nk ng b l m va n vc (tkn tk n) Z S T Y OL OB FO FC := HENV6.out.later (hbo.out.mono (by omega))
            have hfr := HFR6.out.of_block (hbo.out.block _ (by omega))
            by_cases hkb : k < b
            · obtain ⟨e1, e2, e3, e4, e7⟩ := hEnv.cells
              have hil := idx_lt HNG.out hlt hkb
              have hkb' : (k : Int) < (b : Int) := by omega
              obtain ⟨c0, c1, c2⟩ := frow3 hfr hkb hkb
              obtain ⟨hr1, hr2⟩ := HROW.out _ hil
              have HR2 : Hid ((S (frow S (Y (idx l n k)) nk)).toList = (Y (idx l n k)).toList) := hr2
              have HEnv : Hid (Env wr bp bkk br bf nk ng b l m va n vc (tkn tk n) Z S T Y OL OB FO FC) := hEnv
              have hbw : bp < wr.heap.size := by omega
              clear hEnv e2 e3 e4 e7 hr2 hfr
              go_wp2
              obtain ⟨w7, hw7⟩ : ∃ w7, w7 = wr.alloc (.cells #[.int .u32 (T (idx l n k)), .string (Y (idx l n k)), .slice (FO (idx l n k)) (OL (idx l n k)) (FC (idx l n k))] 63) := ⟨_, rfl⟩
              rw [← hw7]
              have HB7 : Hid (Below wr.heap.size wr w7) := by rw [hw7]; exact (Below.refl _ _).alloc (Nat.le_refl _) _
              have hs7 : wr.heap.size < w7.heap.size := by rw [hw7]; simp
              have p2 : w7.cell? ⟨wr.heap.size, 1, none⟩ = some (.string (Y (idx l n k))) := by rw [hw7, World.cell?_alloc_at _ _ _ _ rfl]; rfl
              have p1 : w7.cell? ⟨bp, 1, none⟩ = some (.pointer (some ⟨bkk, 0, none⟩)) := cell_later HB7.out e1
              have HEnv7 : Hid (Env w7 bp bkk br bf nk ng b l m va n vc (tkn tk n) Z S T Y OL OB FO FC) := HEnv.out.later (HB7.out.mono (by omega))
              have hbk7 : bkk < w7.heap.size := by have := HEnv.out.k1; omega
              have hbp7 : bp < w7.heap.size := by omega
              clear hw7 HEnv e1 c0 c1 c2
              go_region_held3 (fun w' => w'.cell? ⟨bp, 1, none⟩ = some (.pointer (some ⟨bkk, 0, none⟩)) ∧ w'.cell? ⟨wr.heap.size, 1, none⟩ = some (.string (Y (idx l n k)))) (simp [go_sem, *]) ((first | (go_at_call 27; refine (kind_any bkk br nk Z S (Y (idx l n k)) _ mk ?_ ?_ ?_ hr1 HR2.out).mono ?_; exact hbk7; exact HEnv7.out.kin; exact HEnv7.out.rows; rintro e w8 ⟨rfl, hb8⟩; have s1 := cell_later hb8 p1; have s2 := cell_later hb8 p2; have hs8 : w7.heap.size ≤ w8.heap.size := hb8.size; have hbp8 : bp < w8.heap.size := (by omega); have hwr8 : wr.heap.size < w8.heap.size := (by omega)) | (go_at_call 27; refine (kind_any bkk br nk Z S (Y (idx l n k)) _ mk ?_ ?_ ?_ hr1 HR2.out).mono ?_; (simp; omega); exact (HEnv7.out.later (((Below.refl _ _).alloc (by omega) _).drew)).kin; exact (HEnv7.out.later (((Below.refl _ _).alloc (by omega) _).drew)).rows; rintro e w8 ⟨rfl, hb8⟩; have hs8 : w7.heap.size + 1 ≤ w8.heap.size := (by have := hb8.size; simpa using this); have s1 : w8.cell? ⟨bp, 1, none⟩ = some (.pointer (some ⟨bkk, 0, none⟩)) := cell_later hb8 ((World.cell?_alloc_past _ _ _ hbp7).trans p1); have s2 : w8.cell? ⟨wr.heap.size, 1, none⟩ = some (.string (Y (idx l n k))) := cell_later hb8 ((World.cell?_alloc_past _ _ _ hs7).trans p2); have b0 : w8.cell? ⟨w7.heap.size, 0, none⟩ = some (.int .u8 0) := (hb8.cell (p := ⟨w7.heap.size, 0, none⟩) (by simp)).trans (World.cell?_alloc_at _ _ _ _ rfl); have f0 : w8.frozen? ⟨w7.heap.size, 0, none⟩ = false := (hb8.frozen (p := ⟨w7.heap.size, 0, none⟩) (by simp)).trans (World.frozen?_alloc_at _ _ _ _ rfl); have b1 : w8.cell? ⟨w7.heap.size, 1, none⟩ = some (.int .u8 0) := (hb8.cell (p := ⟨w7.heap.size, 1, none⟩) (by simp)).trans (World.cell?_alloc_at _ _ _ _ rfl); have f1 : w8.frozen? ⟨w7.heap.size, 1, none⟩ = false := (hb8.frozen (p := ⟨w7.heap.size, 1, none⟩) (by simp)).trans (World.frozen?_alloc_at _ _ _ _ rfl); have b2 : w8.cell? ⟨w7.heap.size, 2, none⟩ = some (.bool false) := (hb8.cell (p := ⟨w7.heap.size, 2, none⟩) (by simp)).trans (World.cell?_alloc_at _ _ _ _ rfl); have f2 : w8.frozen? ⟨w7.heap.size, 2, none⟩ = false := (hb8.frozen (p := ⟨w7.heap.size, 2, none⟩) (by simp)).trans (World.frozen?_alloc_at _ _ _ _ rfl); have b3 : w8.cell? ⟨w7.heap.size, 3, none⟩ = some (.string ⟨#[]⟩) := (hb8.cell (p := ⟨w7.heap.size, 3, none⟩) (by simp)).trans (World.cell?_alloc_at _ _ _ _ rfl); have f3 : w8.frozen? ⟨w7.heap.size, 3, none⟩ = false := (hb8.frozen (p := ⟨w7.heap.size, 3, none⟩) (by simp)).trans (World.frozen?_alloc_at _ _ _ _ rfl); have b4 : w8.cell? ⟨w7.heap.size, 4, none⟩ = some (.int .i64 0) := (hb8.cell (p := ⟨w7.heap.size, 4, none⟩) (by simp)).trans (World.cell?_alloc_at _ _ _ _ rfl); have f4 : w8.frozen? ⟨w7.heap.size, 4, none⟩ = false := (hb8.frozen (p := ⟨w7.heap.size, 4, none⟩) (by simp)).trans (World.frozen?_alloc_at _ _ _ _ rfl); have hn7 : ¬ bp = w7.heap.size := (by omega); have hn8 : ¬ wr.heap.size = w7.heap.size := (by omega); have hn9 : ¬ w7.heap.size = bp := (by omega); have hn10 : ¬ w7.heap.size = wr.heap.size := (by omega))))
              · rename_i hHeld
                clear hHeld
                obtain ⟨wX, hwX⟩ : ∃ wX, wX = w8.alloc (.cells #[.int .u8 (Z (frow S (Y (idx l n k)) nk)), .int .u8 0, .bool false, .string (S (frow S (Y (idx l n k)) nk)), .int .i64 0] 58) := ⟨_, rfl⟩
                rw [← hwX]
                have HXB : Hid (Below wr.heap.size wr wX) := by rw [hwX]; exact (((HB7.out.trans (((Below.refl _ _).drew).trans (hb8.mono (by exact Nat.le_of_lt hs7)))).alloc (by omega) _))
                have hXc : wX.cell? ⟨w8.heap.size, 0, none⟩ = some (.int .u8 (Z (frow S (Y (idx l n k)) nk))) := by rw [hwX]; rw [World.cell?_alloc_at _ _ _ _ rfl]; rfl
                have hrX := hro.out.of_block (HXB.out.block gO (by omega))
                have HRX : Hid (wX.rowIs gO 5 sz (hcell (hdr0 l n) (hdr1 m b) (fun j => codeOf Z S Y nk (idx l n j)) k)) := hrX
                have htc := hcell_toc hrX (by omega)
                have htf := hrX.frozen (2 + k / 2)
                clear hwX hrX s1 s2 p1 p2 hb8
                go_wp2_with fail
                refine (put_any gO tl sz k (Z (frow S (Y (idx l n k)) nk)) _ wX (by omega) (by omega) htc htf (by omega)).mono ?_
                rintro e w9 ⟨rfl, rfl⟩
                clear htc htf
                go_wp2
                go_roundw
                case rel =>
                  have hst := hstep HRX.out
                  have hbb := (hbo.out.trans (HXB.out.mono (by omega))).setCell (p := ⟨gO, 2 + k / 2, none⟩) (Nat.le_refl _) (.int .u8 (put8 (tocv (fun j => codeOf Z S Y nk (idx l n j)) k (k / 2)) (Z (frow S (Y (idx l n k)) nk)) k))
                  exact ⟨k + 1, by omega, by go_num, hst, hbb⟩
                case measure => simp [intOf]; omega
              · rename_i hHeld
                clear hHeld
                obtain ⟨wX, hwX⟩ : ∃ wX, wX = ((((w8.setCell ⟨w7.heap.size, 0, none⟩ (.int .u8 (Z (frow S (Y (idx l n k)) nk)))).setCell ⟨w7.heap.size, 1, none⟩ (.int .u8 0)).setCell ⟨w7.heap.size, 2, none⟩ (.bool false)).setCell ⟨w7.heap.size, 3, none⟩ (.string (S (frow S (Y (idx l n k)) nk)))).setCell ⟨w7.heap.size, 4, none⟩ (.int .i64 0) := ⟨_, rfl⟩
                rw [← hwX]
                have HXB : Hid (Below wr.heap.size wr wX) := by rw [hwX]; exact ((((((HB7.out.trans (((((Below.refl _ _).alloc (by omega) _).drew)).trans (hb8.mono (by simp; omega)))).setCell (by simp; omega) _).setCell (by simp; omega) _).setCell (by simp; omega) _).setCell (by simp; omega) _).setCell (by simp; omega) _)
                have hXc : wX.cell? ⟨w7.heap.size, 0, none⟩ = some (.int .u8 (Z (frow S (Y (idx l n k)) nk))) := by rw [hwX, World.cell?_setCell_other _ _ _ _ (by simp), World.cell?_setCell_other _ _ _ _ (by simp), World.cell?_setCell_other _ _ _ _ (by simp), World.cell?_setCell_other _ _ _ _ (by simp), World.cell?_setCell_same _ _ _ b0]
                have hrX := hro.out.of_block (HXB.out.block gO (by omega))
                have HRX : Hid (wX.rowIs gO 5 sz (hcell (hdr0 l n) (hdr1 m b) (fun j => codeOf Z S Y nk (idx l n j)) k)) := hrX
                have htc := hcell_toc hrX (by omega)
                have htf := hrX.frozen (2 + k / 2)
                clear hwX hrX s1 s2 p1 p2 hb8
                go_wp2_with fail
                refine (put_any gO tl sz k (Z (frow S (Y (idx l n k)) nk)) _ wX (by omega) (by omega) htc htf (by omega)).mono ?_
                rintro e w9 ⟨rfl, rfl⟩
                clear htc htf
                go_wp2
                go_roundw
                case rel =>
                  have hst := hstep HRX.out
                  have hbb := (hbo.out.trans (HXB.out.mono (by omega))).setCell (p := ⟨gO, 2 + k / 2, none⟩) (Nat.le_refl _) (.int .u8 (put8 (tocv (fun j => codeOf Z S Y nk (idx l n j)) k (k / 2)) (Z (frow S (Y (idx l n k)) nk)) k))
                  exact ⟨k + 1, by omega, by go_num, hst, hbb⟩
                case measure => simp [intOf]; omega
            · obtain rfl : b = k := by omega
              have HR10 : Hid (wr.ownsRow gO 5 1 (.slice (some ⟨gO, 0, none⟩) tl sz) tl ((List.range tl).map (hcell (hdr0 l n) (hdr1 m b) (fun j => codeOf Z S Y nk (idx l n j)) b))) := own_of_row hro.out (Nat.le_refl _) htz (by unfold maxLen; omega)
              have HEnv10 : Hid (Env wr bp bkk br bf nk ng b l m va n vc (tkn tk n) Z S T Y OL OB FO FC) := hEnv
              have HFR10 : Hid (wr.rowIs w0.heap.size 63 (b * 3) (fcell (fun j => T (idx l n j)) (fun j => Y (idx l n j)) (fun j => FO (idx l n j)) (fun j => OL (idx l n j)) (fun j => FC (idx l n j)) b)) := hfr
              have HB10 : Hid (Below w0.heap.size w0 wr) := HB06.out.trans (hbo.out.mono (by omega))
              have hs10 : gO < wr.heap.size := hro.out.lt
              obtain ⟨i0, hi0, hz0, hz1, hz2⟩ := info_parts info5
              have HI0 : Hid (Try.prog.info? 5 = some i0) := hi0
              have HZ1 : Hid (i0.size = 1) := hz1
              clear hi0 hz0 hz1 hz2 hEnv hfr hro hbo HB06 HENV6 HFR6 HW6R hs6 hso
              rename World => w10
              go_wp2
              go_loopw [8, 122] (fun o i wr => ∃ k : Nat, k ≤ b ∧ i = .int .i64 k ∧ o = .slice (some ⟨gO, 0, none⟩) (offs b (fun i => OL (idx l n i)) k) sz ∧
                  Hid (wr.ownsRow gO 5 1 (.slice (some ⟨gO, 0, none⟩) (offs b (fun i => OL (idx l n i)) k) sz) (offs b (fun i => OL (idx l n i)) k) ((List.range tl).map (hcell (hdr0 l n) (hdr1 m b) (fun j => codeOf Z S Y nk (idx l n j)) b) ++ bodyL (fun i => OL (idx l n i)) (fun i => OB (idx l n i)) k)) ∧ Hid (Below gO w10 wr)) (fun _ i _ => b - (intOf i).toNat)
              case atStart =>
                have e0 : offs b (fun i => OL (idx l n i)) 0 = tl := HTL.out.symm
                exact ⟨0, Nat.zero_le _, rfl, by rw [e0], by rw [e0]; simpa [bodyL] using HR10, Below.refl _ _⟩
              case round =>
                obtain ⟨k, hk, rfl, rfl, hro, hbo⟩ := hrel
                have hso : w10.heap.size ≤ wr.heap.size := hbo.out.size
                have hEnv : Env wr bp bkk br bf nk ng b l m va n vc (tkn tk n) Z S T Y OL OB FO FC := HEnv10.out.later (hbo.out.mono (by omega))
                have hfr := HFR10.out.of_block (hbo.out.block _ (by omega))
                by_cases hkb : k < b
                · have hil := idx_lt HNG.out hlt hkb
                  have hkb' : (k : Int) < (b : Int) := by omega
                  obtain ⟨c0, c1, c2⟩ := frow3 hfr hkb hkb
                  obtain ⟨ov, onl⟩ := hEnv.oct _ hil
                  have hroom : offs b (fun i => OL (idx l n i)) k + OL (idx l n k) ≤ sz := by
                    have := offs_mono b (fun i => OL (idx l n i)) (show k + 1 ≤ b by omega)
                    rw [HSZ.out] at this
                    simpa only [offs] using this
                  have hol := HOL.out _ hil
                  have HV : Hid (VB wr 0 bp (FO (idx l n k)) (OL (idx l n k)) (OB (idx l n k))) := ov
                  have HN : Hid (NilOK (FO (idx l n k)) (OL (idx l n k)) (FC (idx l n k))) := onl
                  clear hEnv hfr ov onl
                  generalize hok : offs b (fun i => OL (idx l n i)) k = ok at hro hroom ⊢
                  have HOK : Hid (offs b (fun i => OL (idx l n i)) k = ok) := hok
                  clear hok
                  go_wp2_with (at_builtin; refine wpList_append_fits_any _ rfl (.tmp 126) (.tmp 128) 25 rfl gO 5 i0 1 Try.underlying25 HI0.out HZ1.out gO ok sz _ rfl (hro.out.alloc _) (FO (idx l n k)) (OL (idx l n k)) (FC (idx l n k)) ((List.range (OL (idx l n k))).map fun i => .int .u8 (OB (idx l n k) i)) rfl (by simp) HN.out (news_VB (HV.out.step (fun b h0 h1 => heap_alloc_old _ _ (by omega)) (Nat.le_refl _) (Nat.le_refl _))) (one_news _ _) hroom ?_; intro w11 hown11 hgrow11)
                  go_roundw
                  case rel =>
                    have ho1 : offs b (fun i => OL (idx l n i)) (k + 1) = ok + OL (idx l n k) := by rw [← HOK.out]; rfl
                    exact ⟨k + 1, by omega, by go_num, by rw [ho1], by rw [ho1, bodyL_succ, ← List.append_assoc]; exact hown11, (hbo.out.alloc (by omega) _).grown hgrow11 (by simp; omega) (fun q hq => by cases hq; exact Nat.le_refl _)⟩
                  case measure => simp [intOf]; omega
                · obtain rfl : b = k := by omega
                  rw [HSZ.out] at hro ⊢
                  rw [HTL.out] at hro
                  have hoc := oct_of_own (by rw [HSZ.out]; exact hro.out)
                  rw [HSZ.out] at hoc
                  have HOC : Hid (Oct wr.heap[gO]? sz (hdr0 l n) (hdr1 m b) b (fun j => codeOf Z S Y nk (idx l n j)) (fun i => OL (idx l n i)) (fun i => OB (idx l n i))) := hoc
                  have HB12 : Hid (Below w0.heap.size w0 wr) := HB10.out.trans (hbo.out.mono (by omega))
                  have hs12 : gO < wr.heap.size := by omega
                  have HEnv12 : Hid (Env wr bp bkk br bf nk ng b l m va n vc (tkn tk n) Z S T Y OL OB FO FC) := hEnv
                  obtain ⟨bm, hbm⟩ : ∃ bm, b = bm + 1 := ⟨b - 1, by omega⟩
                  have HBM : Hid (b = bm + 1) := hbm
                  have hsub : (b : Int) - 1 = (bm : Int) := by omega
                  have hbmb : (bm : Int) < (b : Int) := by omega
                  have hbm0 : (0 : Int) ≤ (bm : Int) := by omega
                  have hb0 : 0 < b := by omega
                  have hwb : IntKind.i64.wrap (bm : Int) = (bm : Int) := by rw [IntKind.wrap_i64]; omega
                  obtain ⟨c0, _, _⟩ := frow3 hfr (show 0 < b by omega) (show 0 < b by omega)
                  obtain ⟨d0, _, _⟩ := frow3 hfr (show bm < b by omega) (show bm < b by omega)
                  have t0 : wr.cell? ⟨w0.heap.size, 0, none⟩ = some (.int .u32 (T n)) := by simpa [idx] using c0
                  have t1 : wr.cell? ⟨w0.heap.size, bm * 3, none⟩ = some (.int .u32 (T (idx l n bm))) := d0
                  have HOB : Hid (∀ k, (Value.slice va n vc).ownBlock = some k → bp + 1 ≤ k ∧ k < w0.heap.size) := hown.out.lt
                  have hw012 : w0.heap.size < wr.heap.size := by omega
                  clear hbm hoc hro hbo hEnv hfr c0 d0 HR10 HEnv10 HFR10 HB10 hso
                  go_wp2
                  go_region_held3 (fun w' => w'.cell? ⟨w0.heap.size, 0, none⟩ = some (.int .u32 (T n)) ∧ w'.cell? ⟨w0.heap.size, bm * 3, none⟩ = some (.int .u32 (T (idx l n bm)))) (simp [go_sem, *]) ((go_at_call 29; refine (add_any bp (.string ⟨#[]⟩) (.pointer (some ⟨bkk, 0, none⟩)) (.int .i64 b) (.int .i64 l) (.int .u8 m) (.int .u32 0) (.bool false) (.slice (some ⟨bf, 0, none⟩) ng ng) va n vc (paysL T tk b l OL G n) (tkn tk n) (T n) b (T (idx l n bm)) (some ⟨gO, 0, none⟩) sz sz _ ?_ ?_ ?_).mono ?_; exact HEnv12.out.blk; exact (own_later hown.out HB12.out).drew; omega; rintro e w13 ⟨rfl, hadd⟩; have v0 : w13.cell? ⟨w0.heap.size, 0, none⟩ = some (.int .u32 (T n)) := (World.cell?_of_block (hadd.far w0.heap.size hw012 (by omega) (fun h => by have := HOB.out _ h; omega))).trans t0; have v1 : w13.cell? ⟨w0.heap.size, bm * 3, none⟩ = some (.int .u32 (T (idx l n bm))) := (World.cell?_of_block (hadd.far w0.heap.size hw012 (by omega) (fun h => by have := HOB.out _ h; omega))).trans t1))
                  have R := round_end HB12.out HEnv12.out hown.out hoct.out hbel.out hbp hgo hs12 HSZ.out HBM.out HOC.out (show Added bp _ _ _ _ _ _ _ _ va n vc _ _ wr w13 from ⟨hadd.own, hadd.far, ((Below.refl _ _).drew).trans hadd.bel⟩)
                  clear hadd v0 v1 t0 t1 hsub hwb
                  go_wp2
                  go_roundw
                  case rel =>
                    obtain ⟨va', vc', G', R1, R2, R3, R4⟩ := R
                    exact ⟨n + 1, va', vc', G', by omega, by go_num, R1, R2, R3, R4⟩
                  case measure => simp [intOf]; omega
    · obtain rfl : n = l + 1 := by omega
      have f7 : w0.frozen? ⟨bp, 7, none⟩ = false := by simp [World.frozen?, henv.out.blk]
      go_wp2
      go_end0
      exact ⟨rfl, G, dealt_of henv.out hown.out hoct.out hbel.out⟩

/-- 'ZZpackGroup'. -/
theorem zzpack_any (bp bkk br bf nk ng b l : Nat) (m : Int) (tk : Bool) (Z : Nat → Int) (S : Nat → ByteArray) (T : Nat → Int) (Y : Nat → ByteArray) (OL : Nat → Nat) (OB : Nat → Nat → Int) (FO : Nat → Option Addr) (FC : Nat → Nat) (w : World)
    (henv : Env w bp bkk br bf nk ng b l m none 0 0 tk Z S T Y OL OB FO FC) (b1 : 1 ≤ b) (b2 : b ≤ 32) (l7 : l ≤ 7) (m0 : 0 ≤ m) (m7 : m ≤ 7) (hng : ng = (l + 1) * b) (mk : nk ≤ 1048576) (hol : ∀ i, i < ng → OL i ≤ 1048576)
    (hrow : ∀ i, i < ng → frow S (Y i) nk < nk ∧ (S (frow S (Y i) nk)).toList = (Y i).toList) :
    Calls Try.prog 14 #[.pointer (some ⟨bp, 0, none⟩)] w fun e w' => e = .returned (.tuple #[]) ∧ ∃ G, (∃ g cap, Dealt w' bp bf g cap nk ng b l m tk Z S T Y OL OB G) ∧ Below bp w w' := by
  have H := pack_any bp bkk br bf nk ng b l m tk Z S T Y OL OB FO FC w henv b1 b2 l7 m0 m7 hng mk hol hrow
  have HH : Hid (Calls Try.prog 26 #[.pointer (some ⟨bp, 0, none⟩)] w fun e w' => e = .returned (.tuple #[]) ∧ ∃ G, (∃ g cap, Dealt w' bp bf g cap nk ng b l m tk Z S T Y OL OB G) ∧ Below bp w w') := H
  clear H henv hol hrow hng
  go_enter Try.func14, Try.ntmps14
  go_wp2_with fail
  refine HH.out.mono ?_
  rintro e w1 ⟨rfl, hd⟩
  have HD : Hid (∃ G, (∃ g cap, Dealt w1 bp bf g cap nk ng b l m tk Z S T Y OL OB G) ∧ Below bp w w1) := hd
  clear hd
  go_wp2
  go_end0
  exact ⟨rfl, HD.out⟩
end Go.Proofs.Qxb6614196a
