/-
  'FnPackGroupPayloadsDealTheGroupRoundRobin': the walk.
-/
import Derived.Test.Qxb6614196aLawA
namespace Go.Proofs.Qxb6614196a
open Go.ChangeShapes Go.WideShapes Go.ChangeAt Go.RowKit
set_option linter.unusedVariables false

theorem info3 : (Try.prog.info? 3).map (fun i => (i.zero, i.size, i.bytes)) = some (some (.int .i64 0), 1, 8) := by kernel_rfl
/-- 'ZZgroupLen'. -/
theorem groupLen_any (bp : Nat) (a : Option Addr) (n c : Nat) (w : World) (hc : w.cell? ⟨bp, 7, none⟩ = some (.slice a n c)) :
    Calls Try.prog 16 #[.pointer (some ⟨bp, 0, none⟩)] w fun e w' => e = .returned (.int .i64 n) ∧ w = w' := by
  go_enter Try.func16, Try.ntmps16
  go_wp2
  go_ret
  exact ⟨rfl, rfl⟩
/-- 'ZZtalking'. -/
theorem talking_any (bp : Nat) (t : Bool) (w : World) (hc : w.cell? ⟨bp, 9, none⟩ = some (.bool t)) :
    Calls Try.prog 17 #[.pointer (some ⟨bp, 0, none⟩)] w fun e w' => e = .returned (.bool t) ∧ w = w' := by
  go_enter Try.func17, Try.ntmps17
  go_wp2
  go_ret
  exact ⟨rfl, rfl⟩
theorem fill8_step {w : World} {g n k : Nat} {Z : Nat → Int} (h : w.rowIs g 5 n (fill8 Z k)) : (w.setCell ⟨g, k, none⟩ (.int .u8 (Z k))).rowIs g 5 n (fill8 Z (k + 1)) := by
  refine (h.set k _).congr (fun i hi => ?_)
  unfold fill8
  by_cases e : i = k
  · subst e; simp
  · simp only [if_neg e]
    by_cases h' : i < k
    · rw [if_pos h', if_pos (by omega)]
    · rw [if_neg h', if_neg (by omega)]
/-- A row of ints, by an index function. -/
def icell (f : Nat → Nat) (i : Nat) : Value := .int .i64 (f i)
theorem istep {w : World} {g n k v : Nat} {f : Nat → Nat} (h : w.rowIs g 3 n (icell f)) : (w.setCell ⟨g, k, none⟩ (.int .i64 (v : Int))).rowIs g 3 n (icell (upd f k v)) := by
  refine (h.set k _).congr (fun i hi => ?_)
  unfold icell upd
  by_cases e : i = k
  · simp [e]
  · simp [e]
/-- How many of the first i frames payload n has been dealt. -/
def cnt (l i n : Nat) : Nat := (i + l - n) / (l + 1)
theorem cnt_zero {l n : Nat} (hl : l ≤ 7) (hn : n < l + 1) : cnt l 0 n = 0 := by
  unfold cnt
  rcases (by omega : l = 0 ∨ l = 1 ∨ l = 2 ∨ l = 3 ∨ l = 4 ∨ l = 5 ∨ l = 6 ∨ l = 7) with rfl | rfl | rfl | rfl | rfl | rfl | rfl | rfl <;> omega
theorem cnt_at {l n j i : Nat} (hl : l ≤ 7) (hn : n < l + 1) (hi : i = n + j * (l + 1)) : cnt l i n = j ∧ cnt l (i + 1) n = j + 1 := by
  unfold cnt
  rcases (by omega : l = 0 ∨ l = 1 ∨ l = 2 ∨ l = 3 ∨ l = 4 ∨ l = 5 ∨ l = 6 ∨ l = 7) with rfl | rfl | rfl | rfl | rfl | rfl | rfl | rfl <;> omega
theorem cnt_other {l n n' j i : Nat} (hl : l ≤ 7) (hn : n < l + 1) (hn' : n' < l + 1) (hne : n' ≠ n) (hi : i = n + j * (l + 1)) : cnt l (i + 1) n' = cnt l i n' := by
  unfold cnt
  rcases (by omega : l = 0 ∨ l = 1 ∨ l = 2 ∨ l = 3 ∨ l = 4 ∨ l = 5 ∨ l = 6 ∨ l = 7) with rfl | rfl | rfl | rfl | rfl | rfl | rfl | rfl <;> omega
theorem cnt_end {l n b : Nat} (hl : l ≤ 7) (hn : n < l + 1) : cnt l ((l + 1) * b) n = b := by
  unfold cnt
  rcases (by omega : l = 0 ∨ l = 1 ∨ l = 2 ∨ l = 3 ∨ l = 4 ∨ l = 5 ∨ l = 6 ∨ l = 7) with rfl | rfl | rfl | rfl | rfl | rfl | rfl | rfl <;> omega
theorem divmod_of (l i : Nat) (hl : l ≤ 7) : ∃ n j : Nat, n < l + 1 ∧ i = n + j * (l + 1) ∧ (i : Int) % ((l : Int) + 1) = (n : Int) ∧ (i : Int) / ((l : Int) + 1) = (j : Int) := by
  refine ⟨i % (l + 1), i / (l + 1), Nat.mod_lt _ (by omega), ?_, ?_, ?_⟩
  · have := Nat.mod_add_div i (l + 1); rw [Nat.mul_comm] at this; exact this.symm
  · simp
  · simp

/-! ### the nibbles, plainly -/
def hi8 (c : Int) : Int := bits .or .u8 0 (c * 16 % 256)
def both8 (c d : Int) : Int := bits .or .u8 (hi8 c) d
theorem tocv_val (code : Nat → Int) (k t : Nat) : tocv code k t = if k ≤ 2 * t then 0 else if k = 2 * t + 1 then hi8 (code (2 * t)) else both8 (code (2 * t)) (code (2 * t + 1)) := by
  induction k with
  | zero => simp [tocv]
  | succ k ih =>
    simp only [tocv, ih]
    by_cases e : t = k / 2
    · rw [if_pos e]
      by_cases hp : k % 2 = 0
      · have hk : k = 2 * t := by omega
        subst hk
        rw [if_pos (Nat.le_refl _), if_neg (by omega), if_pos rfl]
        simp [put8, hi8]
      · have hk : k = 2 * t + 1 := by omega
        subst hk
        rw [if_neg (by omega), if_pos rfl, if_neg (by omega), if_neg (by omega)]
        simp [put8, both8]
    · rw [if_neg e]
      by_cases h1 : k ≤ 2 * t
      · rw [if_pos h1, if_pos (by omega)]
      · rw [if_neg h1, if_neg (by omega), if_neg (by omega), if_neg (by omega)]

theorem fin16 (p : Int → Prop) (h : ∀ c : Fin 16, p ((c : Nat) : Int)) {c : Int} (h0 : 0 ≤ c) (h1 : c ≤ 15) : p c := by
  have := h ⟨c.toNat, by omega⟩
  rwa [show (((⟨c.toNat, by omega⟩ : Fin 16) : Nat) : Int) = c from by simp; omega] at this
theorem hi8_shr {c : Int} (h0 : 0 ≤ c) (h1 : c ≤ 15) : hi8 c / 16 = c := fin16 (fun c => hi8 c / 16 = c) (by decide +kernel) h0 h1
theorem hi8_and {c : Int} (h0 : 0 ≤ c) (h1 : c ≤ 15) : bits .and .u8 (hi8 c) 15 = 0 := fin16 (fun c => bits .and .u8 (hi8 c) 15 = 0) (by decide +kernel) h0 h1
theorem hi8_bd {c : Int} (h0 : 0 ≤ c) (h1 : c ≤ 15) : 0 ≤ hi8 c ∧ hi8 c ≤ 255 := fin16 (fun c => 0 ≤ hi8 c ∧ hi8 c ≤ 255) (by decide +kernel) h0 h1
theorem both8_all {c d : Int} (h0 : 0 ≤ c) (h1 : c ≤ 15) (h2 : 0 ≤ d) (h3 : d ≤ 15) : both8 c d / 16 = c ∧ both8 c d % 16 = d ∧ 0 ≤ both8 c d ∧ both8 c d ≤ 255 :=
  fin16 (fun c => ∀ d : Int, 0 ≤ d → d ≤ 15 → both8 c d / 16 = c ∧ both8 c d % 16 = d ∧ 0 ≤ both8 c d ∧ both8 c d ≤ 255) (fun c d h2 h3 =>
    fin16 (fun d => both8 (c : Nat) d / 16 = (c : Nat) ∧ both8 (c : Nat) d % 16 = d ∧ 0 ≤ both8 (c : Nat) d ∧ both8 (c : Nat) d ≤ 255)
      ((by decide +kernel : ∀ c d : Fin 16, both8 (c : Nat) (d : Nat) / 16 = (c : Nat) ∧ both8 (c : Nat) (d : Nat) % 16 = (d : Nat) ∧ 0 ≤ both8 (c : Nat) (d : Nat) ∧ both8 (c : Nat) (d : Nat) ≤ 255) c) h2 h3) h0 h1 d h2 h3
/-- What the ToC octet of frame j says of it. -/
theorem toc_says (code : Nat → Int) (b j : Nat) (hj : j < b) (hc : ∀ i, i < b → 0 ≤ code i ∧ code i ≤ 15) :
    0 ≤ tocv code b (j / 2) ∧ tocv code b (j / 2) ≤ 255 ∧ (j % 2 = 0 → tocv code b (j / 2) / 16 = code j) ∧ (j % 2 = 1 → tocv code b (j / 2) % 16 = code j) := by
  rw [tocv_val, if_neg (by omega)]
  by_cases e : b = 2 * (j / 2) + 1
  · rw [if_pos e]
    have hj2 : 2 * (j / 2) = j := by omega
    rw [hj2]
    obtain ⟨h0, h1⟩ := hc j hj
    exact ⟨(hi8_bd h0 h1).1, (hi8_bd h0 h1).2, fun _ => hi8_shr h0 h1, fun h => by omega⟩
  · rw [if_neg e]
    obtain ⟨h0, h1⟩ := hc (2 * (j / 2)) (by omega)
    obtain ⟨h2, h3⟩ := hc (2 * (j / 2) + 1) (by omega)
    obtain ⟨a1, a2, a3, a4⟩ := both8_all h0 h1 h2 h3
    refine ⟨a3, a4, fun h => ?_, fun h => ?_⟩
    · rw [a1]; rw [show 2 * (j / 2) = j by omega]
    · rw [a2]; rw [show 2 * (j / 2) + 1 = j by omega]
theorem toc_pad (code : Nat → Int) (b : Nat) (hb : b % 2 = 1) (hc : ∀ i, i < b → 0 ≤ code i ∧ code i ≤ 15) : bits .and .u8 (tocv code b (b / 2)) 15 = 0 := by
  rw [tocv_val, if_neg (by omega), if_pos (by omega)]
  obtain ⟨h0, h1⟩ := hc (2 * (b / 2)) (by omega)
  exact hi8_and h0 h1
/-- A payload's cells. -/
theorem Dealt.cells {w : World} {bp bf g cap nk ng b l : Nat} {m : Int} {tk : Bool} {Z : Nat → Int} {S : Nat → ByteArray} {T : Nat → Int} {Y : Nat → ByteArray} {OL : Nat → Nat} {OB : Nat → Nat → Int} {G : Nat → Nat} (h : Dealt w bp bf g cap nk ng b l m tk Z S T Y OL OB G) {n : Nat} (hn : n < l + 1) :
    G n < w.heap.size ∧ w.cell? ⟨G n, 0, none⟩ = some (.int .u8 (hdr0 l n)) ∧ w.cell? ⟨G n, 1, none⟩ = some (.int .u8 (hdr1 m b)) ∧ (∀ t, t < (b + 1) / 2 → w.cell? ⟨G n, 2 + t, none⟩ = some (.int .u8 (tocv (fun j => codeOf Z S Y nk (idx l n j)) b t))) ∧
      ∀ i k, i < b → k < OL (idx l n i) → w.cell? ⟨G n, offs b (fun j => OL (idx l n j)) i + k, none⟩ = some (.int .u8 (OB (idx l n i) k)) := by
  obtain ⟨cur, hc, h0, h1, h2, h3⟩ := (h.oct n hn).2.blk
  exact ⟨lt_of_block hc, by simp [World.cell?, hc, h0], by simp [World.cell?, hc, h1], fun t ht => by simp [World.cell?, hc, h2 t ht], fun i k hi hk => by simp [World.cell?, hc, h3 i k hi hk]⟩
theorem rel2 {w6 wr : World} {go n l q2 : Nat} (hro : wr.rowIs go 3 (l + 1) (icell (fun q => if q < n then q2 else 0))) (hb : Below go w6 wr) (o : Obj) :
    ((wr.setCell ⟨go, n, none⟩ (.int .i64 (q2 : Int))).alloc o).rowIs go 3 (l + 1) (icell (fun q => if q < n + 1 then q2 else 0)) ∧ Below go w6 ((wr.setCell ⟨go, n, none⟩ (.int .i64 (q2 : Int))).alloc o) := by
  have hlt := hro.lt
  have hsz : (wr.setCell ⟨go, n, none⟩ (.int .i64 (q2 : Int))).heap.size = wr.heap.size := World.size_setCell _ _ _
  have h2 : (wr.setCell ⟨go, n, none⟩ (.int .i64 (q2 : Int))).rowIs go 3 (l + 1) (icell (fun q => if q < n + 1 then q2 else 0)) := (istep (k := n) (v := q2) hro).congr (fun i hi => by
    unfold icell upd
    by_cases e : i = n
    · subst e; simp
    · simp only [if_neg e]
      by_cases h' : i < n
      · rw [if_pos h', if_pos (by omega)]
      · rw [if_neg h', if_neg (by omega)])
  exact ⟨h2.of_block (((Below.refl _ _).alloc (Nat.le_refl _) o).block _ (by rw [hsz]; exact hlt)), (hb.setCell (Nat.le_refl _) _).alloc (by rw [hsz]; omega) o⟩
theorem rel3 {w6 wr wa : World} {go l n j i b q o' : Nat} {OL : Nat → Nat} (hro : wr.rowIs go 3 (l + 1) (icell (fun q => offs b (fun j => OL (idx l q j)) (cnt l i q)))) (hb : Below go w6 wr) (hba : Below wr.heap.size wr wa) (l7 : l ≤ 7) (hn : n < l + 1) (hij : i = n + j * (l + 1)) (ho : o' = offs b (fun j => OL (idx l n j)) (j + 1)) :
    ((wa.drewN q).setCell ⟨go, n, none⟩ (.int .i64 (o' : Int))).rowIs go 3 (l + 1) (icell (fun q => offs b (fun j => OL (idx l q j)) (cnt l (i + 1) q))) ∧ Below go w6 ((wa.drewN q).setCell ⟨go, n, none⟩ (.int .i64 (o' : Int))) := by
  have hlt := hro.lt
  have h1 : (wa.drewN q).rowIs go 3 (l + 1) (icell (fun q => offs b (fun j => OL (idx l q j)) (cnt l i q))) := hro.of_block (hba.block _ hlt)
  refine ⟨(istep (k := n) (v := o') h1).congr (fun x hx => ?_), (below_drewN (hb.trans (hba.mono (by omega))) _).setCell (Nat.le_refl _) _⟩
  unfold icell upd
  by_cases e : x = n
  · subst e
    simp only [if_pos, (cnt_at l7 hn hij).2, ho]
  · simp only [if_neg e, cnt_other l7 hn hx e hij]
set_option maxHeartbeats 4000000 in
set_option maxRecDepth 100000 in
theorem law_two (ka ca ga : Option Addr) (nk ck nc cc ng cg : Nat) (B L m : Int) (tk : Bool) (S : Nat → ByteArray) (Z : Nat → Int) (T : Nat → Int) (Y : Nat → ByteArray) (OA : Nat → Option Addr) (OL OC : Nat → Nat) (OB : Nat → Nat → Int) (w : World)
    (hin : In7 w ka ca ga nk nc ng m S Z T Y OA OL OC OB) :
    Calls Try.prog 4 #[.slice ka nk ck, .slice ca nc cc, .int .i64 B, .int .i64 L, .int .u8 m, .slice ga ng cg, .bool tk] w fun e w' => e = .returned (.bool true) ∧ Below w.heap.size w w' := by
  have HIN : Hid (In7 w ka ca ga nk nc ng m S Z T Y OA OL OC OB) := hin
  have m0 := hin.m0
  have m1 := hin.m1
  clear hin
  go_enter Try.func4, Try.ntmps4
  go_wp2_with fail
  refine (bytes_two ka ca ga nk ck nc cc ng cg B L m tk S T Y OA OL OC w HIN.out.k HIN.out.g HIN.out.nkm HIN.out.ncm HIN.out.ngm HIN.out.ms HIN.out.my).mono ?_
  rintro e w1 ⟨ok, rfl, ⟨n1, rfl⟩, hok⟩
  cases ok
  · go_wp2
    go_ret
    exact ⟨rfl, below_drewN (Below.refl _ _) _⟩
  obtain ⟨s1, s2, s3, s4, s5⟩ := hok rfl
  have HS4 : Hid (∀ i, i < nk → (S i).size ≤ 1048576) := s4
  have HS5 : Hid (∀ i, i < ng → (Y i).size ≤ 1048576 ∧ OL i ≤ 1048576) := s5
  clear hok s4 s5
  go_wp2_with fail
  have hB1 : Below w.heap.size w (w.drewN n1) := below_drewN (Below.refl _ _) _
  refine (sizeOK_any ka ca ga nk ck nc cc ng cg S T Y OA OL OC (w.drewN n1) (HIN.out.k.later hB1) (HIN.out.g.later hB1) s1 s2 s3 HS4.out HS5.out).mono ?_
  rintro e w1 ⟨ok, rfl, ⟨n2, rfl⟩, _⟩
  clear hB1
  cases ok
  · go_wp2
    go_ret
    exact ⟨rfl, below_drewN (Below.refl _ _) _⟩
  obtain ⟨w2, hw2⟩ : ∃ w2, w2 = (w.drewN n1).drewN n2 := ⟨_, rfl⟩
  rw [← hw2]
  have HB2 : Hid (Below w.heap.size w w2) := by rw [hw2]; exact below_drewN (below_drewN (Below.refl _ _) _) _
  have HS2 : Hid (w2.heap.size = w.heap.size) := by rw [hw2]; rfl
  clear hw2
  go_wp2_with fail
  refine (domainOK_any ka ca ga nk ck nc cc ng cg B L m S Z T Y OA OL OC w2 (HIN.out.k.later HB2.out) (HIN.out.c.later HB2.out) (HIN.out.g.later HB2.out) s1 s2 s3 m0 m1).mono ?_
  rintro e w3 ⟨ok, rfl, ⟨n3, rfl⟩, hok⟩
  cases ok
  · clear hok
    go_wp2
    go_ret
    exact ⟨rfl, below_drewN HB2.out _⟩
  have hdom := hok rfl
  clear hok
  obtain ⟨b, rfl⟩ := Int.eq_ofNat_of_zero_le (show 0 ≤ B by have := hdom.b1; omega)
  obtain ⟨l, rfl⟩ := Int.eq_ofNat_of_zero_le hdom.l0
  have b1 : 1 ≤ b := by have := hdom.b1; omega
  have b2 : b ≤ 32 := by have := hdom.b2; omega
  have l7 : l ≤ 7 := by have := hdom.l7; omega
  have m7 := hdom.m7
  obtain rfl := hdom.len
  have hng : ng = (l + 1) * b := by have := hdom.grp; have h2 : ((l : Int) + 1) * (b : Int) = (((l + 1) * b : Nat) : Int) := by simp
                                    omega
  have HNG : Hid (ng = (l + 1) * b) := hng
  have hngb : b ≤ ng := by rw [hng]; exact Nat.le_mul_of_pos_left b (by omega)
  have HROW : Hid (∀ i, i < ng → frow S (Y i) nc < nc ∧ (S (frow S (Y i) nc)).toList = (Y i).toList) := hdom.row
  have HCO : Hid (∀ i, i < nc → Z i ≤ 15) := hdom.code
  have hnk : 0 < nc := by have := (hdom.row 0 (by omega)).1; omega
  clear hdom hng
  obtain ⟨w3, hw3⟩ : ∃ w3, w3 = w2.drewN n3 := ⟨_, rfl⟩
  rw [← hw3]
  have HB3 : Hid (Below w.heap.size w w3) := by rw [hw3]; exact below_drewN HB2.out _
  have HS3 : Hid (w3.heap.size = w.heap.size) := by rw [hw3]; exact HS2.out
  clear hw3 HB2 HS2
  rcases HIN.out.k with hz | ⟨bk, offk, rfl, hbk, hk⟩
  · omega
  rcases HIN.out.c with hz | ⟨bc, offc, rfl, hbc, hc⟩
  · omega
  rcases HIN.out.g with hz | ⟨bg, offg, rfl, hbg, hg⟩
  · omega
  have HK : Hid (∀ i, i < nc → w.cell? ⟨bk, offk + i, none⟩ = some (.string (S i))) := hk
  have HC : Hid (∀ i, i < nc → w.cell? ⟨bc, offc + i, none⟩ = some (.int .u8 (Z i))) := fun i hi => (hc i hi).1
  have HCB : Hid (∀ i, i < ng → 0 ≤ codeOf Z S Y nc i ∧ codeOf Z S Y nc i ≤ 15) := fun i hi => ⟨(hc _ (HROW.out i hi).1).2.1, HCO.out _ (HROW.out i hi).1⟩
  have HG : Hid (∀ i, i < ng → w.cell? ⟨bg, offg + i * 3, none⟩ = some (.int .u32 (T i)) ∧ w.cell? ⟨bg, offg + i * 3 + 1, none⟩ = some (.string (Y i)) ∧ w.cell? ⟨bg, offg + i * 3 + 2, none⟩ = some (.slice (OA i) (OL i) (OC i))) := hg
  have HO : Hid (∀ i, i < ng → VByt w (OA i) (OL i) (OB i) ∧ NilOK (OA i) (OL i) (OC i) ∧ OL i ≤ 1048576) := fun i hi => ⟨(HIN.out.o i hi).1, (HIN.out.o i hi).2, (HS5.out i hi).2⟩
  clear hk hc hg HIN HS4 HS5 HCO
  have hs3 : w.heap.size ≤ w3.heap.size := HB3.out.size
  have hmkC := mk_run Try.underlying25 info5 ng ng (Nat.le_refl _) (by omega) (by omega)
  go_wp2
  clear hmkC
  go_loopw [17] (fun i wr => ∃ k : Nat, k ≤ ng ∧ i = .int .i64 k ∧ Hid (wr.rowIs w3.heap.size 5 ng (fill8 (codeOf Z S Y nc) k)) ∧ Hid (Below w3.heap.size w3 wr)) (fun i _ => ng - (intOf i).toNat)
  case atStart => exact ⟨0, Nat.zero_le _, rfl, (by have := World.rowIs_made w3 (.int .u8 0) (ng * 1) 5; rw [Nat.mul_one] at this; exact this.congr (fun i _ => by simp [fill8])), (Below.refl _ _).alloc (Nat.le_refl _) _⟩
  case round =>
    obtain ⟨k, hk, rfl, hro, hb⟩ := hrel
    have HBW : Hid (Below w.heap.size w wr) := HB3.out.trans (hb.out.mono hs3)
    have hlr := hro.out.lt
    by_cases hkn : k < ng
    · have hkn' : (k : Int) < (ng : Int) := by omega
      obtain ⟨g0, g1, g2⟩ := HG.out k hkn
      have c1 := cell_later HBW.out g1
      obtain ⟨hf, he⟩ := HROW.out k hkn
      have HE : Hid ((S (frow S (Y k) nc)).toList = (Y k).toList) := he
      have hf' : ((frow S (Y k) nc : Nat) : Int) < (nc : Int) := by omega
      have cz := cell_later HBW.out (HC.out _ hf)
      have r0 := hro.out.cell hkn
      have f0 := hro.out.frozen k
      clear g0 g1 g2 he
      go_wp2_with fail
      refine (firstRow_any (some ⟨bk, offk, none⟩) nc ck S (Y k) wr (.inr ⟨bk, offk, rfl, by omega, fun i hi => cell_later HBW.out (HK.out i hi)⟩) (by unfold maxLen; omega)).mono ?_
      rintro e w' ⟨rfl, ⟨rfl, hno⟩ | ⟨rfl, hf2, he2⟩⟩
      · exact absurd HE.out (hno _ hf)
      · clear hf2 he2
        go_wp2
        go_roundw
        case rel => exact ⟨k + 1, by omega, by go_num, fill8_step hro.out, hb.out.setCell (Nat.le_refl _) _⟩
        case measure => simp [intOf]; omega
    · obtain rfl : ng = k := by omega
      rename World => w4
      have HC4 : Hid (w4.rowIs w3.heap.size 5 ng (fill8 (codeOf Z S Y nc) ng)) := hro.out
      have hs4 : w.heap.size ≤ w4.heap.size := HBW.out.size
      have h34 : w3.heap.size < w4.heap.size := hlr
      generalize w3.heap.size = gc at *
      clear hro hb HB3 HS3 hs3 hk hkn hlr
      go_wp2_with fail
      refine (packer_any bk offk bc offc bg offg nc ck cc ng cg b l m tk S Z T Y OA OL OC OB w4 (by omega) (by omega) (by omega) (fun i hi => cell_later HBW.out (HK.out i hi)) (fun i hi => cell_later HBW.out (HC.out i hi)) (fun i hi => ⟨cell_later HBW.out (HG.out i hi).1, cell_later HBW.out (HG.out i hi).2.1, cell_later HBW.out (HG.out i hi).2.2⟩) (fun i hi => ⟨(HO.out i hi).1.later HBW.out, (HO.out i hi).2⟩) s1 s3).mono ?_
      rintro e w5 ⟨bp, bkk, br, bf, FO, FC, rfl, hpk, hb5, hbpl⟩
      have HPK : Hid (Packed w5 bp bkk br bf nc ng b l m tk Z S T Y OL OB FO FC) := hpk
      have HB45 : Hid (Below w4.heap.size w4 w5) := hb5
      clear hpk hb5
      go_wp2_with fail
      refine (zzpack_any bp bkk br bf nc ng b l m tk Z S T Y OL OB FO FC w5 HPK.out.env b1 b2 l7 m0 m7 HNG.out s1 (fun i hi => (HO.out i hi).2.2) HROW.out).mono ?_
      rintro e w6 ⟨rfl, G, ⟨g, cap, hd⟩, hb6⟩
      have HD : Hid (Dealt w6 bp bf g cap nc ng b l m tk Z S T Y OL OB G) := hd
      have HB46 : Hid (Below w4.heap.size w4 w6) := HB45.out.trans (hb6.mono hbpl)
      have HB6 : Hid (Below w.heap.size w w6) := HBW.out.trans (HB46.out.mono hs4)
      have hs6 : w4.heap.size ≤ w6.heap.size := HB46.out.size
      have HC6 : Hid (w6.rowIs gc 5 ng (fill8 (codeOf Z S Y nc) ng)) := HC4.out.of_block (HB46.out.block _ h34)
      have hrd := hd.ready
      have hgr := hd.grp
      have htk := hd.talk
      clear hd hb6 HPK HB45 HB46 HC4 hbpl HBW
      go_wp2_with fail
      refine (ready_any bp (some ⟨g, 0, none⟩) (l + 1) cap w6 hrd).mono ?_
      rintro e w7 ⟨rfl, rfl⟩
      obtain ⟨tc, htc⟩ : ∃ tc, tc = (b + 1) / 2 := ⟨_, rfl⟩
      have htcI : (b : Int) / 2 + (b : Int) % 2 = (tc : Int) := by omega
      have tc1 : tc ≤ (b + 1) / 2 := by omega
      have tc2 : (b + 1) / 2 ≤ tc := by omega
      have HTC : Hid (tc = (b + 1) / 2) := htc
      have hmkO := mk_run Try.underlying41 info3 (l + 1) (l + 1) (Nat.le_refl _) (by omega) (by omega)
      have ec : ((l + 1 : Nat) : Int) = (l : Int) + 1 := by omega
      rw [ec] at hmkO
      clear htc ec
      go_wp2_with (first | (go_at_call 16; refine (groupLen_any bp (some ⟨bf, 0, none⟩) 0 ng _ (by exact hgr)).mono ?_; rintro e w' ⟨rfl, rfl⟩) | (go_at_call 17; refine (talking_any bp true _ (by exact htk)).mono ?_; rintro e w' ⟨rfl, rfl⟩))

      clear hmkO hgr htk hrd
      obtain ⟨go, hgo⟩ : ∃ go, go = w6.heap.size := ⟨_, rfl⟩
      have HGO : Hid (go = w6.heap.size) := hgo
      rw [← hgo]
      have hgo1 : w.heap.size ≤ go := by omega
      have hgc : gc < go := by omega
      obtain ⟨q2, hq2⟩ : ∃ q2, q2 = 2 + tc := ⟨_, rfl⟩
      have hq2I : (2 : Int) + (tc : Int) = (q2 : Int) := by omega
      obtain ⟨q1, hq1⟩ : ∃ q1, q1 = 1 + tc := ⟨_, rfl⟩
      have hq1I : (1 : Int) + (tc : Int) = (q1 : Int) := by omega
      have HQ2 : Hid (q2 = 2 + (b + 1) / 2) := (show q2 = 2 + (b + 1) / 2 by omega)
      have HQ1 : Hid (q1 = 1 + tc) := hq1
      have hq2m : q2 ≤ 100 := by omega
      have hq1m : q1 + 1 = q2 := by omega
      clear hgo hq2 hq1
      go_loopw [22] (fun i wr => ∃ n : Nat, n ≤ l + 1 ∧ i = .int .i64 n ∧ Hid (wr.rowIs go 3 (l + 1) (icell (fun q => if q < n then q2 else 0))) ∧ Hid (Below go w6 wr)) (fun i _ => l + 1 - (intOf i).toNat)
      case atStart =>
        refine ⟨0, Nat.zero_le _, rfl, ?_, ?_⟩
        · have := World.rowIs_made w6 (.int .i64 0) ((l + 1) * 1) 3
          rw [Nat.mul_one, ← HGO.out] at this
          exact this.congr (fun i _ => by simp [icell])
        · rw [HGO.out]; exact (Below.refl _ _).alloc (Nat.le_refl _) _
      case round =>
        obtain ⟨n, hn, rfl, hro, hb⟩ := hrel
        have hgw : go < wr.heap.size := hro.out.lt
        by_cases hlt : n < l + 1
        · have hlt' : (n : Int) < (l : Int) + 1 := by omega
          have hdr := HD.out.later (show Below w6.heap.size w6 wr by rw [← HGO.out]; exact hb.out)
          obtain ⟨a0, a1, a2, a3, a4⟩ := hdr.pays n hlt
          obtain ⟨hGn, o0, o1, o2, o3⟩ := hdr.cells hlt
          have HO2 : Hid (∀ t, t < (b + 1) / 2 → wr.cell? ⟨G n, 2 + t, none⟩ = some (.int .u8 (tocv (fun j => codeOf Z S Y nc (idx l n j)) b t))) := o2
          have hpl : q2 ≤ plen b l OL n := by
            have := offs_mono b (fun j => OL (idx l n j)) (Nat.zero_le b)
            simp only [plen]; simp only [offs] at this; have := HQ2.out; omega
          have hplm : plen b l OL n ≤ 100000000 := by
            have := offs_le b (fun j => OL (idx l n j)) b (fun i hi => (HO.out _ (idx_lt HNG.out hlt hi)).2.2)
            simp only [plen]; omega
          have hg := hdr.hi
          have r0 := hro.out.cell hlt
          have f0 := hro.out.frozen n
          have wl : IntKind.u8.wrap (l : Int) = (l : Int) := u8w l (by omega)
          have wn : IntKind.u8.wrap (n : Int) = (n : Int) := u8w n (by omega)
          have u1 : IntKind.u8.wrap ((b : Int) - 1) = (b : Int) - 1 := by rw [IntKind.wrap_u8]; omega
          obtain ⟨nb, hnb, ha1⟩ : ∃ nb : Bool, ((n : Int) == 0) = nb ∧ wr.cell? ⟨g, n * 5 + 1, none⟩ = some (.bool (nb && !tk)) := by
            refine ⟨_, rfl, ?_⟩
            rw [a1]
            by_cases h : n = 0
            · subst h; simp [tkn]
            · have h1 : ((n : Int) == 0) = false := by rw [beq_eq_false_iff_ne]; omega
              rw [h1]; simp [tkn]; omega
          simp only [hdr0, hdr1] at o0 o1
          clear a1 o2 o3 hdr
          generalize plen b l OL n = pl at *
          clear htcI
          rcases (show b % 2 = 0 ∨ b % 2 = 1 by omega) with hpar | hpar
          · have hbI : (b : Int) % 2 = 0 := by omega
            clear HO2
            cases nb
            · as_aux_lemma =>
              go_wp2
              go_roundw
              case rel => exact ⟨n + 1, by omega, by go_num, (rel2 hro.out hb.out _).1, (rel2 hro.out hb.out _).2⟩
              case measure => simp [intOf]; omega
            · as_aux_lemma =>
              go_wp2
              go_roundw
              case rel => exact ⟨n + 1, by omega, by go_num, (rel2 hro.out hb.out _).1, (rel2 hro.out hb.out _).2⟩
              case measure => simp [intOf]; omega
          · have hbI : (b : Int) % 2 = 1 := by omega
            have hpv := HO2.out (b / 2) (by omega)
            have hpa := toc_pad (fun j => codeOf Z S Y nc (idx l n j)) b hpar (fun i hi => HCB.out _ (idx_lt HNG.out hlt hi))
            rw [show 2 + b / 2 = q1 by have := HQ1.out; have := HTC.out; omega] at hpv
            generalize tocv (fun j => codeOf Z S Y nc (idx l n j)) b (b / 2) = v at *
            clear HO2
            cases nb
            · as_aux_lemma =>
              go_wp2
              go_roundw
              case rel => exact ⟨n + 1, by omega, by go_num, (rel2 hro.out hb.out _).1, (rel2 hro.out hb.out _).2⟩
              case measure => simp [intOf]; omega
            · as_aux_lemma =>
              go_wp2
              go_roundw
              case rel => exact ⟨n + 1, by omega, by go_num, (rel2 hro.out hb.out _).1, (rel2 hro.out hb.out _).2⟩
              case measure => simp [intOf]; omega
        · have hne : n = l + 1 := by omega
          rename World => w7
          have HR7 : Hid (w7.rowIs go 3 (l + 1) (icell (fun q => offs b (fun j => OL (idx l q j)) (cnt l 0 q)))) := hro.out.congr (fun i hi => by
            simp only [icell, if_pos (show i < n by omega), cnt_zero l7 hi, offs]; rw [HQ2.out])
          have HB7 : Hid (Below go w6 w7) := hb.out
          have HNE : Hid (n = l + 1) := hne
          have hge : ¬ n < l + 1 := by omega
          clear hro hb hn hlt hne hq1I hq2I hq2m hq1m HQ1 HQ2 HTC tc1 tc2 htcI
          go_wp2
          go_loopw [25] (fun i wr => ∃ k : Nat, k ≤ ng ∧ i = .int .i64 k ∧ Hid (wr.rowIs go 3 (l + 1) (icell (fun q => offs b (fun j => OL (idx l q j)) (cnt l k q)))) ∧ Hid (Below go w6 wr)) (fun i _ => ng - (intOf i).toNat)
          case atStart => exact ⟨0, Nat.zero_le _, rfl, HR7.out, HB7.out⟩
          case round =>
            obtain ⟨i, hi, rfl, hro, hb⟩ := hrel
            have hgw : go < wr.heap.size := hro.out.lt
            by_cases hin : i < ng
            · have hin' : (i : Int) < (ng : Int) := by omega
              obtain ⟨n, j, hn, hij, hrem, hquo⟩ := divmod_of l i l7
              have hjb : j < b := by
                refine Nat.lt_of_not_le fun h => ?_
                have h1 := Nat.mul_le_mul_right (l + 1) h
                have h2 := HNG.out
                rw [Nat.mul_comm] at h2
                omega
              have hjb' : (j : Int) < (b : Int) := by omega
              have hn' : (n : Int) < (l : Int) + 1 := by omega
              have eidx : idx l n j = i := hij.symm
              have HIJ : Hid (i = n + j * (l + 1)) := hij
              have hdr := HD.out.later (show Below w6.heap.size w6 wr by rw [← HGO.out]; exact hb.out)
              obtain ⟨a0, a1, a2, a3, a4⟩ := hdr.pays n hn
              have HDR : Hid (Dealt wr bp bf g cap nc ng b l m tk Z S T Y OL OB G) := hdr
              clear hij hdr
              go_wp2
              rw [hrem]
              have hdr := HDR.out
              have hij := HIJ.out
              clear HDR
              obtain ⟨hGn, o0, o1, o2, o3⟩ := hdr.cells hn
              obtain ⟨cn, _⟩ := cnt_at l7 hn hij
              have HBW : Hid (Below w.heap.size w wr) := HB6.out.trans (hb.out.mono hgo1)
              have hgr := hdr.hi
              have c0 := cell_later HBW.out (HG.out i hin).1
              have c2 := cell_later HBW.out (HG.out i hin).2.2
              have r0 := hro.out.cell hn
              have f0 := hro.out.frozen n
              have z0 := (HC6.out.of_block (hb.out.block _ hgc)).cell hin
              have HV : Hid (VByt wr (OA i) (OL i) (OB i)) := (HO.out i hin).1.later HBW.out
              have holm := (HO.out i hin).2.2
              have t0 := o2 (j / 2) (by omega)
              obtain ⟨v0, v1, vE, vO⟩ := toc_says (fun j => codeOf Z S Y nc (idx l n j)) b j hjb (fun i hi => HCB.out _ (idx_lt HNG.out hn hi))
              have hbody := fun k hk => o3 j k hjb hk
              have hoend : offs b (fun j => OL (idx l n j)) j + OL i ≤ plen b l OL n := by
                have := offs_mono b (fun j => OL (idx l n j)) (show j + 1 ≤ b by omega)
                simp only [offs, eidx] at this
                exact this
              have hoge : 2 + (b + 1) / 2 ≤ offs b (fun j => OL (idx l n j)) j := by
                have := offs_mono b (fun j => OL (idx l n j)) (Nat.zero_le j)
                simpa only [offs] using this
              have hplm : plen b l OL n ≤ 100000000 := by
                have := offs_le b (fun j => OL (idx l n j)) b (fun i hi => (HO.out _ (idx_lt HNG.out hn hi)).2.2)
                simp only [plen]; omega
              have HOE : Hid (offs b (fun j => OL (idx l n j)) (j + 1) = offs b (fun j => OL (idx l n j)) j + OL i) := by show _ = _; simp only [offs, eidx]
              have hT0 : j = 0 → T i = T n := fun h => by rw [← eidx, h]; simp [idx]
              have hT3 : j = b - 1 → T i = T (idx l n (b - 1)) := fun h => by rw [← eidx, h]
              have hz : fill8 (codeOf Z S Y nc) ng i = .int .u8 (codeOf Z S Y nc i) := by unfold fill8; rw [if_pos hin]
              simp only [icell, cn] at r0
              simp only [eidx] at vE vO hbody
              rw [hz] at z0
              have HBODY : Hid (∀ k, k < OL i → wr.cell? ⟨G n, offs b (fun j => OL (idx l n j)) j + k, none⟩ = some (.int .u8 (OB i k))) := hbody
              clear hij o0 o1 o2 o3 hdr hz hbody
              obtain ⟨p2, hp2⟩ : ∃ p2, p2 = 2 + j / 2 := ⟨_, rfl⟩
              have hp2I : (2 : Int) + (j : Int) / 2 = (p2 : Int) := by omega
              have hp2l : p2 < plen b l OL n := by omega
              rw [← hp2] at t0
              clear hp2 hoge
              generalize plen b l OL n = pl at *
              generalize offs b (fun j => OL (idx l n j)) j = o at *
              generalize tocv (fun j => codeOf Z S Y nc (idx l n j)) b (j / 2) = v at *
              generalize codeOf Z S Y nc i = cd at *
              generalize T n = tn at *
              generalize T i = ti at *
              generalize T (idx l n (b - 1)) = t3 at *
              generalize (!tkn tk n) = mk at *
              obtain ⟨wa, hwa⟩ : ∃ wa, wa = wr.alloc (.cells #[.int .u32 tn, .bool mk, .int .i64 b, .int .u32 t3, .slice (some ⟨G n, 0, none⟩) pl pl] 43) := ⟨_, rfl⟩
              rw [← hwa]
              have HBA : Hid (Below wr.heap.size wr wa) := by rw [hwa]; exact (Below.refl _ _).alloc (Nat.le_refl _) _
              have lP0 : wa.cell? ⟨wr.heap.size, 0, none⟩ = some (.int .u32 tn) := by rw [hwa]; rw [World.cell?_alloc_at _ _ _ _ rfl]; rfl
              have lP3 : wa.cell? ⟨wr.heap.size, 3, none⟩ = some (.int .u32 t3) := by rw [hwa]; rw [World.cell?_alloc_at _ _ _ _ rfl]; rfl
              have lP4 : wa.cell? ⟨wr.heap.size, 4, none⟩ = some (.slice (some ⟨G n, 0, none⟩) pl pl) := by rw [hwa]; rw [World.cell?_alloc_at _ _ _ _ rfl]; rfl
              have d0 := cell_later HBA.out c0
              have d2 := cell_later HBA.out c2
              have d3 := cell_later HBA.out r0
              have d4 := cell_later HBA.out z0
              have d5 := cell_later HBA.out t0
              have HVA : Hid (VByt wa (OA i) (OL i) (OB i)) := HV.out.later HBA.out
              have HBODA : Hid (∀ k, k < OL i → wa.cell? ⟨G n, o + k, none⟩ = some (.int .u8 (OB i k))) := fun k hk => cell_later HBA.out (HBODY.out k hk)
              have hfa : wa.frozen? ⟨go, n, none⟩ = false := (HBA.out.frozen (p := ⟨go, n, none⟩) hgw).trans f0
              clear hwa c0 c2 r0 z0 t0 HV HBODY a0 a1 a2 a3 a4 hrem hquo f0
              generalize OL i = ol at *
              generalize OA i = oa at *
              generalize OC i = oc at *
              obtain ⟨e0, he0, hT0⟩ : ∃ e0 : Bool, ((j : Int) == 0) = e0 ∧ (e0 = true → ti = tn) := ⟨_, rfl, fun h => hT0 (by simpa using h)⟩
              obtain ⟨e1, he1, hT3⟩ : ∃ e1 : Bool, ((j : Int) == (b : Int) - 1) = e1 ∧ (e1 = true → ti = t3) := ⟨_, rfl, fun h => hT3 (by have := beq_iff_eq.mp h; omega)⟩
              cases e0 <;> cases e1 <;> rcases (show j % 2 = 0 ∨ j % 2 = 1 by omega) with hpar | hpar
              · as_aux_lemma =>
                have hjI : (j : Int) % 2 = 0 := by omega
                have hnib := vE hpar
                clear hT0
                clear hT3
                clear vE vO
                go_quiet (fail)
                go_wp2
                go_quiet (fail)
                go_wp2
                clear he0 he1 hjI hnib hp2I hp2l hpar v0 v1 d0 d2 d4 d5 lP0 lP3 hjb'
                go_quiet (fail)
                go_wp2
                go_loopw [32] (fun x wx => ∃ (k q : Nat), k ≤ ol ∧ x = .int .i64 k ∧ wx = wa.drewN q) (fun x _ => ol - (intOf x).toNat)
                case atStart => exact ⟨0, _, Nat.zero_le _, rfl, World.drewN_drewN _ _ _⟩
                case round =>
                  obtain ⟨k, q, hk, rfl, rfl⟩ := hrel
                  by_cases hkl : k < ol
                  · have hkl' : (k : Int) < (ol : Int) := by omega
                    rcases HVA.out with hz0 | ⟨ba, offa, hoa, hba, hcs⟩
                    · omega
                    have y0 := (hcs k hkl).1
                    have y1 := HBODA.out k hkl
                    obtain ⟨pk, hpk⟩ : ∃ pk, pk = o + k := ⟨_, rfl⟩
                    rw [← hpk] at y1
                    have hpkI : (o : Int) + (k : Int) = (pk : Int) := by omega
                    have hpkl : pk < pl := by omega
                    clear hpk hcs
                    go_wp2
                    go_quiet (fail)
                    go_wp2
                    go_roundw
                    case rel => exact ⟨k + 1, _, by omega, by go_num, rfl⟩
                    case measure => simp [intOf]; omega
                  · obtain ⟨oz, hoz⟩ : ∃ oz, oz = o + ol := ⟨_, rfl⟩
                    have hozI : (o : Int) + (ol : Int) = (oz : Int) := by omega
                    have HOZ : Hid (oz = offs b (fun j => OL (idx l n j)) (j + 1)) := by show oz = _; rw [HOE.out]; exact hoz
                    clear hoz
                    go_wp2
                    go_roundw
                    case rel => exact ⟨i + 1, by omega, by go_num, (rel3 hro.out hb.out HBA.out l7 hn HIJ.out HOZ.out).1, (rel3 hro.out hb.out HBA.out l7 hn HIJ.out HOZ.out).2⟩
                    case measure => simp [intOf]; omega
              · as_aux_lemma =>
                have hjI : (j : Int) % 2 = 1 := by omega
                have hnib := vO hpar
                clear hT0
                clear hT3
                clear vE vO
                go_quiet (fail)
                go_wp2
                go_quiet (fail)
                go_wp2
                clear he0 he1 hjI hnib hp2I hp2l hpar v0 v1 d0 d2 d4 d5 lP0 lP3 hjb'
                go_quiet (fail)
                go_wp2
                go_loopw [32] (fun x wx => ∃ (k q : Nat), k ≤ ol ∧ x = .int .i64 k ∧ wx = wa.drewN q) (fun x _ => ol - (intOf x).toNat)
                case atStart => exact ⟨0, _, Nat.zero_le _, rfl, World.drewN_drewN _ _ _⟩
                case round =>
                  obtain ⟨k, q, hk, rfl, rfl⟩ := hrel
                  by_cases hkl : k < ol
                  · have hkl' : (k : Int) < (ol : Int) := by omega
                    rcases HVA.out with hz0 | ⟨ba, offa, hoa, hba, hcs⟩
                    · omega
                    have y0 := (hcs k hkl).1
                    have y1 := HBODA.out k hkl
                    obtain ⟨pk, hpk⟩ : ∃ pk, pk = o + k := ⟨_, rfl⟩
                    rw [← hpk] at y1
                    have hpkI : (o : Int) + (k : Int) = (pk : Int) := by omega
                    have hpkl : pk < pl := by omega
                    clear hpk hcs
                    go_wp2
                    go_quiet (fail)
                    go_wp2
                    go_roundw
                    case rel => exact ⟨k + 1, _, by omega, by go_num, rfl⟩
                    case measure => simp [intOf]; omega
                  · obtain ⟨oz, hoz⟩ : ∃ oz, oz = o + ol := ⟨_, rfl⟩
                    have hozI : (o : Int) + (ol : Int) = (oz : Int) := by omega
                    have HOZ : Hid (oz = offs b (fun j => OL (idx l n j)) (j + 1)) := by show oz = _; rw [HOE.out]; exact hoz
                    clear hoz
                    go_wp2
                    go_roundw
                    case rel => exact ⟨i + 1, by omega, by go_num, (rel3 hro.out hb.out HBA.out l7 hn HIJ.out HOZ.out).1, (rel3 hro.out hb.out HBA.out l7 hn HIJ.out HOZ.out).2⟩
                    case measure => simp [intOf]; omega
              · as_aux_lemma =>
                have hjI : (j : Int) % 2 = 0 := by omega
                have hnib := vE hpar
                clear hT0
                obtain rfl := hT3 rfl
                clear vE vO
                go_quiet (fail)
                go_wp2
                go_quiet (fail)
                go_wp2
                clear he0 he1 hjI hnib hp2I hp2l hpar v0 v1 d0 d2 d4 d5 lP0 lP3 hjb'
                go_quiet (fail)
                go_wp2
                go_loopw [32] (fun x wx => ∃ (k q : Nat), k ≤ ol ∧ x = .int .i64 k ∧ wx = wa.drewN q) (fun x _ => ol - (intOf x).toNat)
                case atStart => exact ⟨0, _, Nat.zero_le _, rfl, World.drewN_drewN _ _ _⟩
                case round =>
                  obtain ⟨k, q, hk, rfl, rfl⟩ := hrel
                  by_cases hkl : k < ol
                  · have hkl' : (k : Int) < (ol : Int) := by omega
                    rcases HVA.out with hz0 | ⟨ba, offa, hoa, hba, hcs⟩
                    · omega
                    have y0 := (hcs k hkl).1
                    have y1 := HBODA.out k hkl
                    obtain ⟨pk, hpk⟩ : ∃ pk, pk = o + k := ⟨_, rfl⟩
                    rw [← hpk] at y1
                    have hpkI : (o : Int) + (k : Int) = (pk : Int) := by omega
                    have hpkl : pk < pl := by omega
                    clear hpk hcs
                    go_wp2
                    go_quiet (fail)
                    go_wp2
                    go_roundw
                    case rel => exact ⟨k + 1, _, by omega, by go_num, rfl⟩
                    case measure => simp [intOf]; omega
                  · obtain ⟨oz, hoz⟩ : ∃ oz, oz = o + ol := ⟨_, rfl⟩
                    have hozI : (o : Int) + (ol : Int) = (oz : Int) := by omega
                    have HOZ : Hid (oz = offs b (fun j => OL (idx l n j)) (j + 1)) := by show oz = _; rw [HOE.out]; exact hoz
                    clear hoz
                    go_wp2
                    go_roundw
                    case rel => exact ⟨i + 1, by omega, by go_num, (rel3 hro.out hb.out HBA.out l7 hn HIJ.out HOZ.out).1, (rel3 hro.out hb.out HBA.out l7 hn HIJ.out HOZ.out).2⟩
                    case measure => simp [intOf]; omega
              · as_aux_lemma =>
                have hjI : (j : Int) % 2 = 1 := by omega
                have hnib := vO hpar
                clear hT0
                obtain rfl := hT3 rfl
                clear vE vO
                go_quiet (fail)
                go_wp2
                go_quiet (fail)
                go_wp2
                clear he0 he1 hjI hnib hp2I hp2l hpar v0 v1 d0 d2 d4 d5 lP0 lP3 hjb'
                go_quiet (fail)
                go_wp2
                go_loopw [32] (fun x wx => ∃ (k q : Nat), k ≤ ol ∧ x = .int .i64 k ∧ wx = wa.drewN q) (fun x _ => ol - (intOf x).toNat)
                case atStart => exact ⟨0, _, Nat.zero_le _, rfl, World.drewN_drewN _ _ _⟩
                case round =>
                  obtain ⟨k, q, hk, rfl, rfl⟩ := hrel
                  by_cases hkl : k < ol
                  · have hkl' : (k : Int) < (ol : Int) := by omega
                    rcases HVA.out with hz0 | ⟨ba, offa, hoa, hba, hcs⟩
                    · omega
                    have y0 := (hcs k hkl).1
                    have y1 := HBODA.out k hkl
                    obtain ⟨pk, hpk⟩ : ∃ pk, pk = o + k := ⟨_, rfl⟩
                    rw [← hpk] at y1
                    have hpkI : (o : Int) + (k : Int) = (pk : Int) := by omega
                    have hpkl : pk < pl := by omega
                    clear hpk hcs
                    go_wp2
                    go_quiet (fail)
                    go_wp2
                    go_roundw
                    case rel => exact ⟨k + 1, _, by omega, by go_num, rfl⟩
                    case measure => simp [intOf]; omega
                  · obtain ⟨oz, hoz⟩ : ∃ oz, oz = o + ol := ⟨_, rfl⟩
                    have hozI : (o : Int) + (ol : Int) = (oz : Int) := by omega
                    have HOZ : Hid (oz = offs b (fun j => OL (idx l n j)) (j + 1)) := by show oz = _; rw [HOE.out]; exact hoz
                    clear hoz
                    go_wp2
                    go_roundw
                    case rel => exact ⟨i + 1, by omega, by go_num, (rel3 hro.out hb.out HBA.out l7 hn HIJ.out HOZ.out).1, (rel3 hro.out hb.out HBA.out l7 hn HIJ.out HOZ.out).2⟩
                    case measure => simp [intOf]; omega
              · as_aux_lemma =>
                have hjI : (j : Int) % 2 = 0 := by omega
                have hnib := vE hpar
                obtain rfl := hT0 rfl
                clear hT3
                clear vE vO
                go_quiet (fail)
                go_wp2
                go_quiet (fail)
                go_wp2
                clear he0 he1 hjI hnib hp2I hp2l hpar v0 v1 d0 d2 d4 d5 lP0 lP3 hjb'
                go_quiet (fail)
                go_wp2
                go_loopw [32] (fun x wx => ∃ (k q : Nat), k ≤ ol ∧ x = .int .i64 k ∧ wx = wa.drewN q) (fun x _ => ol - (intOf x).toNat)
                case atStart => exact ⟨0, _, Nat.zero_le _, rfl, World.drewN_drewN _ _ _⟩
                case round =>
                  obtain ⟨k, q, hk, rfl, rfl⟩ := hrel
                  by_cases hkl : k < ol
                  · have hkl' : (k : Int) < (ol : Int) := by omega
                    rcases HVA.out with hz0 | ⟨ba, offa, hoa, hba, hcs⟩
                    · omega
                    have y0 := (hcs k hkl).1
                    have y1 := HBODA.out k hkl
                    obtain ⟨pk, hpk⟩ : ∃ pk, pk = o + k := ⟨_, rfl⟩
                    rw [← hpk] at y1
                    have hpkI : (o : Int) + (k : Int) = (pk : Int) := by omega
                    have hpkl : pk < pl := by omega
                    clear hpk hcs
                    go_wp2
                    go_quiet (fail)
                    go_wp2
                    go_roundw
                    case rel => exact ⟨k + 1, _, by omega, by go_num, rfl⟩
                    case measure => simp [intOf]; omega
                  · obtain ⟨oz, hoz⟩ : ∃ oz, oz = o + ol := ⟨_, rfl⟩
                    have hozI : (o : Int) + (ol : Int) = (oz : Int) := by omega
                    have HOZ : Hid (oz = offs b (fun j => OL (idx l n j)) (j + 1)) := by show oz = _; rw [HOE.out]; exact hoz
                    clear hoz
                    go_wp2
                    go_roundw
                    case rel => exact ⟨i + 1, by omega, by go_num, (rel3 hro.out hb.out HBA.out l7 hn HIJ.out HOZ.out).1, (rel3 hro.out hb.out HBA.out l7 hn HIJ.out HOZ.out).2⟩
                    case measure => simp [intOf]; omega
              · as_aux_lemma =>
                have hjI : (j : Int) % 2 = 1 := by omega
                have hnib := vO hpar
                obtain rfl := hT0 rfl
                clear hT3
                clear vE vO
                go_quiet (fail)
                go_wp2
                go_quiet (fail)
                go_wp2
                clear he0 he1 hjI hnib hp2I hp2l hpar v0 v1 d0 d2 d4 d5 lP0 lP3 hjb'
                go_quiet (fail)
                go_wp2
                go_loopw [32] (fun x wx => ∃ (k q : Nat), k ≤ ol ∧ x = .int .i64 k ∧ wx = wa.drewN q) (fun x _ => ol - (intOf x).toNat)
                case atStart => exact ⟨0, _, Nat.zero_le _, rfl, World.drewN_drewN _ _ _⟩
                case round =>
                  obtain ⟨k, q, hk, rfl, rfl⟩ := hrel
                  by_cases hkl : k < ol
                  · have hkl' : (k : Int) < (ol : Int) := by omega
                    rcases HVA.out with hz0 | ⟨ba, offa, hoa, hba, hcs⟩
                    · omega
                    have y0 := (hcs k hkl).1
                    have y1 := HBODA.out k hkl
                    obtain ⟨pk, hpk⟩ : ∃ pk, pk = o + k := ⟨_, rfl⟩
                    rw [← hpk] at y1
                    have hpkI : (o : Int) + (k : Int) = (pk : Int) := by omega
                    have hpkl : pk < pl := by omega
                    clear hpk hcs
                    go_wp2
                    go_quiet (fail)
                    go_wp2
                    go_roundw
                    case rel => exact ⟨k + 1, _, by omega, by go_num, rfl⟩
                    case measure => simp [intOf]; omega
                  · obtain ⟨oz, hoz⟩ : ∃ oz, oz = o + ol := ⟨_, rfl⟩
                    have hozI : (o : Int) + (ol : Int) = (oz : Int) := by omega
                    have HOZ : Hid (oz = offs b (fun j => OL (idx l n j)) (j + 1)) := by show oz = _; rw [HOE.out]; exact hoz
                    clear hoz
                    go_wp2
                    go_roundw
                    case rel => exact ⟨i + 1, by omega, by go_num, (rel3 hro.out hb.out HBA.out l7 hn HIJ.out HOZ.out).1, (rel3 hro.out hb.out HBA.out l7 hn HIJ.out HOZ.out).2⟩
                    case measure => simp [intOf]; omega
              · as_aux_lemma =>
                have hjI : (j : Int) % 2 = 0 := by omega
                have hnib := vE hpar
                obtain rfl := hT0 rfl
                obtain rfl := hT3 rfl
                clear vE vO
                go_quiet (fail)
                go_wp2
                go_quiet (fail)
                go_wp2
                clear he0 he1 hjI hnib hp2I hp2l hpar v0 v1 d0 d2 d4 d5 lP0 lP3 hjb'
                go_quiet (fail)
                go_wp2
                go_loopw [32] (fun x wx => ∃ (k q : Nat), k ≤ ol ∧ x = .int .i64 k ∧ wx = wa.drewN q) (fun x _ => ol - (intOf x).toNat)
                case atStart => exact ⟨0, _, Nat.zero_le _, rfl, World.drewN_drewN _ _ _⟩
                case round =>
                  obtain ⟨k, q, hk, rfl, rfl⟩ := hrel
                  by_cases hkl : k < ol
                  · have hkl' : (k : Int) < (ol : Int) := by omega
                    rcases HVA.out with hz0 | ⟨ba, offa, hoa, hba, hcs⟩
                    · omega
                    have y0 := (hcs k hkl).1
                    have y1 := HBODA.out k hkl
                    obtain ⟨pk, hpk⟩ : ∃ pk, pk = o + k := ⟨_, rfl⟩
                    rw [← hpk] at y1
                    have hpkI : (o : Int) + (k : Int) = (pk : Int) := by omega
                    have hpkl : pk < pl := by omega
                    clear hpk hcs
                    go_wp2
                    go_quiet (fail)
                    go_wp2
                    go_roundw
                    case rel => exact ⟨k + 1, _, by omega, by go_num, rfl⟩
                    case measure => simp [intOf]; omega
                  · obtain ⟨oz, hoz⟩ : ∃ oz, oz = o + ol := ⟨_, rfl⟩
                    have hozI : (o : Int) + (ol : Int) = (oz : Int) := by omega
                    have HOZ : Hid (oz = offs b (fun j => OL (idx l n j)) (j + 1)) := by show oz = _; rw [HOE.out]; exact hoz
                    clear hoz
                    go_wp2
                    go_roundw
                    case rel => exact ⟨i + 1, by omega, by go_num, (rel3 hro.out hb.out HBA.out l7 hn HIJ.out HOZ.out).1, (rel3 hro.out hb.out HBA.out l7 hn HIJ.out HOZ.out).2⟩
                    case measure => simp [intOf]; omega
              · as_aux_lemma =>
                have hjI : (j : Int) % 2 = 1 := by omega
                have hnib := vO hpar
                obtain rfl := hT0 rfl
                obtain rfl := hT3 rfl
                clear vE vO
                go_quiet (fail)
                go_wp2
                go_quiet (fail)
                go_wp2
                clear he0 he1 hjI hnib hp2I hp2l hpar v0 v1 d0 d2 d4 d5 lP0 lP3 hjb'
                go_quiet (fail)
                go_wp2
                go_loopw [32] (fun x wx => ∃ (k q : Nat), k ≤ ol ∧ x = .int .i64 k ∧ wx = wa.drewN q) (fun x _ => ol - (intOf x).toNat)
                case atStart => exact ⟨0, _, Nat.zero_le _, rfl, World.drewN_drewN _ _ _⟩
                case round =>
                  obtain ⟨k, q, hk, rfl, rfl⟩ := hrel
                  by_cases hkl : k < ol
                  · have hkl' : (k : Int) < (ol : Int) := by omega
                    rcases HVA.out with hz0 | ⟨ba, offa, hoa, hba, hcs⟩
                    · omega
                    have y0 := (hcs k hkl).1
                    have y1 := HBODA.out k hkl
                    obtain ⟨pk, hpk⟩ : ∃ pk, pk = o + k := ⟨_, rfl⟩
                    rw [← hpk] at y1
                    have hpkI : (o : Int) + (k : Int) = (pk : Int) := by omega
                    have hpkl : pk < pl := by omega
                    clear hpk hcs
                    go_wp2
                    go_quiet (fail)
                    go_wp2
                    go_roundw
                    case rel => exact ⟨k + 1, _, by omega, by go_num, rfl⟩
                    case measure => simp [intOf]; omega
                  · obtain ⟨oz, hoz⟩ : ∃ oz, oz = o + ol := ⟨_, rfl⟩
                    have hozI : (o : Int) + (ol : Int) = (oz : Int) := by omega
                    have HOZ : Hid (oz = offs b (fun j => OL (idx l n j)) (j + 1)) := by show oz = _; rw [HOE.out]; exact hoz
                    clear hoz
                    go_wp2
                    go_roundw
                    case rel => exact ⟨i + 1, by omega, by go_num, (rel3 hro.out hb.out HBA.out l7 hn HIJ.out HOZ.out).1, (rel3 hro.out hb.out HBA.out l7 hn HIJ.out HOZ.out).2⟩
                    case measure => simp [intOf]; omega
            · obtain rfl : ng = i := by omega
              rename World => w8
              have HP8 : Hid (w8.rowIs go 3 (l + 1) (icell (plen b l OL))) := hro.out.congr (fun x hx => by
                simp only [icell, plen]; rw [show cnt l ng x = b by rw [HNG.out]; exact cnt_end l7 hx])
              have HBW : Hid (Below w.heap.size w w8) := HB6.out.trans (hb.out.mono hgo1)
              have HD8 : Hid (Dealt w8 bp bf g cap nc ng b l m tk Z S T Y OL OB G) := HD.out.later (show Below w6.heap.size w6 w8 by rw [← HGO.out]; exact hb.out)
              clear hro hb hi hin
              go_wp2
              go_loopw [33] (fun x wx => ∃ (k q : Nat), k ≤ l + 1 ∧ x = .int .i64 k ∧ wx = w8.drewN q) (fun x _ => l + 1 - (intOf x).toNat)
              case atStart => exact ⟨0, 0, Nat.zero_le _, rfl, rfl⟩
              case round =>
                obtain ⟨k, q, hk, rfl, rfl⟩ := hrel
                by_cases hkl : k < l + 1
                · have hkl' : (k : Int) < (l : Int) + 1 := by omega
                  obtain ⟨_, _, _, _, a4⟩ := HD8.out.pays k hkl
                  have r0 := HP8.out.cell hkl
                  simp only [icell] at r0
                  have hplm : plen b l OL k ≤ 100000000 := by
                    have := offs_le b (fun j => OL (idx l k j)) b (fun i hi => (HO.out _ (idx_lt HNG.out hkl hi)).2.2)
                    simp only [plen]; omega
                  generalize plen b l OL k = pl at *
                  go_wp2
                  go_quiet (fail)
                  go_wp2
                  go_roundw
                  case rel => exact ⟨k + 1, _, by omega, by go_num, rfl⟩
                  case measure => simp [intOf]; omega
                · go_wp2
                  go_ret
                  exact ⟨rfl, below_drewN HBW.out _⟩
end Go.Proofs.Qxb6614196a
