/-
  'FnPackGroupInterleavedPayloadIsBundledPayloadOfItsSlice': the walk.
-/
import Derived.Test.Qxb6614196aChk
import Derived.Test.Qxb6614196aPack
namespace Go.Proofs.Qxb6614196a
open Go.ChangeShapes Go.WideShapes Go.ChangeAt Go.RowKit
set_option linter.unusedVariables false

theorem info33 : (Try.prog.info? 33).map (fun i => (i.zero, i.size, i.bytes)) = some (some (.agg #[.int .u32 0, .string ⟨#[]⟩, .slice none 0 0]), 3, 48) := by kernel_rfl
/-- 'ZZready'. -/
theorem ready_any (bp : Nat) (a : Option Addr) (n c : Nat) (w : World) (hc : w.cell? ⟨bp, 8, none⟩ = some (.slice a n c)) :
    Calls Try.prog 15 #[.pointer (some ⟨bp, 0, none⟩)] w fun e w' => e = .returned (.slice a n c) ∧ w = w' := by
  go_enter Try.func15, Try.ntmps15
  go_wp2
  go_ret
  exact ⟨rfl, rfl⟩
theorem Packed.env {w : World} {bp bkk br bf nk ng b l : Nat} {m : Int} {tk : Bool} {Z : Nat → Int} {S : Nat → ByteArray} {T : Nat → Int} {Y : Nat → ByteArray} {OL : Nat → Nat} {OB : Nat → Nat → Int} {FO : Nat → Option Addr} {FC : Nat → Nat} (h : Packed w bp bkk br bf nk ng b l m tk Z S T Y OL OB FO FC) :
    Env w bp bkk br bf nk ng b l m none 0 0 tk Z S T Y OL OB FO FC := ⟨h.blk, h.k1, h.k2, h.k3, h.kin, h.rows, h.frms, h.oct⟩
theorem Dealt.later {w w' : World} {bp bf g cap nk ng b l : Nat} {m : Int} {tk : Bool} {Z : Nat → Int} {S : Nat → ByteArray} {T : Nat → Int} {Y : Nat → ByteArray} {OL : Nat → Nat} {OB : Nat → Nat → Int} {G : Nat → Nat} (h : Dealt w bp bf g cap nk ng b l m tk Z S T Y OL OB G) (hb : Below w.heap.size w w') :
    Dealt w' bp bf g cap nk ng b l m tk Z S T Y OL OB G := by
  have hbp : bp < w.heap.size := by have := h.lo; have := h.hi; omega
  refine ⟨(hb.cell (p := ⟨bp, 7, none⟩) hbp).trans h.grp, (hb.cell (p := ⟨bp, 8, none⟩) hbp).trans h.ready, (hb.cell (p := ⟨bp, 9, none⟩) hbp).trans h.talk, h.lo, Nat.lt_of_lt_of_le h.hi hb.size, fun i hi => ?_, fun i hi => ⟨(h.oct i hi).1, ?_⟩⟩
  · obtain ⟨p0, p1, p2, p3, p4⟩ := h.pays i hi
    exact ⟨cell_later hb p0, cell_later hb p1, cell_later hb p2, cell_later hb p3, cell_later hb p4⟩
  · obtain ⟨cur, hc, _⟩ := (h.oct i hi).2.blk
    rw [hb.block _ (lt_of_block hc)]; exact (h.oct i hi).2
/-- The frames of the slice, laid over what was there. -/
def gcell (f : Nat → Value) (T : Nat → Int) (Y : Nat → ByteArray) (O : Nat → Option Addr) (OL OC : Nat → Nat) (k : Nat) (i : Nat) : Value :=
  if i / 3 < k then (match i % 3 with | 0 => .int .u32 (T (i / 3)) | 1 => .string (Y (i / 3)) | _ => .slice (O (i / 3)) (OL (i / 3)) (OC (i / 3))) else f i
theorem gstep {wr : World} {b n k : Nat} {f : Nat → Value} {T : Nat → Int} {Y : Nat → ByteArray} {O : Nat → Option Addr} {OL OC : Nat → Nat} (h : wr.rowIs b 33 (n * 3) (gcell f T Y O OL OC k)) :
    (((wr.setCell ⟨b, k * 3, none⟩ (.int .u32 (T k))).setCell ⟨b, k * 3 + 1, none⟩ (.string (Y k))).setCell ⟨b, k * 3 + 2, none⟩ (.slice (O k) (OL k) (OC k))).rowIs b 33 (n * 3) (gcell f T Y O OL OC (k + 1)) := by
  refine (((h.set (k * 3) _).set (k * 3 + 1) _).set (k * 3 + 2) _).congr (fun i hi => ?_)
  by_cases e2 : i = k * 3 + 2
  · subst e2; simp [gcell, show (k * 3 + 2) % 3 = 2 by omega, show (k * 3 + 2) / 3 = k by omega]
  by_cases e1 : i = k * 3 + 1
  · subst e1; simp [gcell, show (k * 3 + 1) % 3 = 1 by omega, show (k * 3 + 1) / 3 = k by omega]
  by_cases e0 : i = k * 3
  · subst e0; simp [gcell]
  simp only [if_neg e0, if_neg e1, if_neg e2]
  unfold gcell
  by_cases hk : i / 3 < k
  · rw [if_pos hk, if_pos (by omega)]
  · rw [if_neg hk, if_neg (by omega)]
theorem grow3 {w : World} {b n i : Nat} {f : Nat → Value} {T : Nat → Int} {Y : Nat → ByteArray} {O : Nat → Option Addr} {OL OC : Nat → Nat} (h : w.rowIs b 33 (n * 3) (gcell f T Y O OL OC n)) (hi : i < n) :
    w.cell? ⟨b, 0 + i * 3, none⟩ = some (.int .u32 (T i)) ∧ w.cell? ⟨b, 0 + i * 3 + 1, none⟩ = some (.string (Y i)) ∧ w.cell? ⟨b, 0 + i * 3 + 2, none⟩ = some (.slice (O i) (OL i) (OC i)) := by
  rw [Nat.zero_add]
  refine ⟨?_, ?_, ?_⟩
  · rw [h.cell (by omega)]; simp [gcell, hi]
  · rw [h.cell (by omega)]; simp [gcell, show (i * 3 + 1) % 3 = 1 by omega, show (i * 3 + 1) / 3 = i by omega, hi]
  · rw [h.cell (by omega)]; simp [gcell, show (i * 3 + 2) % 3 = 2 by omega, show (i * 3 + 2) / 3 = i by omega, hi]
/-- Two payloads of the same frames agree behind their first octet. -/
theorem oct_same {w : World} {g1 g2 len1 len2 b : Nat} {h0 h0' h1 : Int} {code code' : Nat → Int} {ol ol' : Nat → Nat} {ob ob' : Nat → Nat → Int} (o1 : Oct w.heap[g1]? len1 h0 h1 b code ol ob) (o2 : Oct w.heap[g2]? len2 h0' h1 b code' ol' ob')
    (hc : ∀ i, i < b → code i = code' i) (hl : ∀ i, i < b → ol i = ol' i) (hob : ∀ i, i < b → ob i = ob' i) (k : Nat) (hk : 1 ≤ k) (hkl : k < offs b ol b) :
    ∃ v : Int, w.cell? ⟨g1, k, none⟩ = some (.int .u8 v) ∧ w.cell? ⟨g2, k, none⟩ = some (.int .u8 v) := by
  obtain ⟨c1, e1, _, a1, t1, b1⟩ := o1.blk
  obtain ⟨c2, e2, _, a2, t2, b2⟩ := o2.blk
  have cell1 : ∀ i v, c1[i]? = some v → w.cell? ⟨g1, i, none⟩ = some v := fun i v h => by simp [World.cell?, e1, h]
  have cell2 : ∀ i v, c2[i]? = some v → w.cell? ⟨g2, i, none⟩ = some v := fun i v h => by simp [World.cell?, e2, h]
  by_cases k1 : k = 1
  · subst k1; exact ⟨h1, cell1 _ _ a1, cell2 _ _ a2⟩
  by_cases kt : k < 2 + (b + 1) / 2
  · obtain ⟨t, rfl⟩ : ∃ t, k = 2 + t := ⟨k - 2, by omega⟩
    exact ⟨tocv code b t, cell1 _ _ (t1 t (by omega)), cell2 _ _ (by rw [tocv_congr b hc t]; exact t2 t (by omega))⟩
  · obtain ⟨i, q, hi, hq, rfl⟩ := offs_find b ol b k (by omega) hkl
    refine ⟨ob i q, cell1 _ _ (b1 i q hi hq), cell2 _ _ ?_⟩
    rw [offs_congr b i (fun j hj => hl j (by omega)), hob i hi]
    exact b2 i q hi (by rw [← hl i hi]; exact hq)

/-- What is known of the seven arguments as they came in. -/
structure In7 (w : World) (ka ca ga : Option Addr) (nk nc ng : Nat) (m : Int) (S : Nat → ByteArray) (Z : Nat → Int) (T : Nat → Int) (Y : Nat → ByteArray) (OA : Nat → Option Addr) (OL OC : Nat → Nat) (OB : Nat → Nat → Int) : Prop where
  k : VStr w ka nk S
  c : VByt w ca nc Z
  g : VFrm w ga ng T Y OA OL OC
  o : ∀ i, i < ng → VByt w (OA i) (OL i) (OB i) ∧ NilOK (OA i) (OL i) (OC i)
  nkm : nk ≤ maxLen
  ncm : nc ≤ maxLen
  ngm : ng ≤ maxLen
  ms : ∀ i, i < nk → (S i).size ≤ maxLen
  my : ∀ i, i < ng → (Y i).size ≤ maxLen ∧ OL i ≤ maxLen
  m0 : 0 ≤ m
  m1 : m ≤ 255

set_option maxHeartbeats 4000000 in
set_option maxRecDepth 100000 in
theorem law_one (ka ca ga : Option Addr) (nk ck nc cc ng cg : Nat) (B L m : Int) (tk : Bool) (S : Nat → ByteArray) (Z : Nat → Int) (T : Nat → Int) (Y : Nat → ByteArray) (OA : Nat → Option Addr) (OL OC : Nat → Nat) (OB : Nat → Nat → Int) (w : World)
    (hin : In7 w ka ca ga nk nc ng m S Z T Y OA OL OC OB) :
    Calls Try.prog 5 #[.slice ka nk ck, .slice ca nc cc, .int .i64 B, .int .i64 L, .int .u8 m, .slice ga ng cg, .bool tk] w fun e w' => e = .returned (.bool true) ∧ Below w.heap.size w w' := by
  have HIN : Hid (In7 w ka ca ga nk nc ng m S Z T Y OA OL OC OB) := hin
  have m0 := hin.m0
  have m1 := hin.m1
  clear hin
  go_enter Try.func5, Try.ntmps5
  go_wp2_with fail
  refine (bytes_one ka ca ga nk ck nc cc ng cg B L m tk S T Y OA OL OC w HIN.out.k HIN.out.g HIN.out.nkm HIN.out.ncm HIN.out.ngm HIN.out.ms HIN.out.my).mono ?_
  rintro e w1 ⟨ok, rfl, ⟨n1, rfl⟩, hok⟩
  cases ok
  · go_wp2
    go_ret
    exact ⟨rfl, below_drewN (Below.refl _ _) _⟩
  obtain ⟨s1, s2, s3, s4, s5⟩ := hok rfl
  have HS4 : Hid (∀ i, i < nk → (S i).size ≤ 1048576) := s4
  have HS5 : Hid (∀ i, i < ng → (Y i).size ≤ 1048576 ∧ OL i ≤ 1048576) := s5
  clear hok s4 s5
  go_wp2_with fail
  have hB1 : Below w.heap.size w (w.drewN n1) := below_drewN (Below.refl _ _) _
  refine (sizeOK_any ka ca ga nk ck nc cc ng cg S T Y OA OL OC (w.drewN n1) (HIN.out.k.later hB1) (HIN.out.g.later hB1) s1 s2 s3 HS4.out HS5.out).mono ?_
  rintro e w1 ⟨ok, rfl, ⟨n2, rfl⟩, _⟩
  clear hB1
  cases ok
  · go_wp2
    go_ret
    exact ⟨rfl, below_drewN (Below.refl _ _) _⟩
  obtain ⟨w2, hw2⟩ : ∃ w2, w2 = (w.drewN n1).drewN n2 := ⟨_, rfl⟩
  rw [← hw2]
  have HB2 : Hid (Below w.heap.size w w2) := by rw [hw2]; exact below_drewN (below_drewN (Below.refl _ _) _) _
  have HS2 : Hid (w2.heap.size = w.heap.size) := by rw [hw2]; rfl
  clear hw2
  go_wp2_with fail
  refine (domainOK_any ka ca ga nk ck nc cc ng cg B L m S Z T Y OA OL OC w2 (HIN.out.k.later HB2.out) (HIN.out.c.later HB2.out) (HIN.out.g.later HB2.out) s1 s2 s3 m0 m1).mono ?_
  rintro e w3 ⟨ok, rfl, ⟨n3, rfl⟩, hok⟩
  cases ok
  · clear hok
    go_wp2
    go_ret
    exact ⟨rfl, below_drewN HB2.out _⟩
  have hdom := hok rfl
  clear hok
  obtain ⟨b, rfl⟩ := Int.eq_ofNat_of_zero_le (show 0 ≤ B by have := hdom.b1; omega)
  obtain ⟨l, rfl⟩ := Int.eq_ofNat_of_zero_le hdom.l0
  have b1 : 1 ≤ b := by have := hdom.b1; omega
  have b2 : b ≤ 32 := by have := hdom.b2; omega
  have l7 : l ≤ 7 := by have := hdom.l7; omega
  have m7 := hdom.m7
  obtain rfl := hdom.len
  have hng : ng = (l + 1) * b := by have := hdom.grp; have h2 : ((l : Int) + 1) * (b : Int) = (((l + 1) * b : Nat) : Int) := by simp
                                    omega
  have HNG : Hid (ng = (l + 1) * b) := hng
  have hngb : b ≤ ng := by rw [hng]; exact Nat.le_mul_of_pos_left b (by omega)
  have HROW : Hid (∀ i, i < ng → frow S (Y i) nc < nc ∧ (S (frow S (Y i) nc)).toList = (Y i).toList) := hdom.row
  have hnk : 0 < nc := by have := (hdom.row 0 (by omega)).1; omega
  clear hdom hng
  obtain ⟨w3, hw3⟩ : ∃ w3, w3 = w2.drewN n3 := ⟨_, rfl⟩
  rw [← hw3]
  have HB3 : Hid (Below w.heap.size w w3) := by rw [hw3]; exact below_drewN HB2.out _
  have HS3 : Hid (w3.heap.size = w.heap.size) := by rw [hw3]; exact HS2.out
  clear hw3 HB2 HS2
  rcases HIN.out.k with hz | ⟨bk, offk, rfl, hbk, hk⟩
  · omega
  rcases HIN.out.c with hz | ⟨bc, offc, rfl, hbc, hc⟩
  · omega
  rcases HIN.out.g with hz | ⟨bg, offg, rfl, hbg, hg⟩
  · omega
  have HK : Hid (∀ i, i < nc → w.cell? ⟨bk, offk + i, none⟩ = some (.string (S i))) := hk
  have HC : Hid (∀ i, i < nc → w.cell? ⟨bc, offc + i, none⟩ = some (.int .u8 (Z i))) := fun i hi => (hc i hi).1
  have HG : Hid (∀ i, i < ng → w.cell? ⟨bg, offg + i * 3, none⟩ = some (.int .u32 (T i)) ∧ w.cell? ⟨bg, offg + i * 3 + 1, none⟩ = some (.string (Y i)) ∧ w.cell? ⟨bg, offg + i * 3 + 2, none⟩ = some (.slice (OA i) (OL i) (OC i))) := hg
  have HO : Hid (∀ i, i < ng → VByt w (OA i) (OL i) (OB i) ∧ NilOK (OA i) (OL i) (OC i) ∧ OL i ≤ 1048576) := fun i hi => ⟨(HIN.out.o i hi).1, (HIN.out.o i hi).2, (HS5.out i hi).2⟩
  clear hk hc hg HIN HS4 HS5
  have hs3 : w.heap.size ≤ w3.heap.size := HB3.out.size
  go_wp2_with fail
  refine (packer_any bk offk bc offc bg offg nc ck cc ng cg b l m tk S Z T Y OA OL OC OB w3 (by omega) (by omega) (by omega) (fun i hi => cell_later HB3.out (HK.out i hi)) (fun i hi => cell_later HB3.out (HC.out i hi)) (fun i hi => ⟨cell_later HB3.out (HG.out i hi).1, cell_later HB3.out (HG.out i hi).2.1, cell_later HB3.out (HG.out i hi).2.2⟩) (fun i hi => ⟨(HO.out i hi).1.later HB3.out, (HO.out i hi).2⟩) s1 s3).mono ?_
  rintro e w4 ⟨bp, bkk, br, bf, FO, FC, rfl, hpk, hb4, hbpl⟩
  have HPK : Hid (Packed w4 bp bkk br bf nc ng b l m tk Z S T Y OL OB FO FC) := hpk
  have HB4 : Hid (Below w.heap.size w w4) := HB3.out.trans (hb4.mono hs3)
  have hs4 : w4.heap.size = bp + 1 := hpk.size
  have HS4 : Hid (w4.heap.size = bp + 1) := hs4
  have hbpw : w.heap.size ≤ bp := by omega
  clear hpk hb4 hs4 hbpl HB3 HS3 hs3
  go_wp2_with fail
  refine (zzpack_any bp bkk br bf nc ng b l m tk Z S T Y OL OB FO FC w4 HPK.out.env b1 b2 l7 m0 m7 HNG.out s1 (fun i hi => (HO.out i hi).2.2) HROW.out).mono ?_
  rintro e w5 ⟨rfl, G, ⟨g, cap, hd⟩, hb5⟩
  have HD : Hid (Dealt w5 bp bf g cap nc ng b l m tk Z S T Y OL OB G) := hd
  have HB5 : Hid (Below w.heap.size w w5) := HB4.out.trans (hb5.mono hbpw)
  have hrd := hd.ready
  have hs5 : w.heap.size ≤ w5.heap.size := HB5.out.size
  clear hd hb5 HPK HB4 HS4
  go_wp2_with fail
  refine (ready_any bp (some ⟨g, 0, none⟩) (l + 1) cap w5 hrd).mono ?_
  rintro e w6 ⟨rfl, rfl⟩
  have hmkS := mk_run Try.underlying26 info33 b b (Nat.le_refl _) (by omega) (by omega)
  clear hrd
  go_wp2
  clear hmkS
  go_loopw [19] (fun i wr => ∃ n : Nat, n ≤ l + 1 ∧ i = .int .i64 n ∧ Hid (∃ f, wr.rowIs w5.heap.size 33 (b * 3) f) ∧ Hid (Below w5.heap.size w5 wr)) (fun i _ => l + 1 - (intOf i).toNat)
  case atStart => exact ⟨0, Nat.zero_le _, rfl, ⟨_, made_row w5 _ (b * 3) 33⟩, (Below.refl _ _).alloc (Nat.le_refl _) _⟩
  case round =>
    rename World => w7
    obtain ⟨n, hn, rfl, hsub, hb7⟩ := hrel
    have HB7 : Hid (Below w.heap.size w w7) := HB5.out.trans (hb7.out.mono hs5)
    by_cases hlt : n < l + 1
    · have hlt' : (n : Int) < (l : Int) + 1 := by omega
      obtain ⟨f, hsub⟩ := hsub.out
      have HSUB : Hid (w7.rowIs w5.heap.size 33 (b * 3) f) := hsub
      have hl7 := hsub.lt
      clear hsub
      go_wp2
      go_loopw [20] (fun i wr => ∃ j : Nat, j ≤ b ∧ i = .int .i64 j ∧ Hid (wr.rowIs w5.heap.size 33 (b * 3) (gcell f (fun j => T (idx l n j)) (fun j => Y (idx l n j)) (fun j => OA (idx l n j)) (fun j => OL (idx l n j)) (fun j => OC (idx l n j)) j)) ∧ Hid (Only w5.heap.size w7 wr)) (fun i _ => b - (intOf i).toNat)
      case atStart => exact ⟨0, Nat.zero_le _, rfl, HSUB.out.congr (fun i _ => by simp [gcell]), Only.refl _ _⟩
      case round =>
        obtain ⟨j, hj, rfl, hro, hon⟩ := hrel
        have HB8 : Hid (Below w.heap.size w wr) := HB7.out.trans (hon.out.below _ hs5)
        have hws : wr.heap.size = w7.heap.size := hon.out.size
        by_cases hjb : j < b
        · have hil := idx_lt HNG.out hlt hjb
          have hil' : ((idx l n j : Nat) : Int) < (ng : Int) := by omega
          have hix := idx_int l n j
          obtain ⟨hp0, hp1⟩ := prod_bd l j l7 (by omega)
          obtain ⟨g0, g1, g2⟩ := HG.out _ hil
          have c0 := cell_later HB8.out g0
          have c1 := cell_later HB8.out g1
          have c2 := cell_later HB8.out g2
          obtain ⟨⟨r0, r1, r2⟩, q0, q1, q2⟩ := row3 (k := j) hro.out (Below.refl (w5.heap.size + 1) wr) (by omega) (by omega)
          clear g0 g1 g2 hws
          go_wp2
          go_roundw
          case rel =>
            have hst := gstep hro.out
            have hon2 := ((hon.out.set (j * 3) (.int .u32 (T (idx l n j)))).set (j * 3 + 1) (.string (Y (idx l n j)))).set (j * 3 + 2) (.slice (OA (idx l n j)) (OL (idx l n j)) (OC (idx l n j)))
            exact ⟨j + 1, by omega, by go_num, hst, hon2⟩
          case measure => simp [intOf]; omega
        · obtain rfl : b = j := by omega
          rename World => w8
          have HB58 : Hid (Below w5.heap.size w5 w8) := hb7.out.trans (hon.out.below _ (Nat.le_refl _))
          have hs8 : w.heap.size ≤ w8.heap.size := HB8.out.size
          have hr8 : w5.heap.size < w8.heap.size := hro.out.lt
          have HRO : Hid (w8.rowIs w5.heap.size 33 (b * 3) (gcell f (fun j => T (idx l n j)) (fun j => Y (idx l n j)) (fun j => OA (idx l n j)) (fun j => OL (idx l n j)) (fun j => OC (idx l n j)) b)) := hro.out
          clear hro hon hws HSUB hl7 hj hjb HB7 hb7
          go_wp2_with fail
          refine (packer_any bk offk bc offc w5.heap.size 0 nc ck cc b b b 0 m true S Z (fun j => T (idx l n j)) (fun j => Y (idx l n j)) (fun j => OA (idx l n j)) (fun j => OL (idx l n j)) (fun j => OC (idx l n j)) (fun j => OB (idx l n j)) w8 (by omega) (by omega) hr8 (fun i hi => cell_later HB8.out (HK.out i hi)) (fun i hi => cell_later HB8.out (HC.out i hi)) (fun i hi => grow3 HRO.out hi) (fun i hi => ⟨(HO.out _ (idx_lt HNG.out hlt hi)).1.later HB8.out, (HO.out _ (idx_lt HNG.out hlt hi)).2⟩) s1 (by omega)).mono ?_
          rintro e w9 ⟨bp2, bkk2, br2, bf2, FO2, FC2, rfl, hpk, hb9, hbpl⟩
          have HPK : Hid (Packed w9 bp2 bkk2 br2 bf2 nc b b 0 m true Z S (fun j => T (idx l n j)) (fun j => Y (idx l n j)) (fun j => OL (idx l n j)) (fun j => OB (idx l n j)) FO2 FC2) := hpk
          have HB9 : Hid (Below w8.heap.size w8 w9) := hb9
          clear hpk hb9
          go_wp2_with fail
          refine (zzpack_any bp2 bkk2 br2 bf2 nc b b 0 m true Z S (fun j => T (idx l n j)) (fun j => Y (idx l n j)) (fun j => OL (idx l n j)) (fun j => OB (idx l n j)) FO2 FC2 w9 HPK.out.env b1 b2 (by omega) m0 m7 (by omega) s1 (fun i hi => (HO.out _ (idx_lt HNG.out hlt hi)).2.2) (fun i hi => HROW.out _ (idx_lt HNG.out hlt hi))).mono ?_
          rintro e w10 ⟨rfl, G2, ⟨gg, cap2, hd2⟩, hb10⟩
          have HB810 : Hid (Below w8.heap.size w8 w10) := HB9.out.trans (hb10.mono hbpl)
          have HD2 : Hid (Dealt w10 bp2 bf2 gg cap2 nc b b 0 m true Z S (fun j => T (idx l n j)) (fun j => Y (idx l n j)) (fun j => OL (idx l n j)) (fun j => OB (idx l n j)) G2) := hd2
          have hrd2 := hd2.ready
          clear hd2 hb10 HPK HB9 hbpl
          go_wp2_with fail
          refine (ready_any bp2 (some ⟨gg, 0, none⟩) (0 + 1) cap2 w10 hrd2).mono ?_
          rintro e w11 ⟨rfl, rfl⟩
          have HB510 : Hid (Below w5.heap.size w5 w10) := HB58.out.trans (HB810.out.mono (by omega))
          have HBW10 : Hid (Below w.heap.size w w10) := HB8.out.trans (HB810.out.mono hs8)
          have hs10 : w8.heap.size ≤ w10.heap.size := HB810.out.size
          have hd10 := HD.out.later HB510.out
          obtain ⟨a0, a1, a2, a3, a4⟩ := hd10.pays n hlt
          obtain ⟨q0, q1, q2, q3, q4⟩ := HD2.out.pays 0 (by omega)
          have ho1 := hd10.oct n hlt
          have ho2 := HD2.out.oct 0 (by omega)
          obtain ⟨bm, hbm⟩ : ∃ bm, b = bm + 1 := ⟨b - 1, by omega⟩
          have hbm' : b - 1 = bm := by omega
          have hil := idx_lt HNG.out hlt (show bm < b by omega)
          have hnn : n < ng := by have := idx_lt HNG.out hlt (show 0 < b by omega); simpa [idx] using this
          have epl : plen b 0 (fun j => OL (idx l n j)) 0 = plen b l OL n := offs_congr b b (fun i hi => by simp [idx])
          rw [hbm'] at a3
          have e00 : idx l n 0 = n := by simp [idx]
          have e0b : idx 0 0 (b - 1) = bm := by simp [idx, hbm']
          have etk0 : (!tkn true 0) = false := by simp [tkn]
          simp only [Nat.zero_mul, Nat.zero_add, e00, e0b, etk0, epl] at q0 q1 q2 q3 q4
          have hsame := fun (wx : World) (h1 : wx.heap[G n]? = w10.heap[G n]?) (h2 : wx.heap[G2 0]? = w10.heap[G2 0]?) => oct_same (w := wx) (by rw [h1]; exact ho1.2) (by rw [h2]; exact ho2.2) (fun i hi => by simp [codeOf, idx]) (fun i hi => by simp [idx]) (fun i hi => by simp [idx])
          have HSAME : Hid (∀ wx : World, wx.heap[G n]? = w10.heap[G n]? → wx.heap[G2 0]? = w10.heap[G2 0]? → ∀ k, 1 ≤ k → k < plen b l OL n → ∃ v : Int, wx.cell? ⟨G n, k, none⟩ = some (.int .u8 v) ∧ wx.cell? ⟨G2 0, k, none⟩ = some (.int .u8 v)) := fun wx h1 h2 k hk hkl => hsame wx h1 h2 k hk hkl
          obtain ⟨cu1, hcu1, hh1, _⟩ := ho1.2.blk
          obtain ⟨cu2, hcu2, hh2, _⟩ := ho2.2.blk
          have o0 : w10.cell? ⟨G n, 0, none⟩ = some (.int .u8 (bits .or .u8 ((l : Int) * 8) n)) := by simp [World.cell?, hcu1, hh1, hdr0]
          have o1 : w10.cell? ⟨G2 0, 0, none⟩ = some (.int .u8 0) := by
            have : hdr0 0 0 = 0 := by decide +kernel
            simp [World.cell?, hcu2, hh2, this]
          have hG1 : G n < w10.heap.size := lt_of_block hcu1
          have hG2 : G2 0 < w10.heap.size := lt_of_block hcu2
          have hpl : 2 ≤ plen b l OL n := by
            have := offs_mono b (fun j => OL (idx l n j)) (Nat.zero_le b)
            simp only [plen]; simp only [offs] at this; omega
          have hplm : plen b l OL n ≤ 100000000 := by
            have := offs_le b (fun j => OL (idx l n j)) b (fun i hi => (HO.out _ (idx_lt HNG.out hlt hi)).2.2)
            simp only [plen]; omega
          have c0 := cell_later HBW10.out (HG.out n hnn).1
          have cI := cell_later HBW10.out (HG.out _ hil).1
          have hbg10 : bg < w10.heap.size := by omega
          have hg10 := hd10.hi
          have hgg10 := HD2.out.hi
          have hsub : (b : Int) - 1 = (bm : Int) := by omega
          have hix := idx_int l n bm
          obtain ⟨hp0, hp1⟩ := prod_bd l bm l7 (by omega)
          have hil' : ((idx l n bm : Nat) : Int) < (ng : Int) := by omega
          have hnn' : (n : Int) < (ng : Int) := by omega
          have wl : IntKind.u8.wrap (l : Int) = (l : Int) := u8w l (by omega)
          have wn : IntKind.u8.wrap (n : Int) = (n : Int) := u8w n (by omega)
          have hwb : IntKind.i64.wrap (bm : Int) = (bm : Int) := by rw [IntKind.wrap_i64]; omega
          have HRO10 : Hid (w10.rowIs w5.heap.size 33 (b * 3) (gcell f (fun j => T (idx l n j)) (fun j => Y (idx l n j)) (fun j => OA (idx l n j)) (fun j => OL (idx l n j)) (fun j => OC (idx l n j)) b)) := HRO.out.of_block (HB810.out.block _ hr8)
          generalize plen b l OL n = pl at *
          generalize G n = gA at *
          generalize G2 0 = gB at *
          clear hd10 ho1 ho2 hbm hbm' epl e00 e0b etk0 hsame hcu1 hh1 hcu2 hh2 hrd2 HRO HB58 HB8 HB810 hil hnn HD2
          by_cases hn0 : n = 0
          · have hnb : ((n : Int) == 0) = true := by rw [beq_iff_eq]; omega
            have ha1 : w10.cell? ⟨g, n * 5 + 1, none⟩ = some (.bool !tk) := by rw [a1, hn0]; simp [tkn]
            have HN0 : Hid (n = 0) := hn0
            clear a1 hn0
            go_wp2
            go_quiet (fail)
            go_wp2
            obtain ⟨wL, hwL⟩ : ∃ wL, wL = ((w10.alloc (.cells #[.int .u32 (T n), .bool !tk, .int .i64 b, .int .u32 (T (idx l n bm)), .slice (some ⟨gA, 0, none⟩) pl pl] 43)).alloc (.cells #[.int .u32 (T n), .bool false, .int .i64 b, .int .u32 (T (idx l n bm)), .slice (some ⟨gB, 0, none⟩) pl pl] 43)).drewN nq := ⟨_, rfl⟩
            rw [← hwL]
            have HLB : Hid (Below w10.heap.size w10 wL) := by rw [hwL]; exact below_drewN (((Below.refl _ _).alloc (Nat.le_refl _) _).alloc (by simp) _) _
            have lA : wL.cell? ⟨w10.heap.size, 4, none⟩ = some (.slice (some ⟨gA, 0, none⟩) pl pl) := by rw [hwL]; show World.cell? (World.alloc _ _) _ = _; rw [World.cell?_alloc_past _ _ _ (by simp), World.cell?_alloc_at _ _ _ _ rfl]; rfl
            have lB : wL.cell? ⟨w10.heap.size + 1, 4, none⟩ = some (.slice (some ⟨gB, 0, none⟩) pl pl) := by rw [hwL]; show World.cell? (World.alloc _ _) _ = _; rw [World.cell?_alloc_at _ _ _ _ (by simp)]; rfl
            clear hwL a0 a2 a3 a4 ha1 q0 q1 q2 q3 q4 c0 cI o0 o1 hix hp0 hp1 hil' hnn' wl wn hwb hnb
            go_loopw [25] (fun i wr => ∃ (k q : Nat), 1 ≤ k ∧ k ≤ pl ∧ i = .int .i64 k ∧ wr = wL.drewN q) (fun i _ => pl - (intOf i).toNat)
            case atStart => exact ⟨1, 0, by omega, by omega, rfl, rfl⟩
            case round =>
              obtain ⟨k, q, hk1, hk2, rfl, rfl⟩ := hrel
              by_cases hkp : k < pl
              · have hkp' : (k : Int) < (pl : Int) := by omega
                obtain ⟨v, v1, v2⟩ := HSAME.out wL (HLB.out.block _ hG1) (HLB.out.block _ hG2) k hk1 hkp
                go_wp2
                go_quiet (fail)
                go_wp2
                go_roundw
                case rel => exact ⟨k + 1, _, by omega, by omega, by go_num, rfl⟩
                case measure => simp [intOf]; omega
              · go_wp2
                go_roundw
                case rel => exact ⟨n + 1, by omega, by go_num, ⟨_, HRO10.out.of_block (HLB.out.block _ (by omega))⟩, below_drewN (HB510.out.trans (HLB.out.mono (by omega))) _⟩
                case measure => simp [intOf]; omega
          · have hnb : ((n : Int) == 0) = false := by rw [beq_eq_false_iff_ne]; omega
            have ha1 : w10.cell? ⟨g, n * 5 + 1, none⟩ = some (.bool false) := by rw [a1]; simp [tkn]; omega
            clear a1 hn0
            go_wp2
            go_quiet (fail)
            go_wp2
            obtain ⟨wL, hwL⟩ : ∃ wL, wL = ((w10.alloc (.cells #[.int .u32 (T n), .bool false, .int .i64 b, .int .u32 (T (idx l n bm)), .slice (some ⟨gA, 0, none⟩) pl pl] 43)).alloc (.cells #[.int .u32 (T n), .bool false, .int .i64 b, .int .u32 (T (idx l n bm)), .slice (some ⟨gB, 0, none⟩) pl pl] 43)).drewN nq := ⟨_, rfl⟩
            rw [← hwL]
            have HLB : Hid (Below w10.heap.size w10 wL) := by rw [hwL]; exact below_drewN (((Below.refl _ _).alloc (Nat.le_refl _) _).alloc (by simp) _) _
            have lA : wL.cell? ⟨w10.heap.size, 4, none⟩ = some (.slice (some ⟨gA, 0, none⟩) pl pl) := by rw [hwL]; show World.cell? (World.alloc _ _) _ = _; rw [World.cell?_alloc_past _ _ _ (by simp), World.cell?_alloc_at _ _ _ _ rfl]; rfl
            have lB : wL.cell? ⟨w10.heap.size + 1, 4, none⟩ = some (.slice (some ⟨gB, 0, none⟩) pl pl) := by rw [hwL]; show World.cell? (World.alloc _ _) _ = _; rw [World.cell?_alloc_at _ _ _ _ (by simp)]; rfl
            clear hwL a0 a2 a3 a4 ha1 q0 q1 q2 q3 q4 c0 cI o0 o1 hix hp0 hp1 hil' hnn' wl wn hwb hnb
            go_loopw [25] (fun i wr => ∃ (k q : Nat), 1 ≤ k ∧ k ≤ pl ∧ i = .int .i64 k ∧ wr = wL.drewN q) (fun i _ => pl - (intOf i).toNat)
            case atStart => exact ⟨1, 0, by omega, by omega, rfl, rfl⟩
            case round =>
              obtain ⟨k, q, hk1, hk2, rfl, rfl⟩ := hrel
              by_cases hkp : k < pl
              · have hkp' : (k : Int) < (pl : Int) := by omega
                obtain ⟨v, v1, v2⟩ := HSAME.out wL (HLB.out.block _ hG1) (HLB.out.block _ hG2) k hk1 hkp
                go_wp2
                go_quiet (fail)
                go_wp2
                go_roundw
                case rel => exact ⟨k + 1, _, by omega, by omega, by go_num, rfl⟩
                case measure => simp [intOf]; omega
              · go_wp2
                go_roundw
                case rel => exact ⟨n + 1, by omega, by go_num, ⟨_, HRO10.out.of_block (HLB.out.block _ (by omega))⟩, below_drewN (HB510.out.trans (HLB.out.mono (by omega))) _⟩
                case measure => simp [intOf]; omega
    · go_wp2
      go_ret
      exact ⟨rfl, HB7.out⟩
end Go.Proofs.Qxb6614196a
