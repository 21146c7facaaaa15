/-
  'payloadQueue.add'.
-/
import Derived.Test.Qxb6614196aBase
import Derived.Deep.RegionLaw
import Derived.BigRegion
namespace Go.Proofs.Qxb6614196a
open Go.ChangeShapes Go.WideShapes Go.ChangeAt Go.RowKit
set_option linter.unusedVariables false

/-- A block behind a store. -/
theorem blk_set {w : World} {b i : Nat} {c : Array Value} {t : TypeId} {v : Value} (h : w.heap[b]? = some (.cells c t (0, 0))) : (w.setCell ⟨b, i, none⟩ v).heap[b]? = some (.cells (c.setIfInBounds i v) t (0, 0)) := by
  simp [World.setCell, Array.getElem?_modify, h]
/-- 'talkspurt.opens'. -/
theorem opens_any (bp : Nat) (t : Bool) (w : World) (hc : w.cell? ⟨bp, 9, none⟩ = some (.bool t)) (hf : w.frozen? ⟨bp, 9, none⟩ = false) :
    Calls Try.prog 32 #[.pointer (some ⟨bp, 9, none⟩)] w fun e w' => e = .returned (.bool (!t)) ∧ w.setCell ⟨bp, 9, none⟩ (.bool true) = w' := by
  go_enter Try.func32, Try.ntmps32
  go_wp2
  go_ret
  exact ⟨rfl, rfl⟩

theorem info43 : (Try.prog.info? 43).map (fun i => (i.zero, i.size, i.bytes)) = some (some (.agg #[.int .u32 0, .bool false, .int .i64 0, .int .u32 0, .slice none 0 0]), 5, 48) := by kernel_rfl
/-- The cells of a payload. -/
def pay (ts : Int) (mk : Bool) (fr nw : Int) (oa : Option Addr) (ol oc : Nat) : List Value := [.int .u32 ts, .bool mk, .int .i64 fr, .int .u32 nw, .slice oa ol oc]

/-- What 'add' leaves. -/
structure Added (bp : Nat) (c0 c1 c2 c3 c4 c5 c6 c7 : Value) (va : Option Addr) (n vc : Nat) (xs news : List Value) (w w' : World) : Prop where
  own : ∃ g cap, w'.heap[bp]? = some (.cells #[c0, c1, c2, c3, c4, c5, c6, c7, .slice (some ⟨g, 0, none⟩) (n + 1) cap, .bool true] 74 (0, 0)) ∧ w'.ownsRow (bp + 1) 43 5 (.slice (some ⟨g, 0, none⟩) (n + 1) cap) (n + 1) (xs ++ news)
  far : ∀ k, k < w.heap.size → k ≠ bp → (Value.slice va n vc).ownBlock ≠ some k → w'.heap[k]? = w.heap[k]?
  bel : Below bp w w'

theorem added_of {bp : Nat} {c0 c1 c2 c3 c4 c5 c6 c7 : Value} {va : Option Addr} {n vc : Nat} {xs news : List Value} {w wA wB w2 : World} {g cap : Nat} (hlt : bp < w.heap.size) (hsz : wA.heap.size = w.heap.size + 1)
    (hblk : wA.heap[bp]? = some (.cells #[c0, c1, c2, c3, c4, c5, c6, c7, .slice va n vc, .bool true] 74 (0, 0))) (hfar : ∀ k, k < w.heap.size → k ≠ bp → wA.heap[k]? = w.heap[k]?) (hbel : Below bp w wA)
    (hB : ∀ k, k < wA.heap.size → wB.heap[k]? = wA.heap[k]?) (hBs : wA.heap.size ≤ wB.heap.size) (hbb : Below bp wA wB)
    (hob : ∀ k, (Value.slice va n vc).ownBlock = some k → bp + 1 ≤ k ∧ k < w.heap.size)
    (hown : w2.ownsRow (bp + 1) 43 5 (.slice (some ⟨g, 0, none⟩) (n + 1) cap) (n + 1) (xs ++ news)) (hgrow : wB.grownBy w2 (Value.slice va n vc).ownBlock) :
    Added bp c0 c1 c2 c3 c4 c5 c6 c7 va n vc xs news w (w2.setCell ⟨bp, 8, none⟩ (.slice (some ⟨g, 0, none⟩) (n + 1) cap)) := by
  have ne1 : some bp ≠ (Value.slice va n vc).ownBlock := fun h => by have := hob bp h.symm; omega
  have e2 : w2.heap[bp]? = some (.cells #[c0, c1, c2, c3, c4, c5, c6, c7, .slice va n vc, .bool true] 74 (0, 0)) := by
    rw [hgrow.block bp (by omega) ne1, hB bp (by omega), hblk]
  refine ⟨⟨g, cap, ?_, ownsRow_setCell_below hown (by simp) _⟩, fun k hk hne hno => ?_, ?_⟩
  · rw [blk_set e2]; rfl
  · rw [Below.heap_setCell _ _ _ _ (by simpa using hne), hgrow.block k (by omega) (fun h => hno h.symm), hB k (by omega), hfar k hk hne]
  · exact ((hbel.trans hbb).grown hgrow (by omega) (fun k hk => by have := hob k hk; omega)).setCell (by simp) _

set_option maxHeartbeats 1000000 in
theorem add_any (bp : Nat) (c0 c1 c2 c3 c4 c5 c6 c7 : Value) (va : Option Addr) (n vc : Nat) (xs : List Value) (tk : Bool) (ts fr nw : Int) (oa : Option Addr) (ol oc : Nat) (w : World)
    (hblk : w.heap[bp]? = some (.cells #[c0, c1, c2, c3, c4, c5, c6, c7, .slice va n vc, .bool tk] 74 (0, 0))) (hown : w.ownsRow (bp + 1) 43 5 (.slice va n vc) n xs) (hn : n ≤ 100) :
    Calls Try.prog 29 #[.pointer (some ⟨bp, 8, none⟩), .agg #[.int .u32 ts, .bool false, .int .i64 fr, .int .u32 nw, .slice oa ol oc]] w fun e w' => e = .returned (.tuple #[]) ∧ Added bp c0 c1 c2 c3 c4 c5 c6 c7 va n vc xs (pay ts (!tk) fr nw oa ol oc) w w' := by
  have hlt := lt_of_block hblk
  have h8 : w.cell? ⟨bp, 8, none⟩ = some (.slice va n vc) := by simp [World.cell?, hblk]
  have h9 : w.cell? ⟨bp, 9, none⟩ = some (.bool tk) := by simp [World.cell?, hblk]
  have f8 : w.frozen? ⟨bp, 8, none⟩ = false := by simp [World.frozen?, hblk]
  have f9 : w.frozen? ⟨bp, 9, none⟩ = false := by simp [World.frozen?, hblk]
  have HBLK : Hid (w.heap[bp]? = some (.cells #[c0, c1, c2, c3, c4, c5, c6, c7, .slice va n vc, .bool tk] 74 (0, 0))) := hblk
  have HOWN : Hid (w.ownsRow (bp + 1) 43 5 (.slice va n vc) n xs) := hown
  have hob : ∀ k, (Value.slice va n vc).ownBlock = some k → bp + 1 ≤ k ∧ k < w.heap.size := hown.lt
  have HOB : Hid (∀ k, (Value.slice va n vc).ownBlock = some k → bp + 1 ≤ k ∧ k < w.heap.size) := hob
  clear hblk hown hob
  obtain ⟨i0, hi0, hz0, hz1, hz2⟩ := info_parts info43
  have HZ0 : Hid (i0.zero = some (.agg #[.int .u32 0, .bool false, .int .i64 0, .int .u32 0, .slice none 0 0])) := hz0
  have HI0 : Hid (Try.prog.info? 43 = some i0) := hi0
  have HZ1 : Hid (i0.size = 5) := hz1
  have HZ2 : Hid (i0.bytes = 48) := hz2
  clear hi0 hz0 hz1 hz2
  go_enter Try.func29, Try.ntmps29
  go_wp2_with fail
  refine (opens_any bp tk _ ?_ ?_).mono ?_
  · rw [World.cell?_alloc_past _ _ _ hlt]; exact h9
  · rw [World.frozen?_alloc_old _ _ _ (by simp; omega)]; exact f9
  rintro e w1 ⟨rfl, rfl⟩
  go_wp2
  have a8 : ((w.setCell ⟨bp, 9, none⟩ (.bool true)).alloc (.cells #[.int .u32 ts, .bool !tk, .int .i64 fr, .int .u32 nw, .slice oa ol oc] 43)).cell? ⟨bp, 8, none⟩ = some (.slice va n vc) := by
    rw [World.cell?_alloc_past _ _ _ (by simpa using hlt)]; rw [World.cell?_setCell_other _ _ _ _ (by simp)]; exact h8
  have af : ((w.setCell ⟨bp, 9, none⟩ (.bool true)).alloc (.cells #[.int .u32 ts, .bool !tk, .int .i64 fr, .int .u32 nw, .slice oa ol oc] 43)).frozen? ⟨bp, 8, none⟩ = false := by
    rw [World.frozen?_alloc_old _ _ _ (by simp; omega)]; simp [f8]
  have HAO : Hid (((w.setCell ⟨bp, 9, none⟩ (.bool true)).alloc (.cells #[.int .u32 ts, .bool !tk, .int .i64 fr, .int .u32 nw, .slice oa ol oc] 43)).ownsRow (bp + 1) 43 5 (.slice va n vc) n xs) := (ownsRow_setCell_below HOWN.out (by simp) _).alloc _
  have HAN : Hid (((w.setCell ⟨bp, 9, none⟩ (.bool true)).alloc (.cells #[.int .u32 ts, .bool !tk, .int .i64 fr, .int .u32 nw, .slice oa ol oc] 43)).heap[w.heap.size]? = some (.cells #[.int .u32 ts, .bool !tk, .int .i64 fr, .int .u32 nw, .slice oa ol oc] 43 (0, 0))) := by
    have := heap_alloc_new (w.setCell ⟨bp, 9, none⟩ (.bool true)) (.cells #[.int .u32 ts, .bool !tk, .int .i64 fr, .int .u32 nw, .slice oa ol oc] 43)
    rw [World.size_setCell] at this
    exact this
  have HAB : Hid (((w.setCell ⟨bp, 9, none⟩ (.bool true)).alloc (.cells #[.int .u32 ts, .bool !tk, .int .i64 fr, .int .u32 nw, .slice oa ol oc] 43)).heap[bp]? = some (.cells #[c0, c1, c2, c3, c4, c5, c6, c7, .slice va n vc, .bool true] 74 (0, 0))) := by
    show _ = _
    rw [heap_alloc_old _ _ (by simpa using hlt), blk_set HBLK.out]
    rfl
  have HAF : Hid (∀ k, k < w.heap.size → k ≠ bp → ((w.setCell ⟨bp, 9, none⟩ (.bool true)).alloc (.cells #[.int .u32 ts, .bool !tk, .int .i64 fr, .int .u32 nw, .slice oa ol oc] 43)).heap[k]? = w.heap[k]?) := fun k hk hne => by
    rw [heap_alloc_old _ _ (by simpa using hk), Below.heap_setCell _ _ _ _ (by simpa using hne)]
  have HAS : Hid (Below bp w ((w.setCell ⟨bp, 9, none⟩ (.bool true)).alloc (.cells #[.int .u32 ts, .bool !tk, .int .i64 fr, .int .u32 nw, .slice oa ol oc] 43))) := ((Below.refl _ _).setCell (by simp) _).alloc (by simp; omega) _
  have hsz : ((w.setCell ⟨bp, 9, none⟩ (.bool true)).alloc (.cells #[.int .u32 ts, .bool !tk, .int .i64 fr, .int .u32 nw, .slice oa ol oc] 43)).heap.size = w.heap.size + 1 := by simp
  generalize (w.setCell ⟨bp, 9, none⟩ (.bool true)).alloc (.cells #[.int .u32 ts, .bool !tk, .int .i64 fr, .int .u32 nw, .slice oa ol oc] 43) = wA at *
  have p0 : wA.cell? ⟨w.heap.size, 0, none⟩ = some (.int .u32 ts) := by simp [World.cell?, HAN.out]
  have p1 : wA.cell? ⟨w.heap.size, 1, none⟩ = some (.bool !tk) := by simp [World.cell?, HAN.out]
  have p2 : wA.cell? ⟨w.heap.size, 2, none⟩ = some (.int .i64 fr) := by simp [World.cell?, HAN.out]
  have p3 : wA.cell? ⟨w.heap.size, 3, none⟩ = some (.int .u32 nw) := by simp [World.cell?, HAN.out]
  have p4 : wA.cell? ⟨w.heap.size, 4, none⟩ = some (.slice oa ol oc) := by simp [World.cell?, HAN.out]
  have hsl : w.heap.size < wA.heap.size := by omega
  have hbl : bp < wA.heap.size := by omega
  have HSZ : Hid (wA.heap.size = w.heap.size + 1) := hsz
  have ne1 : some bp ≠ (Value.slice va n vc).ownBlock := fun h => by have := HOB.out bp h.symm; omega
  have ne2 : some w.heap.size ≠ (Value.slice va n vc).ownBlock := fun h => by have := HOB.out _ h.symm; omega
  clear hsz h8 h9 f8 f9
  go_region_law ((refine step_append_lies _ (by rfl) _ _ _ (by rfl) (bp + 1) 43 i0 _ 5 48 Try.underlying37 HI0.out HZ0.out HZ1.out HZ2.out rfl (by omega) (.slice va n vc) n xs (by rfl) (by exact (HAO.out.alloc _).drew) ⟨wA.heap.size, 0, none⟩ 1 1 (pay ts (!tk) fr nw oa ol oc) (by rfl) (by rfl) (by exact World.news_of_block (cs := #[.int .u32 ts, .bool !tk, .int .i64 fr, .int .u32 nw, .slice oa ol oc]) (t := 43) (fr := (0, 0)) (heap_alloc_new wA _)) (by simp [Value.oneCell', pay]) (by omega) (by unfold maxLen; omega) (by omega) (by simp; omega) (wA.heap.size + 1) (by simp) ?_; intro g cap w2 hown2 hgrow hat hlt2; have e8 : w2.cell? ⟨bp, 8, none⟩ = some (.slice va n vc) := (hgrow.cell_far ⟨bp, 8, none⟩ (by simp; omega) ne1).trans ((World.cell?_alloc_past _ bp 8 hbl).trans a8); have e0 : w2.cell? ⟨w.heap.size, 0, none⟩ = some (.int .u32 ts) := (hgrow.cell_far ⟨w.heap.size, 0, none⟩ (by simp; omega) ne2).trans ((World.cell?_alloc_past _ _ 0 hsl).trans p0); have e1 : w2.cell? ⟨w.heap.size, 1, none⟩ = some (.bool !tk) := (hgrow.cell_far ⟨w.heap.size, 1, none⟩ (by simp; omega) ne2).trans ((World.cell?_alloc_past _ _ 1 hsl).trans p1); have e2 : w2.cell? ⟨w.heap.size, 2, none⟩ = some (.int .i64 fr) := (hgrow.cell_far ⟨w.heap.size, 2, none⟩ (by simp; omega) ne2).trans ((World.cell?_alloc_past _ _ 2 hsl).trans p2); have e3 : w2.cell? ⟨w.heap.size, 3, none⟩ = some (.int .u32 nw) := (hgrow.cell_far ⟨w.heap.size, 3, none⟩ (by simp; omega) ne2).trans ((World.cell?_alloc_past _ _ 3 hsl).trans p3); have e4 : w2.cell? ⟨w.heap.size, 4, none⟩ = some (.slice oa ol oc) := (hgrow.cell_far ⟨w.heap.size, 4, none⟩ (by simp; omega) ne2).trans ((World.cell?_alloc_past _ _ 4 hsl).trans p4); have ef : w2.frozen? ⟨bp, 8, none⟩ = false := (hgrow.frozen_far ⟨bp, 8, none⟩ (by simp; omega) ne1).trans ((World.frozen?_alloc_old wA _ ⟨bp, 8, none⟩ (by simp; omega)).trans af)))
  all_goals (
    go_end0
    exact ⟨rfl, added_of hlt HSZ.out HAB.out HAF.out HAS.out (wB := (wA.alloc _).drew) (fun k hk => heap_alloc_old wA _ hk) (by simp) (((Below.refl _ _).alloc (by omega) _).drew) HOB.out hown2 hgrow⟩)
end Go.Proofs.Qxb6614196a
