/-
  The checks ahead of the laws: each answers some bool, and leaves the world (but for draws) as it was; what a yes says.
-/
import Derived.Test.Qxb6614196aBase
namespace Go.Proofs.Qxb6614196a
open Go.ChangeShapes Go.WideShapes Go.ChangeAt Go.RowKit
set_option linter.unusedVariables false

/-- 'pgFirstRow': the first row of a type, or -1. -/
theorem firstRow_any (a : Option Addr) (n c : Nat) (S : Nat → ByteArray) (y : ByteArray) (w : World) (hv : VStr w a n S) (hn : n ≤ maxLen) :
    Calls Try.prog 12 #[.slice a n c, .string y] w fun e w' => w = w' ∧ ((e = .returned (.int .i64 (-1)) ∧ noneBefore S y n) ∨ (e = .returned (.int .i64 (frow S y n)) ∧ frow S y n < n ∧ (S (frow S y n)).toList = y.toList)) := by
  unfold maxLen at hn
  go_enter Try.func12, Try.ntmps12
  go_wp2
  go_loop [5] (fun i => ∃ k : Nat, k ≤ n ∧ i = .int .i64 k ∧ Hid (noneBefore S y k)) (fun i => n - (intOf i).toNat)
  case atStart => exact ⟨0, Nat.zero_le _, rfl, fun i hi => by omega⟩
  case round =>
    obtain ⟨k, hk, rfl, hnb⟩ := hrel
    by_cases hlt : k < n
    · rcases hv with hv | ⟨b, off, rfl, hb, hc⟩
      · omega
      have hck := hc k hlt
      clear hc
      by_cases he : (S k).toList = y.toList
      · have he' : ((S k).toList == y.toList) = true := by rw [he]; simp
        have HE : Hid ((S k).toList = y.toList) := he
        clear he
        go_wp2
        go_ret
        have hf := frow_hit hlt hnb.out HE.out
        exact ⟨rfl, .inr ⟨by rw [hf]; rfl, by omega, by rw [hf]; exact HE.out⟩⟩
      · have he' : ((S k).toList == y.toList) = false := beq_eq_false_iff_ne.2 he
        have HE : Hid ((S k).toList ≠ y.toList) := he
        clear he
        go_wp2
        go_round
        case rel => exact ⟨k + 1, by omega, by go_num, noneBefore_succ hnb.out HE.out⟩
        case measure => simp [intOf]; omega
    · obtain rfl : k = n := by omega
      go_wp2
      go_ret
      exact ⟨rfl, .inl ⟨rfl, hnb.out⟩⟩

set_option maxHeartbeats 1000000 in
/-- The bound on total length, laid by program: what it lets by is bounded. -/
theorem bytes_one (ka ca ga : Option Addr) (nk ck nc cc ng cg : Nat) (B L m : Int) (tk : Bool) (S : Nat → ByteArray) (T : Nat → Int) (Y : Nat → ByteArray) (OA : Nat → Option Addr) (OL OC : Nat → Nat) (w : World)
    (hk : VStr w ka nk S) (hg : VFrm w ga ng T Y OA OL OC) (mk : nk ≤ maxLen) (mc : nc ≤ maxLen) (mg : ng ≤ maxLen) (ms : ∀ i, i < nk → (S i).size ≤ maxLen) (my : ∀ i, i < ng → (Y i).size ≤ maxLen ∧ OL i ≤ maxLen) :
    Calls Try.prog 18 #[.slice ka nk ck, .slice ca nc cc, .int .i64 B, .int .i64 L, .int .u8 m, .slice ga ng cg, .bool tk] w (AnsB (nk ≤ 1048576 ∧ nc ≤ 1048576 ∧ ng ≤ 1048576 ∧ (∀ i, i < nk → (S i).size ≤ 1048576) ∧ ∀ i, i < ng → (Y i).size ≤ 1048576 ∧ OL i ≤ 1048576) w) := by
  unfold maxLen at mk mc mg
  have MS : Hid (∀ i, i < nk → (S i).size ≤ maxLen) := ms
  have MY : Hid (∀ i, i < ng → (Y i).size ≤ maxLen ∧ OL i ≤ maxLen) := my
  clear ms my
  by_cases h0 : 1048576 < nk
  · go_enter Try.func18, Try.ntmps18
    go_wp2; go_ret; exact AnsB.no w 0
  go_enter Try.func18, Try.ntmps18
  go_wp2
  go_loop [15, 16] (fun t i => ∃ (k : Nat) (z : Int), k ≤ nk ∧ i = .int .i64 k ∧ t = .int .i64 z ∧ 0 ≤ z ∧ z ≤ 1048576 ∧ Hid (∀ i, i < k → (S i).size ≤ 1048576)) (fun _ i => nk - (intOf i).toNat)
  case atStart => exact ⟨0, nk, Nat.zero_le _, rfl, rfl, by omega, by omega, fun i hi => by omega⟩
  case round =>
    obtain ⟨k, z, hkk, rfl, rfl, z0, z1, HS⟩ := hrel
    by_cases hlt : k < nk
    · rcases hk with hk | ⟨b, off, rfl, hb, hc⟩
      · omega
      have hck := hc k hlt
      have msk := MS.out k hlt
      unfold maxLen at msk
      clear hc
      by_cases hs : (S k).size ≤ 1048576
      · by_cases hz : z + (S k).size ≤ 1048576
        · go_wp2
          go_round
          case rel => exact ⟨k + 1, z + (S k).size, by omega, by go_num, rfl, by omega, by omega, fun i hi => by
            by_cases h' : i < k
            · exact HS.out i h'
            · obtain rfl : i = k := by omega
              exact hs⟩
          case measure => simp [intOf]; omega
        · go_wp2; go_ret; exact AnsB.no w 0
      · go_wp2; go_ret; exact AnsB.no w 0
    · obtain rfl : k = nk := by omega
      clear hk MS
      by_cases h1 : 1048576 < nc
      · go_wp2; go_ret; exact AnsB.no w 0
      by_cases h2 : 1048576 < z + nc
      · go_wp2; go_ret; exact AnsB.no w 0
      by_cases h3 : 1048576 < ng
      · go_wp2; go_ret; exact AnsB.no w 0
      by_cases h4 : 1048576 < z + nc + ng
      · go_wp2; go_ret; exact AnsB.no w 0
      go_wp2
      go_loop [15, 17] (fun t i => ∃ (j : Nat) (z : Int), j ≤ ng ∧ i = .int .i64 j ∧ t = .int .i64 z ∧ 0 ≤ z ∧ z ≤ 1048576 ∧ Hid (∀ i, i < j → (Y i).size ≤ 1048576 ∧ OL i ≤ 1048576)) (fun _ i => ng - (intOf i).toNat)
      case atStart => exact ⟨0, z + nc + ng, Nat.zero_le _, rfl, rfl, by omega, by omega, fun i hi => by omega⟩
      case round =>
        obtain ⟨j, z, hj, rfl, rfl, z0, z1, HY⟩ := hrel
        by_cases hlt : j < ng
        · rcases hg with hg | ⟨b, off, rfl, hb, hc⟩
          · omega
          obtain ⟨hc0, hc1, hc2⟩ := hc j hlt
          obtain ⟨my1, my2⟩ := MY.out j hlt
          unfold maxLen at my1 my2
          clear hc hc0
          by_cases hs : 1048576 < (Y j).size
          · go_wp2; go_ret; exact AnsB.no w 0
          by_cases hz : 1048576 < z + (Y j).size
          · go_wp2; go_ret; exact AnsB.no w 0
          by_cases ho : 1048576 < OL j
          · go_wp2; go_ret; exact AnsB.no w 0
          by_cases hz2 : 1048576 < z + (Y j).size + OL j
          · go_wp2; go_ret; exact AnsB.no w 0
          go_wp2
          go_round
          case rel => exact ⟨j + 1, z + (Y j).size + OL j, by omega, by go_num, rfl, by omega, by omega, fun i hi => by
            by_cases h' : i < j
            · exact HY.out i h'
            · obtain rfl : i = j := by omega
              exact ⟨by omega, by omega⟩⟩
          case measure => simp [intOf]; omega
        · obtain rfl : j = ng := by omega
          go_wp2
          go_ret
          exact AnsB.yes ⟨by omega, by omega, by omega, HS.out, HY.out⟩ w 0

set_option maxHeartbeats 1000000 in
/-- The bound on total length, laid by program: what it lets by is bounded. -/
theorem bytes_two (ka ca ga : Option Addr) (nk ck nc cc ng cg : Nat) (B L m : Int) (tk : Bool) (S : Nat → ByteArray) (T : Nat → Int) (Y : Nat → ByteArray) (OA : Nat → Option Addr) (OL OC : Nat → Nat) (w : World)
    (hk : VStr w ka nk S) (hg : VFrm w ga ng T Y OA OL OC) (mk : nk ≤ maxLen) (mc : nc ≤ maxLen) (mg : ng ≤ maxLen) (ms : ∀ i, i < nk → (S i).size ≤ maxLen) (my : ∀ i, i < ng → (Y i).size ≤ maxLen ∧ OL i ≤ maxLen) :
    Calls Try.prog 9 #[.slice ka nk ck, .slice ca nc cc, .int .i64 B, .int .i64 L, .int .u8 m, .slice ga ng cg, .bool tk] w (AnsB (nk ≤ 1048576 ∧ nc ≤ 1048576 ∧ ng ≤ 1048576 ∧ (∀ i, i < nk → (S i).size ≤ 1048576) ∧ ∀ i, i < ng → (Y i).size ≤ 1048576 ∧ OL i ≤ 1048576) w) := by
  unfold maxLen at mk mc mg
  have MS : Hid (∀ i, i < nk → (S i).size ≤ maxLen) := ms
  have MY : Hid (∀ i, i < ng → (Y i).size ≤ maxLen ∧ OL i ≤ maxLen) := my
  clear ms my
  by_cases h0 : 1048576 < nk
  · go_enter Try.func9, Try.ntmps9
    go_wp2; go_ret; exact AnsB.no w 0
  go_enter Try.func9, Try.ntmps9
  go_wp2
  go_loop [15, 16] (fun t i => ∃ (k : Nat) (z : Int), k ≤ nk ∧ i = .int .i64 k ∧ t = .int .i64 z ∧ 0 ≤ z ∧ z ≤ 1048576 ∧ Hid (∀ i, i < k → (S i).size ≤ 1048576)) (fun _ i => nk - (intOf i).toNat)
  case atStart => exact ⟨0, nk, Nat.zero_le _, rfl, rfl, by omega, by omega, fun i hi => by omega⟩
  case round =>
    obtain ⟨k, z, hkk, rfl, rfl, z0, z1, HS⟩ := hrel
    by_cases hlt : k < nk
    · rcases hk with hk | ⟨b, off, rfl, hb, hc⟩
      · omega
      have hck := hc k hlt
      have msk := MS.out k hlt
      unfold maxLen at msk
      clear hc
      by_cases hs : (S k).size ≤ 1048576
      · by_cases hz : z + (S k).size ≤ 1048576
        · go_wp2
          go_round
          case rel => exact ⟨k + 1, z + (S k).size, by omega, by go_num, rfl, by omega, by omega, fun i hi => by
            by_cases h' : i < k
            · exact HS.out i h'
            · obtain rfl : i = k := by omega
              exact hs⟩
          case measure => simp [intOf]; omega
        · go_wp2; go_ret; exact AnsB.no w 0
      · go_wp2; go_ret; exact AnsB.no w 0
    · obtain rfl : k = nk := by omega
      clear hk MS
      by_cases h1 : 1048576 < nc
      · go_wp2; go_ret; exact AnsB.no w 0
      by_cases h2 : 1048576 < z + nc
      · go_wp2; go_ret; exact AnsB.no w 0
      by_cases h3 : 1048576 < ng
      · go_wp2; go_ret; exact AnsB.no w 0
      by_cases h4 : 1048576 < z + nc + ng
      · go_wp2; go_ret; exact AnsB.no w 0
      go_wp2
      go_loop [15, 17] (fun t i => ∃ (j : Nat) (z : Int), j ≤ ng ∧ i = .int .i64 j ∧ t = .int .i64 z ∧ 0 ≤ z ∧ z ≤ 1048576 ∧ Hid (∀ i, i < j → (Y i).size ≤ 1048576 ∧ OL i ≤ 1048576)) (fun _ i => ng - (intOf i).toNat)
      case atStart => exact ⟨0, z + nc + ng, Nat.zero_le _, rfl, rfl, by omega, by omega, fun i hi => by omega⟩
      case round =>
        obtain ⟨j, z, hj, rfl, rfl, z0, z1, HY⟩ := hrel
        by_cases hlt : j < ng
        · rcases hg with hg | ⟨b, off, rfl, hb, hc⟩
          · omega
          obtain ⟨hc0, hc1, hc2⟩ := hc j hlt
          obtain ⟨my1, my2⟩ := MY.out j hlt
          unfold maxLen at my1 my2
          clear hc hc0
          by_cases hs : 1048576 < (Y j).size
          · go_wp2; go_ret; exact AnsB.no w 0
          by_cases hz : 1048576 < z + (Y j).size
          · go_wp2; go_ret; exact AnsB.no w 0
          by_cases ho : 1048576 < OL j
          · go_wp2; go_ret; exact AnsB.no w 0
          by_cases hz2 : 1048576 < z + (Y j).size + OL j
          · go_wp2; go_ret; exact AnsB.no w 0
          go_wp2
          go_round
          case rel => exact ⟨j + 1, z + (Y j).size + OL j, by omega, by go_num, rfl, by omega, by omega, fun i hi => by
            by_cases h' : i < j
            · exact HY.out i h'
            · obtain rfl : i = j := by omega
              exact ⟨by omega, by omega⟩⟩
          case measure => simp [intOf]; omega
        · obtain rfl : j = ng := by omega
          go_wp2
          go_ret
          exact AnsB.yes ⟨by omega, by omega, by omega, HS.out, HY.out⟩ w 0

set_option maxHeartbeats 1000000 in
/-- 'pgSizeOK': some bool. -/
theorem sizeOK_any (ka ca ga : Option Addr) (nk ck nc cc ng cg : Nat) (S : Nat → ByteArray) (T : Nat → Int) (Y : Nat → ByteArray) (OA : Nat → Option Addr) (OL OC : Nat → Nat) (w : World)
    (hk : VStr w ka nk S) (hg : VFrm w ga ng T Y OA OL OC) (mk : nk ≤ 1048576) (mc : nc ≤ 1048576) (mg : ng ≤ 1048576) (ms : ∀ i, i < nk → (S i).size ≤ 1048576) (my : ∀ i, i < ng → (Y i).size ≤ 1048576 ∧ OL i ≤ 1048576) :
    Calls Try.prog 10 #[.slice ka nk ck, .slice ca nc cc, .slice ga ng cg] w (AnsB True w) := by
  have MS : Hid (∀ i, i < nk → (S i).size ≤ 1048576) := ms
  have MY : Hid (∀ i, i < ng → (Y i).size ≤ 1048576 ∧ OL i ≤ 1048576) := my
  clear ms my
  by_cases h0 : 4096 < nk
  · go_enter Try.func10, Try.ntmps10
    go_wp2; go_ret; exact AnsB.no w 0
  by_cases h1 : 4096 < nc
  · go_enter Try.func10, Try.ntmps10
    go_wp2; go_ret; exact AnsB.no w 0
  by_cases h2 : 4096 < ng
  · go_enter Try.func10, Try.ntmps10
    go_wp2; go_ret; exact AnsB.no w 0
  go_enter Try.func10, Try.ntmps10
  go_wp2
  go_loop [7, 8] (fun t i => ∃ (k : Nat) (z : Int), k ≤ nk ∧ i = .int .i64 k ∧ t = .int .i64 z ∧ 0 ≤ z ∧ z ≤ 4194304) (fun _ i => nk - (intOf i).toNat)
  case atStart => exact ⟨0, _, Nat.zero_le _, rfl, rfl, by omega, by omega⟩
  case round =>
    obtain ⟨k, z, hkk, rfl, rfl, z0, z1⟩ := hrel
    by_cases hlt : k < nk
    · rcases hk with hk | ⟨b, off, rfl, hb, hc⟩
      · omega
      have hck := hc k hlt
      have msk := MS.out k hlt
      clear hc
      by_cases hz : 1048576 < z
      · go_wp2; go_ret; exact AnsB.no w 0
      go_wp2
      go_round
      case rel => exact ⟨k + 1, z + (S k).size, by omega, by go_num, rfl, by omega, by omega⟩
      case measure => simp [intOf]; omega
    · obtain rfl : k = nk := by omega
      clear hk MS
      go_wp2
      go_loopw [7, 9] (fun t i wr => ∃ (j : Nat) (z : Int), j ≤ ng ∧ i = .int .i64 j ∧ t = .int .i64 z ∧ 0 ≤ z ∧ z ≤ 4194304 ∧ ∃ n, wr = w.drewN n) (fun _ i _ => ng - (intOf i).toNat)
      case atStart => exact ⟨0, z, Nat.zero_le _, rfl, rfl, by omega, by omega, 0, rfl⟩
      case round =>
        obtain ⟨j, z, hj, rfl, rfl, z0, z1, nn, rfl⟩ := hrel
        by_cases hlt : j < ng
        · rcases hg with hg | ⟨b, off, rfl, hb, hc⟩
          · omega
          obtain ⟨hc0, hc1, hc2⟩ := hc j hlt
          obtain ⟨my1, my2⟩ := MY.out j hlt
          clear hc hc0
          by_cases hz : 1048576 < z
          · go_wp2; go_ret; exact AnsB.no w nn
          have hlt' : (j : Int) < (ng : Int) := by omega
          go_wp2
          go_quiet (fail)
          go_wp2
          go_roundw
          case rel => exact ⟨j + 1, z + ((Y j).size + OL j), by omega, by go_num, by go_num, by omega, by omega, _, rfl⟩
          case measure => simp [intOf]; omega
        · go_wp2
          go_ret
          exact AnsB.any trivial _ w nn

set_option maxHeartbeats 1000000 in
/-- 'pgDomainOK': some bool; what a yes says. -/
theorem domainOK_any (ka ca ga : Option Addr) (nk ck nc cc ng cg : Nat) (B L m : Int) (S : Nat → ByteArray) (Z : Nat → Int) (T : Nat → Int) (Y : Nat → ByteArray) (OA : Nat → Option Addr) (OL OC : Nat → Nat) (w : World)
    (hk : VStr w ka nk S) (hcv : VByt w ca nc Z) (hg : VFrm w ga ng T Y OA OL OC) (mk : nk ≤ 1048576) (mc : nc ≤ 1048576) (mg : ng ≤ 1048576) (m0 : 0 ≤ m) (m1 : m ≤ 255) :
    Calls Try.prog 11 #[.slice ka nk ck, .slice ca nc cc, .int .i64 B, .int .i64 L, .int .u8 m, .slice ga ng cg] w (AnsB (Dom B L m nk nc ng S Z Y) w) := by
  by_cases d1 : B < 1
  · go_enter Try.func11, Try.ntmps11
    go_wp2; go_ret; exact AnsB.no w 0
  by_cases d2 : 32 < B
  · go_enter Try.func11, Try.ntmps11
    go_wp2; go_ret; exact AnsB.no w 0
  by_cases d3 : L < 0
  · go_enter Try.func11, Try.ntmps11
    go_wp2; go_ret; exact AnsB.no w 0
  by_cases d4 : 7 < L
  · go_enter Try.func11, Try.ntmps11
    go_wp2; go_ret; exact AnsB.no w 0
  by_cases d5 : 7 < m
  · go_enter Try.func11, Try.ntmps11
    go_wp2; go_ret; exact AnsB.no w 0
  by_cases d6 : nc = nk
  case neg =>
    have d6' : ((nc : Int) != (nk : Int)) = true := by rw [bne_iff_ne]; omega
    go_enter Try.func11, Try.ntmps11
    go_wp2; go_ret; exact AnsB.no w 0
  subst d6
  go_enter Try.func11, Try.ntmps11
  go_wp2
  go_loop [13] (fun i => ∃ (k : Nat), k ≤ nc ∧ i = .int .i64 k ∧ Hid (∀ i, i < k → Z i ≤ 15)) (fun i => nc - (intOf i).toNat)
  case atStart => exact ⟨0, Nat.zero_le _, rfl, fun i hi => by omega⟩
  case round =>
    obtain ⟨k, hkk, rfl, HZ⟩ := hrel
    by_cases hlt : k < nc
    · rcases hcv with hcv | ⟨b, off, rfl, hb, hc⟩
      · omega
      obtain ⟨hck, zk0, zk1⟩ := hc k hlt
      clear hc
      by_cases hz : 15 < Z k
      · go_wp2; go_ret; exact AnsB.no w 0
      go_wp2
      go_round
      case rel => exact ⟨k + 1, by omega, by go_num, fun i hi => by
        by_cases h' : i < k
        · exact HZ.out i h'
        · obtain rfl : i = k := by omega
          omega⟩
      case measure => simp [intOf]; omega
    · obtain rfl : k = nc := by omega
      have hm0 : 0 ≤ (L + 1) * B := Int.mul_nonneg (by omega) (by omega)
      have hm1 : (L + 1) * B ≤ 256 := Int.mul_le_mul (show L + 1 ≤ 8 by omega) (show B ≤ 32 by omega) (by omega) (by omega)
      by_cases hgl : (ng : Int) = (L + 1) * B
      case neg =>
        have hgl' : ((ng : Int) != (L + 1) * B) = true := by rw [bne_iff_ne]; exact hgl
        go_wp2; go_ret; exact AnsB.no w 0
      have hgl' : ((ng : Int) != (L + 1) * B) = false := by simpa using hgl
      have HGL : Hid ((ng : Int) = (L + 1) * B) := hgl
      clear hgl hcv
      go_wp2
      go_loop [14] (fun i => ∃ (j : Nat), j ≤ ng ∧ i = .int .i64 j ∧ Hid (∀ i, i < j → frow S (Y i) k < k ∧ (S (frow S (Y i) k)).toList = (Y i).toList)) (fun i => ng - (intOf i).toNat)
      case atStart => exact ⟨0, Nat.zero_le _, rfl, fun i hi => by omega⟩
      case round =>
        obtain ⟨j, hj, rfl, HF⟩ := hrel
        by_cases hlt : j < ng
        · rcases hg with hg | ⟨b, off, rfl, hb, hc⟩
          · omega
          obtain ⟨hc0, hc1, hc2⟩ := hc j hlt
          clear hc hc0 hc2
          go_wp2_with fail
          refine (firstRow_any ka k ck S (Y j) w hk (by unfold maxLen; omega)).mono ?_
          rintro e w' ⟨rfl, ⟨rfl, hno⟩ | ⟨rfl, hyes⟩⟩
          · clear hno
            go_wp2; go_ret; exact AnsB.no w 0
          · have HYes : Hid (frow S (Y j) k < k ∧ (S (frow S (Y j) k)).toList = (Y j).toList) := hyes
            clear hyes
            have hge : ¬ ((frow S (Y j) k : Nat) : Int) < 0 := by omega
            go_wp2
            go_round
            case rel => exact ⟨j + 1, by omega, by go_num, fun i hi => by
              by_cases h' : i < j
              · exact HF.out i h'
              · obtain rfl : i = j := by omega
                exact HYes.out⟩
            case measure => simp [intOf]; omega
        · obtain rfl : j = ng := by omega
          go_wp2
          go_ret
          exact AnsB.yes (Dom.mk (by omega) (by omega) (by omega) (by omega) (by omega) rfl HZ.out HGL.out HF.out) w 0
end Go.Proofs.Qxb6614196a
