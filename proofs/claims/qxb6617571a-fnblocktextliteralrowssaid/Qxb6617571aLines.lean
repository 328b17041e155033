/-
  THE WALK of ZZBlockText: three columns become lines in memory.
-/
import Derived.Test.Qxb6617571aBlock
import Derived.BigRegion
namespace Go.Proofs.Qxb6617571a
open Go.RowKit Plain

theorem Try.info32 : (Try.prog.info? 32).map (fun i => (i.zero, i.size, i.bytes)) = some (some (.agg #[.int .i64 0, .int .i64 0, .int .i64 0]), 3, 24) := by kernel_rfl

theorem made_row {w : World} {base g n : Nat} {xs : List Value} (h : w.ownsRow base 32 3 (.slice (some ⟨g, 0, none⟩) n n) n xs) :
    ∃ cur : List Value, w.heap[g]? = some (.cells cur.toArray 32 (0, 0)) ∧ cur.length = n * 3 := by
  rcases h.2 with ⟨h', _⟩ | ⟨g', cap', cur, h', _, hg, _, _, hcs, _⟩
  · simp at h'
  · simp only [Value.slice.injEq, Option.some.injEq, Addr.mk.injEq, and_true, true_and] at h'
    obtain ⟨rfl, rfl⟩ := h'
    exact ⟨cur.toList, by simpa using hg, by simpa using hcs⟩

/-- Block J is a row of n lines, of which the first k are filled. -/
structure Part (w : World) (J n k : Nat) (l1 l2 l3 : List Int) (cur : List Value) : Prop where
  blk : w.heap[J]? = some (.cells cur.toArray 32 (0, 0))
  len : cur.length = n * 3
  got : ∀ j, j < k → cur[j * 3]? = some (.int .i64 (l1.getD j 0)) ∧ cur[j * 3 + 1]? = some (.int .i64 (l2.getD j 0)) ∧ cur[j * 3 + 2]? = some (.int .i64 (l3.getD j 0))

theorem Part.cell {w : World} {J n k : Nat} {l1 l2 l3 : List Int} {cur : List Value} (h : Part w J n k l1 l2 l3 cur) {j : Nat} (hj : j < n * 3) : ∃ v, w.cell? ⟨J, j, none⟩ = some v := by
  have : j < cur.length := by have := h.len; omega
  exact ⟨cur[j], by simp [World.cell?, h.blk, this]⟩

theorem Part.free {w : World} {J n k : Nat} {l1 l2 l3 : List Int} {cur : List Value} (h : Part w J n k l1 l2 l3 cur) (j : Nat) : w.frozen? ⟨J, j, none⟩ = false :=
  frozen_of_row w J j cur.toArray 32 h.blk

theorem set3_get (cu : List Value) (i j : Nat) (a b c : Value) (h : j ≠ i ∧ j ≠ i + 1 ∧ j ≠ i + 2) : (((cu.set i a).set (i + 1) b).set (i + 2) c)[j]? = cu[j]? := by
  rw [List.getElem?_set_ne (by omega), List.getElem?_set_ne (by omega), List.getElem?_set_ne (by omega)]

theorem Part.step {w : World} {J n k : Nat} {l1 l2 l3 : List Int} {cu : List Value} {x y m : Int} (h : Part w J n k l1 l2 l3 cu) (hk : k < n) (ex : x = l1.getD k 0) (ey : y = l2.getD k 0) (em : m = l3.getD k 0) :
    Part (((w.setCell ⟨J, k * 3, none⟩ (.int .i64 x)).setCell ⟨J, k * 3 + 1, none⟩ (.int .i64 y)).setCell ⟨J, k * 3 + 2, none⟩ (.int .i64 m)).drew J n (k + 1) l1 l2 l3
      (((cu.set (k * 3) (.int .i64 x)).set (k * 3 + 1) (.int .i64 y)).set (k * 3 + 2) (.int .i64 m)) := by
  have hl := h.len
  refine ⟨?_, by simpa using hl, fun j hj => ?_⟩
  · have s1 := heap_setCell_same w J (k * 3) cu.toArray 32 (.int .i64 x) h.blk
    have s2 := heap_setCell_same _ J (k * 3 + 1) _ 32 (.int .i64 y) s1
    have s3 := heap_setCell_same _ J (k * 3 + 2) _ 32 (.int .i64 m) s2
    have s4 : (((w.setCell ⟨J, k * 3, none⟩ (.int .i64 x)).setCell ⟨J, k * 3 + 1, none⟩ (.int .i64 y)).setCell ⟨J, k * 3 + 2, none⟩ (.int .i64 m)).heap[J]? = some (.cells (((cu.set (k * 3) (.int .i64 x)).set (k * 3 + 1) (.int .i64 y)).set (k * 3 + 2) (.int .i64 m)).toArray 32 (0, 0)) := by
      simpa using s3
    exact s4
  · by_cases e : j = k
    · subst e
      subst ex ey em
      refine ⟨?_, ?_, ?_⟩
      · rw [List.getElem?_set_ne (by omega), List.getElem?_set_ne (by omega), List.getElem?_set_self (by omega)]
      · rw [List.getElem?_set_ne (by omega), List.getElem?_set_self (by simp; omega)]
      · rw [List.getElem?_set_self (by simp; omega)]
    · have hg := h.got j (by omega)
      refine ⟨?_, ?_, ?_⟩
      · rw [set3_get _ _ _ _ _ _ (by omega)]; exact hg.1
      · rw [set3_get _ _ _ _ _ _ (by omega)]; exact hg.2.1
      · rw [set3_get _ _ _ _ _ _ (by omega)]; exact hg.2.2

theorem Part.rdl {w : World} {J n : Nat} {l1 l2 l3 : List Int} {cu : List Value} (h : Part w J n n l1 l2 l3 cu) : RdL w (some ⟨J, 0, none⟩) n l1 l2 l3 :=
  ⟨fun _ => ⟨J, rfl, fun j hj => by
    have hg := h.got j hj
    have e : ∀ i, w.cell? ⟨J, i, none⟩ = cu[i]? := fun i => by simp [World.cell?, h.blk]
    rw [e, e, e]
    exact hg⟩⟩

set_option maxRecDepth 100000 in
set_option maxHeartbeats 1000000 in
theorem zzBlockText_any (s : ByteArray) (a1 a2 a3 : Option Addr) (n c1 c2 c3 e : Nat) (c : Int) (l1 l2 l3 : List Int) (w : World) (hs : s.size ≤ 65536) (hn : n ≤ 8192) (he : e ≤ 65536) (hc0 : 0 ≤ c) (hc1 : c ≤ 255)
    (h1 : Rd w a1 n l1) (h2 : Rd w a2 n l2) (h3 : Rd w a3 n l3) (hF : Fit s.size l1 l2 l3 n) :
    Calls Try.prog 8 #[.string s, .slice a1 n c1, .slice a2 n c2, .slice a3 n c3, .int .i64 e, .int .u8 c, .bool true] w fun r w' => r = .returned (.string ⟨(bodyN (segOf s l1 l2) (cntOf l3) n ++ tl n e c).toArray⟩) ∧ Below w.heap.size w w' := by
  obtain ⟨i0, hi, hz0, hz1, hz2⟩ := info_parts Try.info32
  obtain ⟨Z, hZ⟩ : ∃ Z, Z = bodyN (segOf s l1 l2) (cntOf l3) n ++ tl n e c := ⟨_, rfl⟩
  have HZ : Hid (Z = bodyN (segOf s l1 l2) (cntOf l3) n ++ tl n e c) := hZ
  rw [← hZ]
  clear hZ
  go_enter Try.func8, Try.ntmps8
  go_upto_block 0 with (first
    | (at_make; refine wpList_make_full _ rfl (.tmp 32) (.tmp 32) 30 rfl w.heap.size 32 i0 (.agg #[.int .i64 0, .int .i64 0, .int .i64 0]) 3 Try.underlying30 hi hz0 hz1 .i64 .i64 _ _ n rfl rfl rfl rfl (by rw [hz2]; omega) (by unfold maxLen; omega) (Nat.le_refl _) ?_; intro w1 hown hgrow; obtain ⟨cur, hcur, hcl⟩ := made_row hown; have hb1 : Below w.heap.size w w1 := (Below.refl _ _).grown hgrow (Nat.le_refl _) (by simp); clear hown hgrow))
  have p0 : Part w1 w.heap.size n 0 l1 l2 l3 cur := ⟨hcur, hcl, fun j hj => absurd hj (Nat.not_lt_zero _)⟩
  clear hcur hcl
  go_cut [17] (fun _ wr => (∃ cur, Part wr w.heap.size n n l1 l2 l3 cur) ∧ Below w.heap.size w wr)
  case first =>
    by_cases h0 : n = 0
    · subst h0
      go_wp2_with fail
      go_loopw [17] (fun i wr => i = .int .i64 0 ∧ wr = w1) (fun _ _ => 0)
      case atStart => exact ⟨rfl, rfl⟩
      case round =>
        obtain ⟨rfl, rfl⟩ := hrel
        go_wp2
        go_meet
        case rel => exact ⟨⟨cur, p0⟩, hb1⟩
    · obtain ⟨b1, o1, rfl, k1⟩ := h1.addr (by omega)
      obtain ⟨b2, o2, rfl, k2⟩ := h2.addr (by omega)
      obtain ⟨b3, o3, rfl, k3⟩ := h3.addr (by omega)
      have g1 : b1 < w.heap.size := World.block_lt_of_cell? _ _ (k1 0 (by omega))
      have g2 : b2 < w.heap.size := World.block_lt_of_cell? _ _ (k2 0 (by omega))
      have g3 : b3 < w.heap.size := World.block_lt_of_cell? _ _ (k3 0 (by omega))
      clear h1 h2 h3
      go_wp2_with fail
      go_loopw [17] (fun i wr => ∃ (k : Nat) (cu : List Value), k ≤ n ∧ i = .int .i64 k ∧ Part wr w.heap.size n k l1 l2 l3 cu ∧ Below w.heap.size w wr) (fun i _ => n - (intOf i).toNat)
      case atStart => exact ⟨0, cur, Nat.zero_le _, rfl, p0, hb1⟩
      case round =>
        clear p0 hb1
        obtain ⟨k, cu, hk, rfl, pk, hbl⟩ := hrel
        by_cases hlt : k < n
        · obtain ⟨x, hx⟩ : ∃ x, x = l1.getD k 0 := ⟨_, rfl⟩
          obtain ⟨y, hy⟩ : ∃ x, x = l2.getD k 0 := ⟨_, rfl⟩
          obtain ⟨m, hm⟩ : ∃ x, x = l3.getD k 0 := ⟨_, rfl⟩
          have q1 : wr.cell? ⟨b1, o1 + k, none⟩ = some (.int .i64 x) := by rw [hx]; exact (hbl.cell (p := ⟨b1, o1 + k, none⟩) g1).trans (k1 k hlt)
          have q2 : wr.cell? ⟨b2, o2 + k, none⟩ = some (.int .i64 y) := by rw [hy]; exact (hbl.cell (p := ⟨b2, o2 + k, none⟩) g2).trans (k2 k hlt)
          have q3 : wr.cell? ⟨b3, o3 + k, none⟩ = some (.int .i64 m) := by rw [hm]; exact (hbl.cell (p := ⟨b3, o3 + k, none⟩) g3).trans (k3 k hlt)
          have HX : Hid (x = l1.getD k 0) := hx
          have HY : Hid (y = l2.getD k 0) := hy
          have HM : Hid (m = l3.getD k 0) := hm
          obtain ⟨v0, e0⟩ := pk.cell (show k * 3 < n * 3 by omega)
          obtain ⟨v1, e1⟩ := pk.cell (show k * 3 + 1 < n * 3 by omega)
          obtain ⟨v2, e2⟩ := pk.cell (show k * 3 + 2 < n * 3 by omega)
          have f0 := pk.free (k * 3)
          have f1 := pk.free (k * 3 + 1)
          have f2 := pk.free (k * 3 + 2)
          have hkn : (k : Int) < n := by omega
          clear hx hy hm k1 k2 k3
          go_wp2
          go_region
          go_wp2
          go_roundw
          case rel => exact ⟨k + 1, _, by omega, by go_num, pk.step hlt HX.out HY.out HM.out, (((hbl.setCell (Nat.le_refl _) _).setCell (Nat.le_refl _) _).setCell (Nat.le_refl _) _).drew⟩
          case measure => simp [intOf]; omega
        · go_wp2
          go_meet
          case rel =>
            have e : k = n := by omega
            subst e
            exact ⟨⟨cu, pk⟩, hbl⟩
  case rest =>
    obtain ⟨⟨cu, pk⟩, hbl⟩ := hcut
    have hL := pk.rdl
    clear pk p0 hb1 h1 h2 h3
    go_wp2_with fail
    refine (blockText_any s _ n n e c l1 l2 l3 _ hs hn he hc0 hc1 hL hF).mono ?_
    rintro e1 w2 ⟨rfl, b2⟩
    go_wp2_with fail
    go_ret
    exact ⟨by rw [HZ.out]; rfl, hbl.trans (b2.mono hbl.size)⟩
end Go.Proofs.Qxb6617571a
