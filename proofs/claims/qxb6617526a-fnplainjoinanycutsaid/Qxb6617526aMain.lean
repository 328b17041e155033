/-
  THE LAW's OWN WALK: FnPlainJoinAnyCut returns true; nothing that was there is written.
-/
import Derived.Test.Qxb6617526aWalks
import Derived.WalkSpells
import Derived.Deep.DeepCutAuto
import Derived.Deep.CutBlock
import Derived.Laws.CopyOwn
namespace Go.Proofs.Qxb6617526a
open Go.RowKit Plain

theorem Try.info5 : (Try.prog.info? 5).map (fun i => (i.zero, i.size, i.bytes)) = some (some (.int .u8 0), 1, 1) := by kernel_rfl
theorem Try.size5 : (Try.prog.info? 5).map (·.size) = some 1 := by kernel_rfl

theorem made_row {w : World} {base g n : Nat} {xs : List Value} (h : w.ownsRow base 5 1 (.slice (some ⟨g, 0, none⟩) n n) n xs) :
    ∃ cur : List Value, w.heap[g]? = some (.cells cur.toArray 5 (0, 0)) ∧ cur.length = n := by
  rcases h.2 with ⟨h', _⟩ | ⟨g', cap', cur, h', _, hg, _, _, hcs, _⟩
  · simp at h'
  · simp only [Value.slice.injEq, Option.some.injEq, Addr.mk.injEq, and_true, true_and] at h'
    obtain ⟨rfl, rfl⟩ := h'
    exact ⟨cur.toList, by simpa using hg, by simpa using hcs⟩

/-- The bytes l as cells. -/
def cellsOf (l : List Int) : List Value := l.map (Value.int .u8)
theorem cellsOf_len (l : List Int) : (cellsOf l).length = l.length := by simp [cellsOf]
theorem cellsOf_one (l : List Int) : ∀ v ∈ cellsOf l, v.oneCell' = true := by
  intro v hv
  simp only [cellsOf, List.mem_map] at hv
  obtain ⟨z, _, rfl⟩ := hv
  rfl
theorem cellsOf_get {l : List Int} {j : Nat} {v : Value} (h : (cellsOf l)[j]? = some v) : j < l.length ∧ v = .int .u8 (l.getD j 0) := by
  have hj : j < (cellsOf l).length := (List.getElem?_eq_some_iff.1 h).1
  have hj' : j < l.length := by simpa [cellsOf] using hj
  refine ⟨hj', ?_⟩
  simp [cellsOf, hj'] at h
  simp [hj', ← h]

theorem addr_add (b off i : Nat) : (⟨b, off, none⟩ : Addr).add i = ⟨b, off + i, none⟩ := by
  unfold Addr.add; split <;> simp_all

/-- What 'copy' asks of a source that reads as l. -/
theorem src_of {w : World} {ao : Option Addr} {n : Nat} {l : List Int} (h : Rd w ao n l) (hp : 0 < (cellsOf l).length) :
    ∃ ad, ao = some ad ∧ ∀ j v, (cellsOf l)[j]? = some v → w.cell? (ad.add j) = some v := by
  have hp' : 0 < n := by have := h.len; rw [cellsOf_len] at hp; omega
  obtain ⟨b, off, rfl, hc⟩ := h.addr hp'
  refine ⟨_, rfl, fun j v hv => ?_⟩
  obtain ⟨hj, rfl⟩ := cellsOf_get hv
  rw [addr_add]
  exact hc j (by have := h.len; omega)

/-- A row that holds the bytes l, as a slice. -/
theorem rd_row {w : World} {g n : Nat} {l : List Int} (hn : l.length = n) (hg : w.heap[g]? = some (.cells (cellsOf l).toArray 5 (0, 0))) (lo : ∀ j, 0 ≤ l.getD j 0) (hi : ∀ j, l.getD j 0 ≤ 255) : Rd w (some ⟨g, 0, none⟩) n l := by
  refine ⟨hn, fun j hj => ⟨g, 0, rfl, ?_⟩, lo, hi⟩
  have : j < l.length := by omega
  simp [World.cell?, hg, cellsOf, this]

theorem splice_all {L cs : List Value} (h : L.length = cs.length) : splice L 0 cs = cs := by
  unfold splice
  rw [List.drop_eq_nil_of_le (by omega)]
  simp

/-- Block J is a row whose first m cells are X, of n in all. -/
structure Part (w : World) (J n m : Nat) (X : List Int) (cur : List Value) : Prop where
  blk : w.heap[J]? = some (.cells cur.toArray 5 (0, 0))
  len : cur.length = n
  got : cur.take m = cellsOf X

theorem Part.cell {w : World} {J n m : Nat} {X : List Int} {cur : List Value} (h : Part w J n m X cur) {j : Nat} (hj : j < n) : ∃ v, w.cell? ⟨J, j, none⟩ = some v := by
  have : j < cur.length := by have := h.len; omega
  exact ⟨cur[j], by simp [World.cell?, h.blk, this]⟩

theorem Part.free {w : World} {J n m : Nat} {X : List Int} {cur : List Value} (h : Part w J n m X cur) (j : Nat) : w.frozen? ⟨J, j, none⟩ = false :=
  frozen_of_row w J j cur.toArray 5 h.blk

theorem Part.step {w : World} {J n m : Nat} {X : List Int} {cur : List Value} (h : Part w J n m X cur) (hm : m < n) (z : Int) :
    Part (w.setCell ⟨J, m, none⟩ (.int .u8 z)) J n (m + 1) (X ++ [z]) (cur.set m (.int .u8 z)) := by
  have hl : m < cur.length := by have := h.len; omega
  refine ⟨?_, by simpa using h.len, ?_⟩
  · have := heap_setCell_same w J m cur.toArray 5 (.int .u8 z) h.blk
    simpa using this
  · rw [List.take_set, List.take_succ_eq_append_getElem hl, h.got]
    have : (cellsOf X).length = m := by rw [← h.got]; simp; omega
    rw [List.set_append, if_neg (by omega), this]
    simp [cellsOf]

theorem getD_append (a b : List Int) (j : Nat) : (a ++ b).getD j 0 = a.getD j 0 ∨ (a ++ b).getD j 0 = b.getD (j - a.length) 0 := by
  by_cases h : j < a.length
  · exact .inl (by simp only [List.getD_eq_getElem?_getD, List.getElem?_append_left h])
  · exact .inr (by simp only [List.getD_eq_getElem?_getD, List.getElem?_append_right (Nat.le_of_not_lt h)])

theorem rd_joined {w wj : World} {b0 b1 : Option Addr} {n0 n1 J : Nat} {l0 l1 : List Int} {cur : List Value} (h0 : l0.length = n0) (h1 : l1.length = n1) (r0 : Rd wj b0 n0 l0) (r1 : Rd wj b1 n1 l1)
    (p : Part w J (n0 + n1) (n0 + n1) (l0 ++ l1) cur) : Rd w (some ⟨J, 0, none⟩) (n0 + n1) (l0 ++ l1) := by
  have e : cur = cellsOf (l0 ++ l1) := by
    have := p.got
    rwa [List.take_of_length_le (Nat.le_of_eq p.len)] at this
  refine rd_row (by simp; omega) (by rw [← e]; exact p.blk) (fun j => ?_) (fun j => ?_)
  · rcases getD_append l0 l1 j with h | h <;> rw [h]
    · exact r0.lo _
    · exact r1.lo _
  · rcases getD_append l0 l1 j with h | h <;> rw [h]
    · exact r0.hi _
    · exact r1.hi _

theorem allKept_is (ao : Option Addr) (n cap : Nat) (l : List Int) (w : World) (b : Bool) (h : Rd w ao n l) (hn : n ≤ 1048576) (hb : Hid (plain l = b)) :
    Calls Try.prog 5 #[.slice ao n cap] w fun e w' => e = .returned (.bool b) ∧ w' = w := by
  rw [← hb.out]; exact allKept_any ao n cap l w h hn

theorem plain_is (ao : Option Addr) (n cap : Nat) (l : List Int) (w : World) (b : Bool) (h : Rd w ao n l) (hn : n ≤ 1048576) (hb : Hid (plain l = b)) :
    Calls Try.prog 6 #[.slice ao n cap] w fun e w' => e = .returned (.bool b) ∧ w' = w := by
  rw [← hb.out]; exact plain_any ao n cap l w h hn

set_option maxRecDepth 100000 in
set_option maxHeartbeats 1000000 in
theorem main_walk (a0 a1 : Option Addr) (n0 c0 n1 c1 : Nat) (l0 l1 : List Int) (w : World) (h0 : Rd w a0 n0 l0) (h1 : Rd w a1 n1 l1) (hs : n0 + n1 ≤ 1048576) (g0 : n0 ≤ 524288) (g1 : n1 ≤ 524288) :
    Calls Try.prog 3 #[.slice a0 n0 c0, .slice a1 n1 c1] w fun e w' => e = .returned (.bool true) ∧ Below w.heap.size w w' := by
  obtain ⟨i0, hi, hz0, hz1, hz2⟩ := info_parts Try.info5
  have q22 : ∀ (w : World) (a : Option Addr) (n c : Nat), (binOp .neq 22 (.slice a n c) (.slice none 0 0)).run Try.prog w = .ok (.bool (!a.isNone)) w := fun w a n c => run_neq_slice_nil_any w 22 5 a n c 0 0 Try.underlying22
  have H0 := h0.len
  have H1 := h1.len
  go_enter Try.func3, Try.ntmps3
  go_upto_if 26 with (first | (go_at_call 4; refine (bytes_yes _ _ _ _ _ _ _ hs).mono ?_; rintro e w' ⟨rfl, h⟩; have h' := h.symm; clear h; subst h'))
  go_cut [0] (fun x wr => ∃ ao cap, x = .slice ao n0 cap ∧ Rd wr ao n0 l0 ∧ Below w.heap.size w wr)
  case first =>
    cases a0 with
    | none =>
      clear hi hz0 hz1 hz2 H0 H1
      go_wp2
      go_meet
      case rel => exact ⟨none, c0, rfl, h0, Below.refl _ _⟩
    | some x =>
      go_upto_region 9 with (first
        | (at_make; refine wpList_make_full _ rfl (.tmp 28) (.tmp 28) 22 rfl w.heap.size 5 i0 (.int .u8 0) 1 Try.underlying22 hi hz0 hz1 .i64 .i64 _ _ n0 rfl rfl rfl rfl (by rw [hz2]; omega) (by unfold maxLen; omega) (Nat.le_refl _) ?_; intro w1 hown hgrow; obtain ⟨cur, hcur, hcl⟩ := made_row hown; have hb1 : Below w.heap.size w w1 := (Below.refl _ _).grown hgrow (Nat.le_refl _) (by simp); clear hown hgrow))
      go_wp2_with (first
        | (refine wpList_copy_splice rfl (.tmp 30) (.tmp 31) 22 22 rfl 5 Try.underlying22 Try.size5 _ _ _ _ _ _ rfl rfl w.heap.size 0 cur 5 hcur (cellsOf l0) (by rw [cellsOf_len]; simp [H0]) (fun hp => ⟨rfl, src_of (h0.below hb1) hp⟩) (by rw [cellsOf_len]; omega) (cellsOf_one _) w.heap.size w hb1 (Nat.le_refl _) ?_; intro w2 hg2 hb2))
      go_meet
      case rel =>
        refine ⟨some ⟨w.heap.size, 0, none⟩, n0, rfl, rd_row H0 ?_ h0.lo h0.hi, hb2⟩
        have hg := hg2.out
        rw [splice_all (by rw [cellsOf_len]; omega)] at hg
        exact hg
  case rest =>
    obtain ⟨b0, d0, rfl, r0, hbw⟩ := hcut
    have r1 := h1.below hbw
    clear h0 h1
    go_upto_if 35 with fail
    go_cut [1] (fun x wr => ∃ ao cap, x = .slice ao n1 cap ∧ Rd wr ao n1 l1 ∧ Below wc.heap.size wc wr)
    case first =>
      cases a1 with
      | none =>
        go_wp2
        go_meet
        case rel => exact ⟨none, c1, rfl, r1, Below.refl _ _⟩
      | some x =>
        go_upto_region 13 with (first
          | (at_make; refine wpList_make_full _ rfl (.tmp 37) (.tmp 37) 22 rfl wc.heap.size 5 i0 (.int .u8 0) 1 Try.underlying22 hi hz0 hz1 .i64 .i64 _ _ n1 rfl rfl rfl rfl (by rw [hz2]; omega) (by unfold maxLen; omega) (Nat.le_refl _) ?_; intro w1 hown hgrow; obtain ⟨cur, hcur, hcl⟩ := made_row hown; have hb1 : Below wc.heap.size wc w1 := (Below.refl _ _).grown hgrow (Nat.le_refl _) (by simp); clear hown hgrow))
        go_wp2_with (first
          | (refine wpList_copy_splice rfl (.tmp 39) (.tmp 40) 22 22 rfl 5 Try.underlying22 Try.size5 _ _ _ _ _ _ rfl rfl wc.heap.size 0 cur 5 hcur (cellsOf l1) (by rw [cellsOf_len]; simp [H1]) (fun hp => ⟨rfl, src_of (r1.below hb1) hp⟩) (by rw [cellsOf_len]; omega) (cellsOf_one _) wc.heap.size wc hb1 (Nat.le_refl _) ?_; intro w2 hg2 hb2))
        go_meet
        case rel =>
          refine ⟨some ⟨wc.heap.size, 0, none⟩, n1, rfl, rd_row H1 ?_ r1.lo r1.hi, hb2⟩
          have hg := hg2.out
          rw [splice_all (by rw [cellsOf_len]; omega)] at hg
          exact hg
    case rest =>
      obtain ⟨wj, hwj⟩ : ∃ wj, wj = wc := ⟨_, rfl⟩
      subst hwj
      obtain ⟨b1, d1, rfl, s1, hbc⟩ := hcut
      have s0 := r0.below hbc
      have hbelow := hbw.trans (hbc.mono hbw.size)
      clear r0 r1 hbw hbc
      go_upto_block 0 with (first
        | (at_make; refine wpList_make_full _ rfl (.tmp 47) (.tmp 47) 22 rfl wj.heap.size 5 i0 (.int .u8 0) 1 Try.underlying22 hi hz0 hz1 .i64 .i64 _ _ (n0 + n1) rfl rfl (by omega) (by omega) (by rw [hz2]; omega) (by unfold maxLen; omega) (Nat.le_refl _) ?_; intro w1 hown hgrow; obtain ⟨cur, hcur, hcl⟩ := made_row hown; have hb1 : Below wj.heap.size wj w1 := (Below.refl _ _).grown hgrow (Nat.le_refl _) (by simp); clear hown hgrow))
      have p0 : Part w1 wj.heap.size (n0 + n1) 0 [] cur := ⟨hcur, hcl, rfl⟩
      clear hcur hcl
      go_cut [8] (fun _ wr => ∃ cur, Part wr wj.heap.size (n0 + n1) n0 l0 cur ∧ Below wj.heap.size wj wr)
      case first =>
        by_cases hn0 : n0 = 0
        · subst hn0
          have hl0 : l0 = [] := List.eq_nil_of_length_eq_zero H0
          go_wp2_with fail
          go_loopw [8] (fun i wr => i = .int .i64 0 ∧ wr = w1) (fun _ _ => 0)
          case atStart => exact ⟨rfl, rfl⟩
          case round =>
            obtain ⟨rfl, rfl⟩ := hrel
            go_wp2
            go_meet
            case rel => exact ⟨cur, by rw [hl0]; exact p0, hb1⟩
        · obtain ⟨x, off, rfl, hc⟩ := s0.addr (by omega)
          have hx : x < wj.heap.size := World.block_lt_of_cell? _ _ (hc 0 (by omega))
          go_wp2_with fail
          go_loopw [8] (fun i wr => ∃ (k : Nat) (cur : List Value), k ≤ n0 ∧ i = .int .i64 k ∧ Part wr wj.heap.size (n0 + n1) k (l0.take k) cur ∧ Below wj.heap.size wj wr) (fun i _ => n0 - (intOf i).toNat)
          case atStart => exact ⟨0, cur, Nat.zero_le _, rfl, p0, hb1⟩
          case round =>
            obtain ⟨k, cu, hk, rfl, pk, hbk⟩ := hrel
            by_cases hlt : k < n0
            · obtain ⟨z, hz⟩ : ∃ z, z = l0.getD k 0 := ⟨_, rfl⟩
              have hcell : wr.cell? ⟨x, off + k, none⟩ = some (.int .u8 z) := by rw [hz]; exact (hbk.cell hx).trans (hc k hlt)
              have HZ : Hid (z = l0.getD k 0) := hz
              obtain ⟨old, hold⟩ := pk.cell (show k < n0 + n1 by omega)
              have hfree := pk.free k
              have hkn : (k : Int) < n0 + n1 := by omega
              clear hz hc
              go_wp2
              go_roundw
              case rel => exact ⟨k + 1, _, by omega, by go_num, by rw [take_snoc (by omega), ← HZ.out]; exact pk.step (by omega) z, hbk.setCell (Nat.le_refl _) _⟩
              case measure => simp [intOf]; omega
            · go_wp2
              go_meet
              case rel =>
                have hkn : k = n0 := by omega
                have e : l0.take k = l0 := List.take_of_length_le (by omega)
                rw [e, hkn] at pk
                exact ⟨cu, pk, hbk⟩
      case rest =>
        obtain ⟨cu1, pj, hbj⟩ := hcut
        clear p0 hb1
        go_upto_block 2 with fail
        obtain ⟨w2, hw2⟩ : ∃ w2, w2 = wc := ⟨_, rfl⟩
        subst hw2
        go_cut [9] (fun _ wr => ∃ cur, Part wr wj.heap.size (n0 + n1) (n0 + n1) (l0 ++ l1) cur ∧ Below wj.heap.size wj wr)
        case first =>
          by_cases hn1 : n1 = 0
          · subst hn1
            have hl1 : l1 = [] := List.eq_nil_of_length_eq_zero H1
            go_wp2_with fail
            go_loopw [9] (fun i wr => i = .int .i64 0 ∧ wr = w2) (fun _ _ => 0)
            case atStart => exact ⟨rfl, rfl⟩
            case round =>
              obtain ⟨rfl, rfl⟩ := hrel
              go_wp2
              go_meet
              case rel => exact ⟨cu1, by rw [hl1]; simpa using pj, hbj⟩
          · obtain ⟨x, off, rfl, hc⟩ := s1.addr (by omega)
            have hx : x < wj.heap.size := World.block_lt_of_cell? _ _ (hc 0 (by omega))
            go_wp2_with fail
            go_loopw [9] (fun i wr => ∃ (k : Nat) (cur : List Value), k ≤ n1 ∧ i = .int .i64 k ∧ Part wr wj.heap.size (n0 + n1) (n0 + k) (l0 ++ l1.take k) cur ∧ Below wj.heap.size wj wr) (fun i _ => n1 - (intOf i).toNat)
            case atStart => exact ⟨0, cu1, Nat.zero_le _, rfl, by simpa using pj, hbj⟩
            case round =>
              obtain ⟨k, cu, hk, rfl, pk, hbk⟩ := hrel
              by_cases hlt : k < n1
              · obtain ⟨z, hz⟩ : ∃ z, z = l1.getD k 0 := ⟨_, rfl⟩
                have hcell : wr.cell? ⟨x, off + k, none⟩ = some (.int .u8 z) := by rw [hz]; exact (hbk.cell hx).trans (hc k hlt)
                have HZ : Hid (z = l1.getD k 0) := hz
                obtain ⟨old, hold⟩ := pk.cell (show n0 + k < n0 + n1 by omega)
                have hfree := pk.free (n0 + k)
                have hkn : (n0 : Int) + (k : Int) < n0 + n1 := by omega
                clear hz hc
                go_wp2
                go_roundw
                case rel => exact ⟨k + 1, _, by omega, by go_num, by rw [take_snoc (by omega), ← HZ.out, ← List.append_assoc]; exact pk.step (by omega) z, hbk.setCell (Nat.le_refl _) _⟩
                case measure => simp [intOf]; omega
              · go_wp2
                go_meet
                case rel =>
                  have hkn : k = n1 := by omega
                  have e : l1.take k = l1 := List.take_of_length_le (by omega)
                  rw [e, hkn] at pk
                  exact ⟨cu, pk, hbk⟩
        case rest =>
          obtain ⟨cu2, pe, hbe⟩ := hcut
          have t0 := s0.below hbe
          have t1 := s1.below hbe
          have tj := rd_joined H0 H1 s0 s1 pe
          have hend := hbelow.trans (hbe.mono hbelow.size)
          clear pe hbe pj hbj s0 s1 H0 H1 hi hz0 hz1 hz2 q22
          obtain ⟨A, hA⟩ : ∃ b, plain l0 = b := ⟨_, rfl⟩
          obtain ⟨B, hB⟩ : ∃ b, plain l1 = b := ⟨_, rfl⟩
          have hJ : plain (l0 ++ l1) = (A && B) := by rw [plain_join, hA, hB]
          have HA : Hid (plain l0 = A) := hA
          have HB : Hid (plain l1 = B) := hB
          have HJ : Hid (plain (l0 ++ l1) = (A && B)) := hJ
          clear hA hB hJ
          cases A <;> cases B
          all_goals
            go_wp2_with fail
            refine (allKept_is _ _ _ _ _ _ t0 (by omega) HA).mono ?_
            rintro e w3 ⟨rfl, h⟩
            have h' := h.symm; clear h; subst h'
            go_wp2_with fail
            refine (allKept_is _ _ _ _ _ _ t1 (by omega) HB).mono ?_
            rintro e w3 ⟨rfl, h⟩
            have h' := h.symm; clear h; subst h'
            go_wp2_with fail
            refine (plain_is _ _ _ _ _ _ t0 (by omega) HA).mono ?_
            rintro e w3 ⟨rfl, h⟩
            have h' := h.symm; clear h; subst h'
            go_wp2_with fail
            refine (plain_is _ _ _ _ _ _ t1 (by omega) HB).mono ?_
            rintro e w3 ⟨rfl, h⟩
            have h' := h.symm; clear h; subst h'
            go_wp2_with fail
            refine (plain_is _ _ _ _ _ _ tj (by omega) HJ).mono ?_
            rintro e w3 ⟨rfl, h⟩
            have h' := h.symm; clear h; subst h'
            go_wp2_with fail
            go_ret
            exact ⟨rfl, hend⟩

set_option maxRecDepth 100000 in
/-- More than 1048576 bytes together: the law asks nothing. -/
theorem main_long (a0 a1 : Option Addr) (n0 c0 n1 c1 : Nat) (w : World) (m0 : n0 ≤ maxLen) (m1 : n1 ≤ maxLen) (hs : ¬ n0 + n1 ≤ 1048576) :
    Calls Try.prog 3 #[.slice a0 n0 c0, .slice a1 n1 c1] w fun e w' => e = .returned (.bool true) ∧ Below w.heap.size w w' := by
  go_enter Try.func3, Try.ntmps3
  go_wp2_with (first | (go_at_call 4; refine (bytes_no _ _ _ _ _ _ _ m0 m1 hs).mono ?_; rintro e w' ⟨rfl, h⟩; have h' := h.symm; clear h; subst h'))
  go_ret
  exact ⟨rfl, Below.refl _ _⟩

set_option maxRecDepth 100000 in
/-- One of the two longer than 524288 bytes: the law asks nothing. -/
theorem main_wide (a0 a1 : Option Addr) (n0 c0 n1 c1 : Nat) (w : World) (hs : n0 + n1 ≤ 1048576) (hg : ¬ (n0 ≤ 524288 ∧ n1 ≤ 524288)) :
    Calls Try.prog 3 #[.slice a0 n0 c0, .slice a1 n1 c1] w fun e w' => e = .returned (.bool true) ∧ Below w.heap.size w w' := by
  by_cases g0 : n0 ≤ 524288
  · have g1 : ¬ n1 ≤ 524288 := fun h => hg ⟨g0, h⟩
    clear hg
    go_enter Try.func3, Try.ntmps3
    go_wp2_with (first | (go_at_call 4; refine (bytes_yes _ _ _ _ _ _ _ hs).mono ?_; rintro e w' ⟨rfl, h⟩; have h' := h.symm; clear h; subst h'))
    go_ret
    exact ⟨rfl, Below.refl _ _⟩
  · clear hg
    go_enter Try.func3, Try.ntmps3
    go_wp2_with (first | (go_at_call 4; refine (bytes_yes _ _ _ _ _ _ _ hs).mono ?_; rintro e w' ⟨rfl, h⟩; have h' := h.symm; clear h; subst h'))
    go_ret
    exact ⟨rfl, Below.refl _ _⟩

end Go.Proofs.Qxb6617526a
