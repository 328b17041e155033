/-
  THE LAW's OWN WALK, where the bounds let it by.
-/
import Derived.Test.Qxb6617571aMain
namespace Go.Proofs.Qxb6617571a
open Go.RowKit Plain

/-- zzLiteralRows, the trailing count as the walk spells it; the rows' number by a name of its own. -/
theorem literalRows_is (s : ByteArray) (a1 a2 a3 : Option Addr) (n c1 c2 c3 T : Nat) (z : Int) (l1 l2 l3 : List Int) (w : World) (hz : z = (T : Int)) (hn : n ≤ 8192) (hT : T ≤ 65536)
    (h1 : Rd w a1 n l1) (h2 : Rd w a2 n l2) (h3 : Rd w a3 n l3) (hF : Fit s.size l1 l2 l3 n) :
    Calls Try.prog 7 #[.string s, .slice a1 n c1, .slice a2 n c2, .slice a3 n c3, .int .i64 z] w fun r w' => ∃ ao N cap, r = .returned (.slice ao N cap) ∧ RdS w' ao N (rowsN (segOf s l1 l2) (cntOf l3) n ++ List.replicate T emp) ∧ Below w.heap.size w w' := by
  subst hz
  refine (literalRows_any s a1 a2 a3 n c1 c2 c3 T l1 l2 l3 w hn hT h1 h2 h3 hF).mono ?_
  rintro r w' ⟨v, rfl, ho, hb⟩
  obtain ⟨ao, cap, rfl, hr⟩ := ho.form
  exact ⟨ao, _, cap, rfl, hr, hb⟩

theorem rows_bound {s : ByteArray} {l1 l2 l3 : List Int} {n T : Nat} (hF : Fit s.size l1 l2 l3 n) (hn : n ≤ 8192) (hT : T ≤ 65536) :
    (rowsN (segOf s l1 l2) (cntOf l3) n ++ List.replicate T emp).length ≤ 1073741824 ∧ (jn (rowsN (segOf s l1 l2) (cntOf l3) n ++ List.replicate T emp)).length ≤ 1073741824 := by
  have a1 := fit_cnt hF
  have a2 := fit_seg hF
  rw [jn_append, List.length_append, List.length_append, rows_len, jn_rows_len, jn_emp, nl_length, List.length_replicate]
  omega

theorem add_nl (l : List UInt8) : (ByteArray.mk l.toArray) ++ (ByteArray.mk #[10]) = ByteArray.mk (l ++ [10]).toArray := by
  apply ByteArray.ext
  simp

set_option maxRecDepth 100000 in
set_option maxHeartbeats 2000000 in
theorem main_yes (s : ByteArray) (a1 a2 a3 : Option Addr) (n c1 c2 c3 e : Nat) (c : Int) (l1 l2 l3 : List Int) (w : World) (hs : s.size ≤ 65536) (hn : n ≤ 8192) (he : e ≤ 65536) (hc0 : 0 ≤ c) (hc1 : c ≤ 255)
    (h1 : Rd w a1 n l1) (h2 : Rd w a2 n l2) (h3 : Rd w a3 n l3) :
    Calls Try.prog 3 #[.string s, .slice a1 n c1, .slice a2 n c2, .slice a3 n c3, .int .i64 e, .int .u8 c] w fun r w' => r = .returned (.bool true) ∧ Below w.heap.size w w' := by
  obtain ⟨i0, hi, hz0, hz1, hz2⟩ := info_parts Try.info3
  have q22 : ∀ (w : World) (a : Option Addr) (n c : Nat), (binOp .neq 22 (.slice a n c) (.slice none 0 0)).run Try.prog w = .ok (.bool (!a.isNone)) w := fun w a n c => run_neq_slice_nil_any w 22 3 a n c 0 0 Try.underlying22
  have H1 := h1.len
  have H2 := h2.len
  have H3 := h3.len
  go_enter Try.func3, Try.ntmps3
  go_wp2_with fail
  refine (bytes_yes s a1 a2 a3 n c1 c2 c3 e c _ hs hn).mono ?_
  rintro r w' ⟨rfl, h⟩
  have h' := h.symm; clear h; subst h'
  go_wp2_with fail
  refine (linesFit_any s a1 a2 a3 n c1 c2 c3 l1 l2 l3 _ hs hn h1 h2 h3).mono ?_
  rintro r w' ⟨b, rfl, hfit, h⟩
  have h' := h.symm; clear h; subst h'
  cases b with
  | false =>
    clear hfit
    go_wp2_with fail
    go_ret
    exact ⟨rfl, Below.refl _ _⟩
  | true =>
    have hF := hfit rfl
    clear hfit
    go_upto_if 65 with fail
    go_cut [1] (fun x wr => ∃ ao cap, x = .slice ao n cap ∧ Rd wr ao n l1 ∧ Below w.heap.size w wr)
    case first =>
      cases a1 with
      | none =>
        go_wp2_with fail
        go_meet
        case rel => exact ⟨none, c1, rfl, h1, Below.refl _ _⟩
      | some x =>
        go_upto_region 19 with (first
          | (at_make; refine wpList_make_full _ rfl (.tmp 67) (.tmp 67) 22 rfl w.heap.size 3 i0 (.int .i64 0) 1 Try.underlying22 hi hz0 hz1 .i64 .i64 _ _ n rfl rfl rfl rfl (by rw [hz2]; omega) (by unfold maxLen; omega) (Nat.le_refl _) ?_; intro w1 hown hgrow; obtain ⟨cur, hcur, hcl⟩ := made_row3 hown; have hb1 : Below w.heap.size w w1 := (Below.refl _ _).grown hgrow (Nat.le_refl _) (by simp); clear hown hgrow))
        go_wp2_with (first
          | (refine wpList_copy_splice rfl (.tmp 69) (.tmp 70) 22 22 rfl 3 Try.underlying22 Try.size3 _ _ _ _ _ _ rfl rfl w.heap.size 0 cur 3 hcur (cellsOf l1) (by rw [cellsOf_len]; simp [H1]) (fun hp => ⟨rfl, src_of (h1.below hb1) hp⟩) (by rw [cellsOf_len]; omega) (cellsOf_one _) w.heap.size w hb1 (Nat.le_refl _) ?_; intro w2 hg2 hb2))
        go_meet
        case rel =>
          refine ⟨some ⟨w.heap.size, 0, none⟩, n, rfl, rd_row H1 ?_, hb2⟩
          have hg := hg2.out
          rw [splice_all (by rw [cellsOf_len]; omega)] at hg
          exact hg
    case rest =>
      obtain ⟨wa, hwa⟩ : ∃ wa, wa = wc := ⟨_, rfl⟩
      subst hwa
      obtain ⟨b1, d1, rfl, r1, ba⟩ := hcut
      have r2 := h2.below ba
      have r3 := h3.below ba
      clear h1 h2 h3
      go_upto_if 74 with fail
      go_cut [2] (fun x wr => ∃ ao cap, x = .slice ao n cap ∧ Rd wr ao n l2 ∧ Below wa.heap.size wa wr)
      case first =>
        cases a2 with
        | none =>
          go_wp2_with fail
          go_meet
          case rel => exact ⟨none, c2, rfl, r2, Below.refl _ _⟩
        | some x =>
          go_upto_region 23 with (first
            | (at_make; refine wpList_make_full _ rfl (.tmp 76) (.tmp 76) 22 rfl wa.heap.size 3 i0 (.int .i64 0) 1 Try.underlying22 hi hz0 hz1 .i64 .i64 _ _ n rfl rfl rfl rfl (by rw [hz2]; omega) (by unfold maxLen; omega) (Nat.le_refl _) ?_; intro w1 hown hgrow; obtain ⟨cur, hcur, hcl⟩ := made_row3 hown; have hb1 : Below wa.heap.size wa w1 := (Below.refl _ _).grown hgrow (Nat.le_refl _) (by simp); clear hown hgrow))
          go_wp2_with (first
            | (refine wpList_copy_splice rfl (.tmp 78) (.tmp 79) 22 22 rfl 3 Try.underlying22 Try.size3 _ _ _ _ _ _ rfl rfl wa.heap.size 0 cur 3 hcur (cellsOf l2) (by rw [cellsOf_len]; simp [H2]) (fun hp => ⟨rfl, src_of (r2.below hb1) hp⟩) (by rw [cellsOf_len]; omega) (cellsOf_one _) wa.heap.size wa hb1 (Nat.le_refl _) ?_; intro w2 hg2 hb2))
          go_meet
          case rel =>
            refine ⟨some ⟨wa.heap.size, 0, none⟩, n, rfl, rd_row H2 ?_, hb2⟩
            have hg := hg2.out
            rw [splice_all (by rw [cellsOf_len]; omega)] at hg
            exact hg
      case rest =>
        obtain ⟨wb, hwb⟩ : ∃ wb, wb = wc := ⟨_, rfl⟩
        subst hwb
        obtain ⟨b2, d2, rfl, s2, bb⟩ := hcut
        have s1 := r1.below bb
        have s3 := r3.below bb
        have bab := ba.trans (bb.mono ba.size)
        clear r1 r2 r3 ba bb
        go_upto_if 83 with fail
        go_cut [3] (fun x wr => ∃ ao cap, x = .slice ao n cap ∧ Rd wr ao n l3 ∧ Below wb.heap.size wb wr)
        case first =>
          cases a3 with
          | none =>
            go_wp2_with fail
            go_meet
            case rel => exact ⟨none, c3, rfl, s3, Below.refl _ _⟩
          | some x =>
            go_upto_region 27 with (first
              | (at_make; refine wpList_make_full _ rfl (.tmp 85) (.tmp 85) 22 rfl wb.heap.size 3 i0 (.int .i64 0) 1 Try.underlying22 hi hz0 hz1 .i64 .i64 _ _ n rfl rfl rfl rfl (by rw [hz2]; omega) (by unfold maxLen; omega) (Nat.le_refl _) ?_; intro w1 hown hgrow; obtain ⟨cur, hcur, hcl⟩ := made_row3 hown; have hb1 : Below wb.heap.size wb w1 := (Below.refl _ _).grown hgrow (Nat.le_refl _) (by simp); clear hown hgrow))
            go_wp2_with (first
              | (refine wpList_copy_splice rfl (.tmp 87) (.tmp 88) 22 22 rfl 3 Try.underlying22 Try.size3 _ _ _ _ _ _ rfl rfl wb.heap.size 0 cur 3 hcur (cellsOf l3) (by rw [cellsOf_len]; simp [H3]) (fun hp => ⟨rfl, src_of (s3.below hb1) hp⟩) (by rw [cellsOf_len]; omega) (cellsOf_one _) wb.heap.size wb hb1 (Nat.le_refl _) ?_; intro w2 hg2 hb2))
            go_meet
            case rel =>
              refine ⟨some ⟨wb.heap.size, 0, none⟩, n, rfl, rd_row H3 ?_, hb2⟩
              have hg := hg2.out
              rw [splice_all (by rw [cellsOf_len]; omega)] at hg
              exact hg
        case rest =>
          obtain ⟨w0, hw0⟩ : ∃ w0, w0 = wc := ⟨_, rfl⟩
          subst hw0
          obtain ⟨b3, d3, rfl, u3, bc⟩ := hcut
          have u1 := s1.below bc
          have u2 := s2.below bc
          have bw := bab.trans (bc.mono bab.size)
          clear s1 s2 s3 bab bc hi hz0 hz1 hz2 q22 H1 H2 H3
          obtain ⟨Z, hZ⟩ : ∃ Z, Z = bodyN (segOf s l1 l2) (cntOf l3) n ++ tl n e c := ⟨_, rfl⟩
          have HZ : Hid (Z = bodyN (segOf s l1 l2) (cntOf l3) n ++ tl n e c) := hZ
          clear hZ
          go_upto_if 92 with fail
          go_cut [16] (fun x wr => x = .string ⟨Z.toArray⟩ ∧ Below w0.heap.size w0 wr)
          case first =>
            by_cases c45 : c = 45
            · subst c45
              have hbd := rows_bound (T := 0) hF hn (by omega)
              have HB : Hid (_ ∧ _) := hbd
              clear hbd
              go_wp2_with fail
              refine (literalRows_is s b1 b2 b3 n d1 d2 d3 0 _ l1 l2 l3 _ rfl hn (by omega) u1 u2 u3 hF).mono ?_
              rintro r w1 ⟨ao, N, cap, rfl, hr, hb1⟩
              go_wp2_with fail
              refine (joinRows_any ao N cap _ w1 hr (by rw [← hr.len]; exact HB.out.1) HB.out.2).mono ?_
              rintro r w2 ⟨rfl, hb2⟩
              go_wp2_with fail
              go_meet
              case rel => exact ⟨by rw [HZ.out, ← want_strip (e := e), List.replicate_zero, List.append_nil], hb1.trans (hb2.mono hb1.size)⟩
            · have e45 : (c == 45) = false := by simpa using c45
              by_cases c43 : c = 43
              · have e43 : (c == 43) = true := by simpa using c43
                have hT : Hid (e = if c = 43 then e else 0) := (if_pos c43).symm
                have HB : Hid (_ ∧ _) := rows_bound (T := e) hF hn (by omega)
                have HC : Hid (c ≠ 45) := c45
                clear c45 c43
                go_wp2_with fail
                refine (literalRows_is s b1 b2 b3 n d1 d2 d3 e _ l1 l2 l3 _ rfl hn (by omega) u1 u2 u3 hF).mono ?_
                rintro r w1 ⟨ao, N, cap, rfl, hr, hb1⟩
                by_cases hN : N = 0
                · subst hN
                  have HW : Hid (bodyN (segOf s l1 l2) (cntOf l3) n ++ tl n e c = []) := want_none _ _ HC.out hT.out hr.len
                  go_wp2_with fail
                  go_meet
                  case rel => exact ⟨by rw [HZ.out, HW.out], hb1⟩
                · have hN' : ((N : Int) == 0) = false := by simp; omega
                  have HW : Hid (joinR (rowsN (segOf s l1 l2) (cntOf l3) n ++ List.replicate e emp) ++ [10] = bodyN (segOf s l1 l2) (cntOf l3) n ++ tl n e c) := want_some _ _ HC.out hT.out (by rw [hr.len]; exact hN)
                  go_wp2_with fail
                  refine (joinRows_any ao N cap _ w1 hr (by rw [← hr.len]; exact HB.out.1) HB.out.2).mono ?_
                  rintro r w2 ⟨rfl, hb2⟩
                  obtain ⟨J, hJ⟩ : ∃ J : ByteArray, J = ⟨(joinR (rowsN (segOf s l1 l2) (cntOf l3) n ++ List.replicate e emp)).toArray⟩ := ⟨_, rfl⟩
                  have hJl : J.size ≤ 1073741824 := by rw [hJ, str_size]; exact Nat.le_trans (join_le _) HB.out.2
                  rw [← hJ]
                  have HJ : Hid (J = ⟨(joinR (rowsN (segOf s l1 l2) (cntOf l3) n ++ List.replicate e emp)).toArray⟩) := hJ
                  clear hJ
                  go_wp2_with fail
                  go_meet
                  case rel => exact ⟨by rw [HJ.out, add_nl, HW.out, ← HZ.out], hb1.trans (hb2.mono hb1.size)⟩
              · have e43 : (c == 43) = false := by simpa using c43
                have hT : Hid (0 = if c = 43 then e else 0) := (if_neg c43).symm
                have HB : Hid (_ ∧ _) := rows_bound (T := 0) hF hn (by omega)
                have HC : Hid (c ≠ 45) := c45
                clear c45 c43
                go_wp2_with fail
                refine (literalRows_is s b1 b2 b3 n d1 d2 d3 0 _ l1 l2 l3 _ rfl hn (by omega) u1 u2 u3 hF).mono ?_
                rintro r w1 ⟨ao, N, cap, rfl, hr, hb1⟩
                by_cases hN : N = 0
                · subst hN
                  have HW : Hid (bodyN (segOf s l1 l2) (cntOf l3) n ++ tl n e c = []) := want_none _ _ HC.out hT.out hr.len
                  go_wp2_with fail
                  go_meet
                  case rel => exact ⟨by rw [HZ.out, HW.out], hb1⟩
                · have hN' : ((N : Int) == 0) = false := by simp; omega
                  have HW : Hid (joinR (rowsN (segOf s l1 l2) (cntOf l3) n ++ List.replicate 0 emp) ++ [10] = bodyN (segOf s l1 l2) (cntOf l3) n ++ tl n e c) := want_some _ _ HC.out hT.out (by rw [hr.len]; exact hN)
                  go_wp2_with fail
                  refine (joinRows_any ao N cap _ w1 hr (by rw [← hr.len]; exact HB.out.1) HB.out.2).mono ?_
                  rintro r w2 ⟨rfl, hb2⟩
                  obtain ⟨J, hJ⟩ : ∃ J : ByteArray, J = ⟨(joinR (rowsN (segOf s l1 l2) (cntOf l3) n ++ List.replicate 0 emp)).toArray⟩ := ⟨_, rfl⟩
                  have hJl : J.size ≤ 1073741824 := by rw [hJ, str_size]; exact Nat.le_trans (join_le _) HB.out.2
                  rw [← hJ]
                  have HJ : Hid (J = ⟨(joinR (rowsN (segOf s l1 l2) (cntOf l3) n ++ List.replicate 0 emp)).toArray⟩) := hJ
                  clear hJ
                  go_wp2_with fail
                  go_meet
                  case rel => exact ⟨by rw [HJ.out, add_nl, HW.out, ← HZ.out], hb1.trans (hb2.mono hb1.size)⟩
          case rest =>
            obtain ⟨rfl, bd⟩ := hcut
            have v1 := u1.below bd
            have v2 := u2.below bd
            have v3 := u3.below bd
            have bz := bw.trans (bd.mono bw.size)
            clear u1 u2 u3 bw bd
            go_wp2_with fail
            refine (zzBlockText_any s b1 b2 b3 n d1 d2 d3 e c l1 l2 l3 _ hs hn he hc0 hc1 v1 v2 v3 hF).mono ?_
            rintro r w2 ⟨rfl, b2⟩
            rw [← HZ.out]
            go_wp2_with fail
            go_ret
            exact ⟨rfl, bz.trans (b2.mono bz.size)⟩
end Go.Proofs.Qxb6617571a
