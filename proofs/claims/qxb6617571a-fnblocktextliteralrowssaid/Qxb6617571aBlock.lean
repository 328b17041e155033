/-
  THE WALK of blockText, at 'literal'.
-/
import Derived.Test.Qxb6617571aLit
namespace Go.Proofs.Qxb6617571a
open Go.RowKit Plain

theorem rep_eq (c : Nat) : Lib.repeatL [10] c = nl c := by
  induction c with
  | zero => rfl
  | succ c ih => rw [Lib.repeatL, ih, nl_succ]; rfl

/-- strings.Repeat of a line feed, the count as the walk spells it. -/
theorem rep_nl (z : Int) (c : Nat) (hz : z = (c : Int)) (hc : c ≤ 100000) (w : World) :
    Calls Try.prog 11 #[.string { data := #[10] }, .int .i64 z] w fun e w' => e = .returned (.string ⟨(nl c).toArray⟩) ∧ Below w.heap.size w w' := by
  subst hz
  have h := Try.strings_Repeat { data := #[10] } c w (by omega) (by rw [show ByteArray.size { data := #[10] } = 1 from rfl]; omega)
  rw [rep_eq] at h
  exact h

theorem builder_below {b B : Nat} {bs : List Value} {w w' : World} (h : Lib.IsBuilder 36 5 B b bs w) (hb : Below w.heap.size w w') : Lib.IsBuilder 36 5 B b bs w' := by
  have hg : w.grownBy w' none := ⟨hb.os, hb.tape, hb.output, hb.size, fun k hk _ => hb.block k hk⟩
  have one : ∀ p, Lib.BuilderAt 36 5 B b p bs w → Lib.BuilderAt 36 5 B b p bs w' := fun p ⟨h1, v, h2, h3, h4⟩ => by
    refine ⟨h1, v, ?_, h3.kept hg ?_, h4⟩
    · rw [hb.block b ?_]; exact h2
      rcases Nat.lt_or_ge b w.heap.size with h | h
      · exact h
      · rw [Array.getElem?_eq_none h] at h2; cases h2
    · cases e : v.ownBlock with
      | none => exact .inl rfl
      | some x => exact .inr (by simp)
  exact h.elim (fun x => .inl (one _ x)) (fun x => .inr (one _ x))

theorem builder_new (w : World) : Lib.IsBuilder 36 5 w.heap.size w.heap.size [] (w.alloc (.cells #[.pointer none, .slice none 0 0] 36)) := by
  refine .inl ⟨Nat.le_refl _, .slice none 0 0, ?_, World.ownsRow_nil _ _ _ _, by simp [Value.ownBlock]⟩
  show (w.heap.push _)[w.heap.size]? = _
  simp

theorem str_size (l : List UInt8) : ByteArray.size ⟨l.toArray⟩ = l.length := rfl

/-- The lines in memory: three cells each. -/
structure RdL (w : World) (ao : Option Addr) (n : Nat) (l1 l2 l3 : List Int) : Prop where
  at' : 0 < n → ∃ g, ao = some ⟨g, 0, none⟩ ∧ ∀ j, j < n → w.cell? ⟨g, j * 3, none⟩ = some (.int .i64 (l1.getD j 0)) ∧ w.cell? ⟨g, j * 3 + 1, none⟩ = some (.int .i64 (l2.getD j 0)) ∧ w.cell? ⟨g, j * 3 + 2, none⟩ = some (.int .i64 (l3.getD j 0))

/-- What stands behind the last line. -/
def tl (n e : Nat) (c : Int) : List UInt8 := if c = 45 then [] else if n = 0 then (if c = 43 then nl e else []) else if c = 43 then nl (1 + e) else [10]

theorem ext_size (s : ByteArray) (x y : Int) (h0 : 0 ≤ x) (h1 : x < y) (h2 : y ≤ s.size) : (s.extract x.toNat y.toNat).size ≤ s.size := by
  rw [ByteArray.size_extract]; omega

set_option maxRecDepth 100000 in
set_option maxHeartbeats 1000000 in
theorem blockText_any (s : ByteArray) (ao : Option Addr) (n cap e : Nat) (c : Int) (l1 l2 l3 : List Int) (w : World) (hs : s.size ≤ 65536) (hn : n ≤ 8192) (he : e ≤ 65536) (hc0 : 0 ≤ c) (hc1 : c ≤ 255)
    (hR : RdL w ao n l1 l2 l3) (hF : Fit s.size l1 l2 l3 n) :
    Calls Try.prog 9 #[.string s, .slice ao n cap, .int .i64 e, .int .u8 c, .bool true] w fun r w' => r = .returned (.string ⟨(bodyN (segOf s l1 l2) (cntOf l3) n ++ tl n e c).toArray⟩) ∧ Below w.heap.size w w' := by
  have hcn := fit_cnt hF
  have hsn := fit_seg hF
  have HF : Hid (Fit s.size l1 l2 l3 n) := hF
  obtain ⟨Q, hQ⟩ : ∃ Q, Q = bodyN (segOf s l1 l2) (cntOf l3) := ⟨_, rfl⟩
  have hQl : ∀ k, k ≤ n → (Q k).length ≤ 2105344 := fun k hk => by
    have a1 := body_len (segOf s l1 l2) (cntOf l3) k
    have a2 := sumF_mono (cntOf l3) hk
    have a3 := sumF_mono (fun j => (segOf s l1 l2 j).size) hk
    rw [hQ]; omega
  have HQ : Hid (Q = bodyN (segOf s l1 l2) (cntOf l3)) := hQ
  rw [← hQ]
  clear hQ hF hcn hsn
  go_enter Try.func9, Try.ntmps9
  go_upto_block 0 with fail
  go_cut [17] (fun _ wr => Lib.IsBuilder 36 5 w.heap.size w.heap.size (Lib.byteCells (Q n)) wr ∧ Below w.heap.size w wr)
  case first =>
    by_cases h0 : n = 0
    · subst h0
      have hQ0 : Q 0 = [] := by rw [HQ.out]; rfl
      go_wp2_with fail
      go_loopw [17] (fun i wr => i = .int .i64 0 ∧ Lib.IsBuilder 36 5 w.heap.size w.heap.size [] wr ∧ Below w.heap.size w wr) (fun _ _ => 0)
      case atStart => exact ⟨rfl, builder_new w, (Below.refl _ _).alloc (Nat.le_refl _) _⟩
      case round =>
        obtain ⟨rfl, ho, hb⟩ := hrel
        go_wp2_with fail
        go_meet
        case rel => exact ⟨by rw [hQ0]; exact ho, hb⟩
    · obtain ⟨g, rfl, hcl⟩ := hR.at' (by omega)
      have hg : g < w.heap.size := World.block_lt_of_cell? _ _ (hcl 0 (by omega)).1
      clear hR
      go_wp2_with fail
      go_loopw [17] (fun i wr => ∃ k : Nat, k ≤ n ∧ i = .int .i64 k ∧ Lib.IsBuilder 36 5 w.heap.size w.heap.size (Lib.byteCells (Q k)) wr ∧ Below w.heap.size w wr) (fun i _ => n - (intOf i).toNat)
      case atStart => exact ⟨0, Nat.zero_le _, rfl, by rw [HQ.out]; exact builder_new w, (Below.refl _ _).alloc (Nat.le_refl _) _⟩
      case round =>
        obtain ⟨k, hk, rfl, hI, hbl⟩ := hrel
        by_cases hlt : k < n
        · have hline := HF.out.line k hlt
          have hcell := hcl k hlt
          obtain ⟨x, hx⟩ : ∃ x, x = l1.getD k 0 := ⟨_, rfl⟩
          obtain ⟨y, hy⟩ : ∃ x, x = l2.getD k 0 := ⟨_, rfl⟩
          obtain ⟨m, hm⟩ : ∃ m, m = cntOf l3 k := ⟨_, rfl⟩
          rw [← hx, ← hy] at hline hcell
          obtain ⟨t1, t2, t3, t4, t5⟩ := hline
          have hm' : l3.getD k 0 = (m : Int) := by rw [hm]; unfold cntOf; omega
          have hm5 : m ≤ 65536 := by omega
          have HX : Hid (x = l1.getD k 0) := hx
          have HY : Hid (y = l2.getD k 0) := hy
          have HM : Hid (m = cntOf l3 k) := hm
          rw [hm'] at hcell
          obtain ⟨q1, q2, q3⟩ := hcell
          have q1' := (hbl.cell (p := ⟨g, k * 3, none⟩) hg).trans q1
          have q2' := (hbl.cell (p := ⟨g, k * 3 + 1, none⟩) hg).trans q2
          have q3' := (hbl.cell (p := ⟨g, k * 3 + 2, none⟩) hg).trans q3
          have hql := hQl k hk
          clear hx hy hm hm' t4 t5 q1 q2 q3 hcl
          have hsl := fun wx => run_slice_string (P := Try.prog) wx 9 s .i64 .i64 x y Try.underlying9 t1 (by omega) t3
          have hkn : (k : Int) < n := by omega
          by_cases hk0 : k = 0
          · subst hk0
            go_wp2_with fail
            have hI1 := builder_below hI ((Below.refl _ _).alloc (Nat.le_refl _) (.cells #[.int .i64 x, .int .i64 y, .int .i64 m] 32))
            have hb1 : Below w.heap.size w (wr.alloc (.cells #[.int .i64 x, .int .i64 y, .int .i64 m] 32)) := hbl.alloc hbl.size _
            refine (rep_nl _ (m) (rfl) (by omega) _).mono ?_
            rintro e1 w1 ⟨rfl, b1⟩
            have hI2 := builder_below hI1 b1
            have hb2 := hb1.trans (b1.mono hb1.size)
            clear hI hI1 hbl hb1 b1 q1' q2' q3'
            go_wp2_with fail
            refine (Try.Builder_WriteString w.heap.size w.heap.size _ _ _ hI2 (by rw [Lib.byteCells_length, str_size, nl_length]; omega) hb2.size).mono ?_
            rintro e1 w2 ⟨rfl, hB3, b3⟩
            have hb3 := hb2.trans b3
            clear hI2 hb2 b3
            go_wp2_with fail
            refine (Try.Builder_WriteString w.heap.size w.heap.size _ _ _ (Or.inr hB3) (by rw [List.length_append, Lib.byteCells_length, Lib.strCells_length, str_size, nl_length]; have := ext_size s x y t1 t2 t3; omega) hb3.size).mono ?_
            rintro e1 w3 ⟨rfl, hB4, b4⟩
            have hb4 := hb3.trans b4
            clear hB3 hb3 b4
            go_wp2_with fail
            go_roundw
            case rel =>
              refine ⟨1, by omega, by go_num, ?_, hb4⟩
              have e : Q (1) = Q 0 ++ (nl (m) ++ (s.extract x.toNat y.toNat).data.toList) := by
                rw [HQ.out, HX.out, HY.out, HM.out]; rfl
              rw [e, Lib.byteCells_append, Lib.byteCells_append, ← List.append_assoc]
              exact Or.inr hB4
            case measure => simp [intOf]; omega
          · have hkp : ((k : Int) == 0) = false := by simp; omega
            go_wp2_with fail
            have hI1 := builder_below hI ((Below.refl _ _).alloc (Nat.le_refl _) (.cells #[.int .i64 x, .int .i64 y, .int .i64 m] 32))
            have hb1 : Below w.heap.size w (wr.alloc (.cells #[.int .i64 x, .int .i64 y, .int .i64 m] 32)) := hbl.alloc hbl.size _
            refine (rep_nl _ (1 + m) (by omega) (by omega) _).mono ?_
            rintro e1 w1 ⟨rfl, b1⟩
            have hI2 := builder_below hI1 b1
            have hb2 := hb1.trans (b1.mono hb1.size)
            clear hI hI1 hbl hb1 b1 q1' q2' q3'
            go_wp2_with fail
            refine (Try.Builder_WriteString w.heap.size w.heap.size _ _ _ hI2 (by rw [Lib.byteCells_length, str_size, nl_length]; omega) hb2.size).mono ?_
            rintro e1 w2 ⟨rfl, hB3, b3⟩
            have hb3 := hb2.trans b3
            clear hI2 hb2 b3
            go_wp2_with fail
            refine (Try.Builder_WriteString w.heap.size w.heap.size _ _ _ (Or.inr hB3) (by rw [List.length_append, Lib.byteCells_length, Lib.strCells_length, str_size, nl_length]; have := ext_size s x y t1 t2 t3; omega) hb3.size).mono ?_
            rintro e1 w3 ⟨rfl, hB4, b4⟩
            have hb4 := hb3.trans b4
            clear hB3 hb3 b4
            go_wp2_with fail
            go_roundw
            case rel =>
              refine ⟨k + 1, by omega, by go_num, ?_, hb4⟩
              have e : Q (k + 1) = Q k ++ (nl (1 + m) ++ (s.extract x.toNat y.toNat).data.toList) := by
                rw [HQ.out, HX.out, HY.out, HM.out, bodyN, if_neg (by omega)]; rfl
              rw [e, Lib.byteCells_append, Lib.byteCells_append, ← List.append_assoc]
              exact Or.inr hB4
            case measure => simp [intOf]; omega
        · go_wp2_with fail
          go_meet
          case rel =>
            have e : k = n := by omega
            subst e
            exact ⟨hI, hbl⟩
  case rest =>
    clear hR
    obtain ⟨hI, hbl⟩ := hcut
    have hql := hQl n (Nat.le_refl _)
    clear hQl HF
    by_cases c45 : c = 45
    · subst c45
      have ht : Hid (tl n e 45 = []) := by show _ = _; simp [tl]
      go_wp2_with fail
      refine (Try.Builder_String_any w.heap.size w.heap.size (Q n) _ hI hbl.size).mono ?_
      rintro e1 w2 ⟨rfl, b2⟩
      go_wp2_with fail
      go_ret
      exact ⟨by rw [ht.out, List.append_nil]; rfl, hbl.trans b2⟩
    have e45 : (c == 45) = false := by simpa using c45
    by_cases n0 : n = 0
    · subst n0
      by_cases c43 : c = 43
      · subst c43
        have ht : Hid (tl 0 e 43 = nl e) := by show _ = _; simp [tl]
        clear c45 e45
        go_wp2_with fail
        refine (rep_nl _ e rfl (by omega) _).mono ?_
        rintro e1 w1 ⟨rfl, b1⟩
        have hI2 := builder_below hI b1
        have hb2 := hbl.trans (b1.mono hbl.size)
        clear hI hbl b1
        go_wp2_with fail
        refine (Try.Builder_WriteString w.heap.size w.heap.size _ _ _ hI2 (by rw [Lib.byteCells_length, str_size, nl_length]; omega) hb2.size).mono ?_
        rintro e1 w2 ⟨rfl, hB3, b3⟩
        have hb3 := hb2.trans b3
        clear hI2 hb2 b3
        go_wp2_with fail
        refine (Try.Builder_String_any w.heap.size w.heap.size (Q 0 ++ nl e) _ (by rw [Lib.byteCells_append]; exact Or.inr hB3) hb3.size).mono ?_
        rintro e1 w3 ⟨rfl, b4⟩
        go_wp2_with fail
        go_ret
        exact ⟨by rw [ht.out]; rfl, hb3.trans b4⟩
      · have e43 : (c == 43) = false := by simpa using c43
        have ht : Hid (tl 0 e c = []) := by show _ = _; simp [tl, c45, c43]
        clear c45 c43
        go_wp2_with fail
        refine (Try.Builder_String_any w.heap.size w.heap.size (Q 0) _ hI hbl.size).mono ?_
        rintro e1 w2 ⟨rfl, b2⟩
        go_wp2_with fail
        go_ret
        exact ⟨by rw [ht.out, List.append_nil]; rfl, hbl.trans b2⟩
    · have en : ((n : Int) == 0) = false := by simp; omega
      by_cases c43 : c = 43
      · subst c43
        have ht : Hid (tl n e 43 = nl (1 + e)) := by show _ = _; simp [tl, n0]
        clear c45 e45 n0
        go_wp2_with fail
        refine (rep_nl _ (1 + e) (by omega) (by omega) _).mono ?_
        rintro e1 w1 ⟨rfl, b1⟩
        have hI2 := builder_below hI b1
        have hb2 := hbl.trans (b1.mono hbl.size)
        clear hI hbl b1
        go_wp2_with fail
        refine (Try.Builder_WriteString w.heap.size w.heap.size _ _ _ hI2 (by rw [Lib.byteCells_length, str_size, nl_length]; omega) hb2.size).mono ?_
        rintro e1 w2 ⟨rfl, hB3, b3⟩
        have hb3 := hb2.trans b3
        clear hI2 hb2 b3
        go_wp2_with fail
        refine (Try.Builder_String_any w.heap.size w.heap.size (Q n ++ nl (1 + e)) _ (by rw [Lib.byteCells_append]; exact Or.inr hB3) hb3.size).mono ?_
        rintro e1 w3 ⟨rfl, b4⟩
        go_wp2_with fail
        go_ret
        exact ⟨by rw [ht.out]; rfl, hb3.trans b4⟩
      · have e43 : (c == 43) = false := by simpa using c43
        have ht : Hid (tl n e c = [10]) := by show _ = _; simp [tl, c45, c43, n0]
        clear c45 c43 n0
        go_wp2_with fail
        refine (Try.Builder_WriteByte w.heap.size w.heap.size _ _ _ hI (by rw [Lib.byteCells_length]; omega) hbl.size).mono ?_
        rintro e1 w2 ⟨rfl, hB3, b3⟩
        have hb3 := hbl.trans b3
        clear hI hbl b3
        go_wp2_with fail
        refine (Try.Builder_String_any w.heap.size w.heap.size (Q n ++ [10]) _ (by rw [Lib.byteCells_append]; exact Or.inr hB3) hb3.size).mono ?_
        rintro e1 w3 ⟨rfl, b4⟩
        go_wp2_with fail
        go_ret
        exact ⟨by rw [ht.out]; rfl, hb3.trans b4⟩
end Go.Proofs.Qxb6617571a
