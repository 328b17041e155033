/-
  THE WALK of zzJoinRows.
-/
import Derived.Test.Qxb6617571aFit
import Derived.Test.Qxb6617571aShelf
import Derived.Deep.DeepCutAuto
import Derived.Deep.CutBlock
import Derived.Laws.IdiomStrings
namespace Go.Proofs.Qxb6617571a
open Go.RowKit Plain

theorem Try.info5 : (Try.prog.info? 5).map (fun i => (i.zero, i.size, i.bytes)) = some (some (.int .u8 0), 1, 1) := by kernel_rfl
theorem Try.info9 : (Try.prog.info? 9).map (fun i => (i.zero, i.size, i.bytes)) = some (some (.string { data := #[] }), 1, 16) := by kernel_rfl

/-- The slice v, not nil, in the call's own memory from 'base' on, holds the bytes l. -/
structure OwnB (w : World) (base : Nat) (v : Value) (l : List UInt8) : Prop where
  own : w.ownsRow base 5 1 v l.length (Lib.byteCells l)
  ne : v ≠ .slice none 0 0

theorem OwnB.form {w : World} {base : Nat} {v : Value} {l : List UInt8} (h : OwnB w base v l) :
    ∃ g cap, v = .slice (some ⟨g, 0, none⟩) l.length cap ∧ ∀ j (hj : j < l.length), w.cell? ((⟨g, 0, none⟩ : Addr).add j) = some (.int .u8 (l[j].toNat : Int)) := by
  rcases h.own.2 with ⟨h0, _⟩ | ⟨g, cap, cur, rfl, _⟩
  · exact absurd h0 h.ne
  · refine ⟨g, cap, rfl, fun j hj => ?_⟩
    refine h.own.cells (g := g) rfl j _ ?_
    simp [Lib.byteCells, hj]

theorem OwnB.step {w wr w1 : World} {v v' : Value} {l m : List UInt8} (h : OwnB wr w.heap.size v l) (hb : Below w.heap.size w wr)
    (h' : w1.ownsRow w.heap.size 5 1 v' (l.length + m.length) (Lib.byteCells l ++ Lib.byteCells m)) (hg : wr.grownBy w1 v.ownBlock) (hi : v' = .slice none 0 0 ↔ v = .slice none 0 0 ∧ m.length = 0) :
    OwnB w1 w.heap.size v' (l ++ m) ∧ Below w.heap.size w w1 := by
  refine ⟨⟨?_, fun e => h.ne (hi.1 e).1⟩, hb.grown hg hb.size (fun j hj => (h.own.lt j hj).1)⟩
  rw [List.length_append, Lib.byteCells_append]; exact h'

theorem OwnB.step1 {w wr w1 : World} {v v' : Value} {l : List UInt8} {o : Obj} (h : OwnB wr w.heap.size v l) (hb : Below w.heap.size w wr)
    (h' : w1.ownsRow w.heap.size 5 1 v' (l.length + 1) (Lib.byteCells l ++ [.int .u8 10])) (hg : (wr.alloc o).grownBy w1 v.ownBlock) (hi : v' = .slice none 0 0 ↔ v = .slice none 0 0 ∧ 1 = 0) :
    OwnB w1 w.heap.size v' (l ++ [10]) ∧ Below w.heap.size w w1 :=
  OwnB.step (w := w) (wr := wr.alloc o) (m := [10]) ⟨h.own.alloc o, h.ne⟩ (hb.alloc hb.size o) h' hg hi

theorem OwnB.stepS {w wr w1 : World} {v v' : Value} {l : List UInt8} {s : ByteArray} (h : OwnB wr w.heap.size v l) (hb : Below w.heap.size w wr)
    (h' : w1.ownsRow w.heap.size 5 1 v' (l.length + s.size) (Lib.byteCells l ++ Lib.strCells s)) (hg : wr.grownBy w1 v.ownBlock) (hi : v' = .slice none 0 0 ↔ v = .slice none 0 0 ∧ s.size = 0) :
    OwnB w1 w.heap.size v' (l ++ s.data.toList) ∧ Below w.heap.size w w1 :=
  OwnB.step (m := s.data.toList) h hb (by rw [len_eq]; exact h') hg (by rw [len_eq]; exact hi)

theorem own_start (w : World) : OwnB (w.alloc (.cells #[] 5)) w.heap.size (.slice (some ⟨w.heap.size, 0, none⟩) 0 0) [] :=
  ⟨World.ownsRow_lit (size := 1) w #[] 0 (Nat.le_refl _) (Nat.zero_le _) rfl, by simp⟩

/-- A slice of strings reads as R. -/
structure RdS (w : World) (ao : Option Addr) (n : Nat) (R : List ByteArray) : Prop where
  len : R.length = n
  at' : ∀ j, j < n → ∃ g, ao = some ⟨g, 0, none⟩ ∧ w.cell? ⟨g, j, none⟩ = some (.string (R.getD j emp))

theorem RdS.addr {w : World} {ao : Option Addr} {n : Nat} {R : List ByteArray} (h : RdS w ao n R) (hn : 0 < n) :
    ∃ g, ao = some ⟨g, 0, none⟩ ∧ ∀ j, j < n → w.cell? ⟨g, j, none⟩ = some (.string (R.getD j emp)) := by
  obtain ⟨g, rfl, _⟩ := h.at' 0 hn
  refine ⟨g, rfl, fun j hj => ?_⟩
  obtain ⟨g', he, hc⟩ := h.at' j hj
  simp only [Option.some.injEq, Addr.mk.injEq, and_true] at he
  subst he
  exact hc

set_option maxHeartbeats 1000000 in
/-- zzJoinRows. -/
theorem joinRows_any (ao : Option Addr) (n cap : Nat) (R : List ByteArray) (w : World) (h : RdS w ao n R) (hn : n ≤ 1073741824) (hl : (jn R).length ≤ 1073741824) :
    Calls Try.prog 6 #[.slice ao n cap] w fun e w' => e = .returned (.string ⟨(joinR R).toArray⟩) ∧ Below w.heap.size w w' := by
  obtain ⟨i0, hi, hz0, hz1, hz2⟩ := info_parts Try.info5
  have hlen := h.len
  by_cases h0 : n = 0
  · subst h0
    have hR : R = [] := List.eq_nil_of_length_eq_zero hlen
    subst hR
    clear hlen hl hn
    have hcv : ∀ c w', (convert 29 9 (.slice (some ⟨w.heap.size, 0, none⟩) 0 c)).run Try.prog w' = .ok (.string ⟨#[]⟩) w' := fun c w' => run_convert_bytes_back (P := Try.prog) w' 29 9 5 ⟨w.heap.size, 0, none⟩ c [] Try.underlying29 Try.underlying5 Try.underlying9 (fun j hj => absurd hj (Nat.not_lt_zero _))
    go_enter Try.func6, Try.ntmps6
    go_wp2
    go_loopw [3, 4] (fun v i wr => i = .int .i64 0 ∧ v = .slice (some ⟨w.heap.size, 0, none⟩) 0 0 ∧ wr = w.alloc (.cells #[] 5)) (fun _ _ _ => 0)
    case atStart => exact ⟨rfl, rfl, rfl⟩
    case round =>
      obtain ⟨rfl, rfl, rfl⟩ := hrel
      go_wp2
      go_ret
      exact ⟨rfl, (Below.refl _ _).alloc (Nat.le_refl _) _⟩
  · obtain ⟨g, rfl, hc⟩ := h.addr (by omega)
    have hgw : g < w.heap.size := World.block_lt_of_cell? _ _ (hc 0 (by omega))
    clear h
    have HL : Hid (R.length = n) := hlen
    clear hlen
    go_enter Try.func6, Try.ntmps6
    go_wp2
    go_loopw [3, 4] (fun v i wr => ∃ k : Nat, k ≤ n ∧ i = .int .i64 k ∧ OwnB wr w.heap.size v (joinR (R.take k)) ∧ Below w.heap.size w wr) (fun _ i _ => n - (intOf i).toNat)
    case atStart => exact ⟨0, Nat.zero_le _, rfl, own_start w, (Below.refl _ _).alloc (Nat.le_refl _) _⟩
    case round =>
      obtain ⟨k, hk, rfl, hown, hbl⟩ := hrel
      obtain ⟨L, hL⟩ : ∃ L, L = joinR (R.take k) := ⟨_, rfl⟩
      rw [← hL] at hown
      have HJ : Hid (L = joinR (R.take k)) := hL
      have hLl : L.length ≤ 1073741824 := by
        have e1 := join_le (R.take k)
        have e2 := jn_take_le R k
        rw [hL]; omega
      clear hL
      have hsz := hbl.size
      by_cases hlt : k < n
      · obtain ⟨r, hr⟩ : ∃ r, r = R.getD k emp := ⟨_, rfl⟩
        have HR : Hid (r = R.getD k emp) := hr
        have hcell : wr.cell? ⟨g, k, none⟩ = some (.string r) := by rw [hr]; exact (hbl.cell hgw).trans (hc k hlt)
        have hrl : r.size ≤ 1073741824 := by
          have e2 := jn_take_le R (k + 1)
          have hkl : k < R.length := by have := HL.out; omega
          rw [take_snoc hkl, jn_append, jn_one, ← hr] at e2
          simp only [List.length_append, List.length_cons, len_eq] at e2
          omega
        clear hr hc
        by_cases hk0 : k = 0
        · subst hk0
          go_wp2_with (first
            | (at_builtin; refine Lib.wpList_append_own_string _ rfl (.tmp 17) (.tmp 21) 29 9 rfl w.heap.size 5 i0 Try.underlying29 Try.underlying9 hi hz0 hz1 hz2 _ _ _ rfl hown.own r rfl (by unfold maxLen; omega) (by omega) hsz ?_; intro v2 w2 ho2 hg2 hi2))
          have S2 := OwnB.stepS hown hbl ho2 hg2 hi2
          clear ho2 hg2 hi2
          go_roundw
          case rel =>
            refine ⟨1, by omega, rfl, ?_, S2.2⟩
            have e : joinR (R.take 1) = L ++ r.data.toList := by
              rw [join_first (by have := HL.out; omega), ← HR.out, HJ.out]; rfl
            rw [e]; exact S2.1
          case measure => simp [intOf]; omega
        · have hkp : 0 < k := by omega
          clear hk0
          go_wp2_with (first
            | (at_builtin; refine Lib.wpList_append_own_string _ rfl (.tmp 17) (.tmp 21) 29 9 rfl w.heap.size 5 i0 Try.underlying29 Try.underlying9 hi hz0 hz1 hz2 _ _ _ rfl S1.1.own r rfl (by unfold maxLen; simp; omega) (by simp; omega) S1.2.size ?_; intro v2 w2 ho2 hg2 hi2)
            | (at_builtin; refine wpList_append_own _ rfl (.tmp 14) (.tmp 15) 29 rfl w.heap.size 5 i0 (.int .u8 0) 1 1 Try.underlying29 hi hz0 hz1 hz2 rfl (by decide) _ _ _ rfl (hown.own.alloc _) ⟨wr.heap.size, 0, none⟩ 1 1 [.int .u8 10] rfl rfl (cell_one_new _ _ _) (by simp; rfl) (by unfold maxLen; omega) (by omega) (by simp; omega) ?_; intro v1 w1 ho1 hg1 hi1; have S1 := OwnB.step1 hown hbl ho1 hg1 hi1; have hc1 := (S1.2.cell (p := ⟨g, k, none⟩) hgw).trans ((hbl.cell (p := ⟨g, k, none⟩) hgw).symm.trans hcell)))
          have S2 := OwnB.stepS S1.1 S1.2 ho2 hg2 hi2
          clear ho2 hg2 hi2 ho1 hg1 hi1
          go_roundw
          case rel =>
            refine ⟨k + 1, by omega, by go_num, ?_, S2.2⟩
            have e : joinR (R.take (k + 1)) = L ++ [10] ++ r.data.toList := by
              rw [join_next hkp (by have := HL.out; omega), ← HR.out, ← HJ.out]; simp
            rw [e]; exact S2.1
          case measure => simp [intOf]; omega
      · obtain ⟨g2, c2, rfl, hcs⟩ := hown.form
        have hcv := run_convert_bytes_back (P := Try.prog) wr 29 9 5 ⟨g2, 0, none⟩ c2 L Try.underlying29 Try.underlying5 Try.underlying9 hcs
        clear hcs hc hown
        go_wp2
        go_ret
        refine ⟨?_, hbl⟩
        have e : joinR R = L := by rw [HJ.out, List.take_of_length_le (by have := HL.out; omega)]
        rw [e]; rfl
end Go.Proofs.Qxb6617571a
