/-
  THE WALK of zzLiteralRows.
-/
import Derived.Test.Qxb6617571aJoin
import Derived.Deep.AppendLies
import Derived.Deep.RegionLaw
namespace Go.Proofs.Qxb6617571a
open Go.RowKit Plain

/-- The slice v, not nil, in the call's own memory from 'base' on, holds the strings R. -/
structure OwnS (w : World) (base : Nat) (v : Value) (R : List ByteArray) : Prop where
  own : w.ownsRow base 9 1 v R.length (R.map Value.string)
  ne : v ≠ .slice none 0 0

theorem OwnS.form {w : World} {base : Nat} {v : Value} {R : List ByteArray} (h : OwnS w base v R) :
    ∃ ao cap, v = .slice ao R.length cap ∧ RdS w ao R.length R := by
  rcases h.own.2 with ⟨h0, _⟩ | ⟨g, cap, cur, rfl, _⟩
  · exact absurd h0 h.ne
  · refine ⟨some ⟨g, 0, none⟩, cap, rfl, rfl, fun j hj => ⟨g, rfl, ?_⟩⟩
    rw [h.own.cellAt j (by omega)]
    simp [hj]

theorem OwnS.step {w wr w1 : World} {v v' : Value} {R : List ByteArray} {s : ByteArray} {o : Obj} (h : OwnS wr w.heap.size v R) (hb : Below w.heap.size w wr)
    (h' : w1.ownsRow w.heap.size 9 1 v' (R.length + 1) (R.map Value.string ++ [.string s])) (hg : (wr.alloc o).grownBy w1 v.ownBlock) (hi : v' = .slice none 0 0 ↔ v = .slice none 0 0 ∧ 1 = 0) :
    OwnS w1 w.heap.size v' (R ++ [s]) ∧ Below w.heap.size w w1 := by
  refine ⟨⟨?_, fun e => h.ne (hi.1 e).1⟩, (hb.alloc hb.size o).grown hg (by have := hb.size; simp; omega) (fun j hj => (h.own.lt j hj).1)⟩
  rw [List.length_append, List.map_append]; exact h'

theorem OwnS.lies {w wr w1 : World} {v : Value} {R : List ByteArray} {s : ByteArray} {o : Obj} {g cp : Nat} (h : OwnS wr w.heap.size v R) (hb : Below w.heap.size w wr)
    (h' : w1.ownsRow w.heap.size 9 1 (.slice (some ⟨g, 0, none⟩) (R.length + 1) cp) (R.length + 1) (R.map Value.string ++ [.string s])) (hg : (wr.alloc o).drew.grownBy w1 v.ownBlock) :
    OwnS w1 w.heap.size (.slice (some ⟨g, 0, none⟩) (R.length + 1) cp) (R ++ [s]) ∧ Below w.heap.size w w1 := by
  refine ⟨⟨?_, by simp⟩, (hb.alloc hb.size o).drew.grown hg (by have := hb.size; simp; omega) (fun j hj => (h.own.lt j hj).1)⟩
  rw [List.length_append, List.map_append]; exact h'

theorem ownS_start (w : World) : OwnS (w.alloc (.cells #[] 9)) w.heap.size (.slice (some ⟨w.heap.size, 0, none⟩) 0 0) [] :=
  ⟨World.ownsRow_lit (size := 1) w #[] 0 (Nat.le_refl _) (Nat.zero_le _) rfl, by simp⟩

theorem rep_snoc (R : List ByteArray) (j : Nat) : R ++ List.replicate j emp ++ [emp] = R ++ List.replicate (j + 1) emp := by
  rw [List.append_assoc, ← List.replicate_succ']

set_option maxRecDepth 100000 in
set_option maxHeartbeats 1000000 in
theorem literalRows_any (s : ByteArray) (a1 a2 a3 : Option Addr) (n c1 c2 c3 T : Nat) (l1 l2 l3 : List Int) (w : World) (hn : n ≤ 8192) (hT : T ≤ 65536)
    (h1 : Rd w a1 n l1) (h2 : Rd w a2 n l2) (h3 : Rd w a3 n l3) (hF : Fit s.size l1 l2 l3 n) :
    Calls Try.prog 7 #[.string s, .slice a1 n c1, .slice a2 n c2, .slice a3 n c3, .int .i64 T] w fun e w' => ∃ v, e = .returned v ∧ OwnS w' w.heap.size v (rowsN (segOf s l1 l2) (cntOf l3) n ++ List.replicate T emp) ∧ Below w.heap.size w w' := by
  obtain ⟨i9, hi, hz0, hz1, hz2⟩ := info_parts Try.info9
  have hcn := fit_cnt hF
  have HF : Hid (Fit s.size l1 l2 l3 n) := hF
  obtain ⟨Q, hQ⟩ : ∃ Q, Q = rowsN (segOf s l1 l2) (cntOf l3) := ⟨_, rfl⟩
  have hQl : ∀ k, k ≤ n → (Q k).length ≤ 1056768 := fun k hk => by
    rw [hQ, rows_len]; have := sumF_mono (cntOf l3) hk; omega
  have HQ : Hid (Q = rowsN (segOf s l1 l2) (cntOf l3)) := hQ
  rw [← hQ]
  clear hQ hF hcn
  go_enter Try.func7, Try.ntmps7
  go_upto_block 0 with fail
  go_cut [11, 12, 13] (fun v _ _ wr => OwnS wr w.heap.size v (Q n) ∧ Below w.heap.size w wr)
  case first =>
    by_cases h0 : n = 0
    · subst h0
      have hQ0 : Q 0 = [] := by rw [HQ.out]; rfl
      go_wp2_with fail
      go_loopw [11, 12] (fun v i wr => i = .int .i64 0 ∧ OwnS wr w.heap.size v [] ∧ Below w.heap.size w wr) (fun _ _ _ => 0)
      case atStart => exact ⟨rfl, ownS_start w, (Below.refl _ _).alloc (Nat.le_refl _) _⟩
      case round =>
        obtain ⟨rfl, ho, hb⟩ := hrel
        go_wp2
        go_meet
        case rel => exact ⟨by rw [hQ0]; exact ho, hb⟩
    · obtain ⟨b1, o1, rfl, k1⟩ := h1.addr (by omega)
      obtain ⟨b2, o2, rfl, k2⟩ := h2.addr (by omega)
      obtain ⟨b3, o3, rfl, k3⟩ := h3.addr (by omega)
      have g1 : b1 < w.heap.size := World.block_lt_of_cell? _ _ (k1 0 (by omega))
      have g2 : b2 < w.heap.size := World.block_lt_of_cell? _ _ (k2 0 (by omega))
      have g3 : b3 < w.heap.size := World.block_lt_of_cell? _ _ (k3 0 (by omega))
      clear h1 h2 h3
      go_wp2_with fail
      go_loopw [11, 12] (fun v i wr => ∃ k : Nat, k ≤ n ∧ i = .int .i64 k ∧ OwnS wr w.heap.size v (Q k) ∧ Below w.heap.size w wr) (fun _ i _ => n - (intOf i).toNat)
      case atStart => exact ⟨0, Nat.zero_le _, rfl, by rw [HQ.out]; exact ownS_start w, (Below.refl _ _).alloc (Nat.le_refl _) _⟩
      case round =>
        obtain ⟨k, hk, rfl, hown, hbl⟩ := hrel
        by_cases hlt : k < n
        · have hline := HF.out.line k hlt
          obtain ⟨x, hx⟩ : ∃ x, x = l1.getD k 0 := ⟨_, rfl⟩
          obtain ⟨y, hy⟩ : ∃ x, x = l2.getD k 0 := ⟨_, rfl⟩
          obtain ⟨m, hm⟩ : ∃ m, m = cntOf l3 k := ⟨_, rfl⟩
          rw [← hx, ← hy] at hline
          obtain ⟨t1, t2, t3, t4, t5⟩ := hline
          have hm' : l3.getD k 0 = (m : Int) := by rw [hm]; unfold cntOf; omega
          have hm5 : m ≤ 65536 := by omega
          have HX : Hid (x = l1.getD k 0) := hx
          have HY : Hid (y = l2.getD k 0) := hy
          have HM : Hid (m = cntOf l3 k) := hm
          have K1 : Hid (w.cell? ⟨b1, o1 + k, none⟩ = some (.int .i64 x)) := by show _ = _; rw [hx]; exact k1 k hlt
          have K2 : Hid (w.cell? ⟨b2, o2 + k, none⟩ = some (.int .i64 y)) := by show _ = _; rw [hy]; exact k2 k hlt
          have K3 : Hid (w.cell? ⟨b3, o3 + k, none⟩ = some (.int .i64 m)) := by show _ = _; rw [← hm']; exact k3 k hlt
          have hql := hQl k hk
          clear hx hy hm hm' t4 t5 k1 k2 k3
          go_upto_block 2 with fail
          go_cut [11, 13] (fun v _ wq => OwnS wq w.heap.size v (Q k ++ List.replicate m emp) ∧ Below w.heap.size w wq)
          case first =>
            go_wp2_with fail
            go_loopw [11, 13] (fun v i wq => ∃ j : Nat, j ≤ m ∧ i = .int .i64 j ∧ OwnS wq w.heap.size v (Q k ++ List.replicate j emp) ∧ Below w.heap.size w wq) (fun _ i _ => m - (intOf i).toNat)
            case atStart => exact ⟨0, Nat.zero_le _, rfl, by simpa using hown, hbl⟩
            case round =>
              clear hown hbl
              obtain ⟨j, hj, rfl, hown, hbl⟩ := hrel
              have c3' := (hbl.cell (p := ⟨b3, o3 + k, none⟩) g3).trans K3.out
              obtain ⟨S, hS⟩ : ∃ S, S = Q k ++ List.replicate j emp := ⟨_, rfl⟩
              rw [← hS] at hown
              have HS : Hid (S = Q k ++ List.replicate j emp) := hS
              have hSl : S.length ≤ 1200000 := by rw [hS]; simp; omega
              clear hS
              have hsz := hbl.size
              by_cases hjm : j < m
              · go_wp2_with (first
                  | (at_builtin; refine wpList_append_own _ rfl (.tmp 30) (.tmp 31) 26 rfl w.heap.size 9 i9 (.string { data := #[] }) 1 16 Try.underlying26 hi hz0 hz1 hz2 rfl (by decide) _ _ _ rfl (hown.own.alloc _) ⟨wr.heap.size, 0, none⟩ 1 1 [.string { data := #[] }] rfl rfl (cell_one_new _ _ _) (by simp; rfl) (by unfold maxLen; omega) (by omega) (by simp; omega) ?_; intro v1 w1 ho1 hg1 hi1))
                have R1 := OwnS.step hown hbl ho1 hg1 hi1
                clear ho1 hg1 hi1
                go_roundw
                case rel => exact ⟨j + 1, by omega, by go_num, by rw [← rep_snoc, ← HS.out]; exact R1.1, R1.2⟩
                case measure => simp [intOf]; omega
              · go_wp2_with fail
                go_meet
                case rel =>
                  have e : j = m := by omega
                  subst e
                  exact ⟨by rw [← HS.out]; exact hown, hbl⟩
          case rest =>
            clear hown hbl
            obtain ⟨hown, hbl⟩ := hcut
            have c1' := (hbl.cell (p := ⟨b1, o1 + k, none⟩) g1).trans K1.out
            have c2' := (hbl.cell (p := ⟨b2, o2 + k, none⟩) g2).trans K2.out
            obtain ⟨S, hS⟩ : ∃ S, S = Q k ++ List.replicate m emp := ⟨_, rfl⟩
            rw [← hS] at hown
            have HS : Hid (S = Q k ++ List.replicate m emp) := hS
            have hSl : S.length ≤ 1200000 := by rw [hS]; simp; omega
            clear hS
            have hsz := hbl.size
            have hkn : (k : Int) < n := by omega
            have hsl := fun wx => run_slice_string (P := Try.prog) wx 9 s .i64 .i64 x y Try.underlying9 t1 (by omega) t3
            go_wp2_with fail
            go_region_law (refine step_append_lies _ rfl (.tmp 33) (.tmp 44) 26 rfl w.heap.size 9 i9 (.string { data := #[] }) 1 16 Try.underlying26 hi hz0 hz1 hz2 rfl (by decide) _ _ _ rfl (by exact hown.own.alloc _) ⟨wc.heap.size, 0, none⟩ 1 1 [.string (s.extract x.toNat y.toNat)] rfl rfl (by exact cell_one_new _ _ _) (by simp; rfl) (by decide) (by unfold maxLen; omega) (by omega) (by simp; omega) _ rfl ?_; intro g3' cp w1 ho1 hg1 _ _)
            all_goals
              have R1 := OwnS.lies hown hbl ho1 hg1
              clear ho1 hg1 hown hbl c1' c2' hsl
              go_wp2
              go_roundw
              case rel =>
                refine ⟨k + 1, by omega, by go_num, ?_, R1.2⟩
                have e : Q (k + 1) = S ++ [s.extract x.toNat y.toNat] := by
                  rw [HS.out, HQ.out, HX.out, HY.out, HM.out, rowsN, List.append_assoc]; rfl
                rw [e]; exact R1.1
              case measure => simp [intOf]; omega
        · go_wp2
          go_meet
          case rel =>
            have e : k = n := by omega
            subst e
            exact ⟨hown, hbl⟩
  case rest =>
    obtain ⟨hown, hbl⟩ := hcut
    have hql := hQl n (Nat.le_refl _)
    clear h1 h2 h3 hQl
    go_wp2_with fail
    go_loopw [11, 14] (fun v i wq => ∃ j : Nat, j ≤ T ∧ i = .int .i64 j ∧ OwnS wq w.heap.size v (Q n ++ List.replicate j emp) ∧ Below w.heap.size w wq) (fun _ i _ => T - (intOf i).toNat)
    case atStart => exact ⟨0, Nat.zero_le _, rfl, by simpa using hown, hbl⟩
    case round =>
      clear hown hbl
      obtain ⟨j, hj, rfl, hown, hbl⟩ := hrel
      obtain ⟨S, hS⟩ : ∃ S, S = Q n ++ List.replicate j emp := ⟨_, rfl⟩
      rw [← hS] at hown
      have HS : Hid (S = Q n ++ List.replicate j emp) := hS
      have hSl : S.length ≤ 1200000 := by rw [hS]; simp; omega
      clear hS
      have hsz := hbl.size
      by_cases hjm : j < T
      · go_wp2_with (first
          | (at_builtin; refine wpList_append_own _ rfl (.tmp 51) (.tmp 52) 26 rfl w.heap.size 9 i9 (.string { data := #[] }) 1 16 Try.underlying26 hi hz0 hz1 hz2 rfl (by decide) _ _ _ rfl (hown.own.alloc _) ⟨wr.heap.size, 0, none⟩ 1 1 [.string { data := #[] }] rfl rfl (cell_one_new _ _ _) (by simp; rfl) (by unfold maxLen; omega) (by omega) (by simp; omega) ?_; intro v1 w1 ho1 hg1 hi1))
        have R1 := OwnS.step hown hbl ho1 hg1 hi1
        clear ho1 hg1 hi1
        go_roundw
        case rel => exact ⟨j + 1, by omega, by go_num, by rw [← rep_snoc, ← HS.out]; exact R1.1, R1.2⟩
        case measure => simp [intOf]; omega
      · go_wp2_with fail
        go_ret
        have e : j = T := by omega
        subst e
        exact ⟨_, rfl, by rw [← HS.out]; exact hown, hbl⟩
end Go.Proofs.Qxb6617571a
