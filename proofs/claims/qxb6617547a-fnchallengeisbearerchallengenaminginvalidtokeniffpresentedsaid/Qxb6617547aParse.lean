/-
  THE WALK of zzParseAuthParams at the header that names the error, from its eighth byte on.
-/
import Derived.Test.Qxb6617547aWalks
import Derived.Deep.DeepCutAuto
import Derived.Deep.CutBlock
namespace Go.Proofs.Qxb6617547a
open Go.RowKit

theorem chal_size : chal.size = 28 := by decide
theorem chal_12 : ((chal[12]'(by rw [chal_size]; omega)).toNat : Int) = 61 := by decide
theorem chal_13 : ((chal[13]'(by rw [chal_size]; omega)).toNat : Int) = 34 := by decide
theorem chal_27 : ((chal[27]'(by rw [chal_size]; omega)).toNat : Int) = 34 := by decide

theorem chal_name' : ∀ j : Fin 28, 7 ≤ j.val → j.val < 12 → 97 ≤ ((chal[j.val]'(by rw [chal_size]; omega)).toNat : Int) ∧ ((chal[j.val]'(by rw [chal_size]; omega)).toNat : Int) ≤ 122 := by decide
theorem chal_name (k : Nat) (h : k < chal.size) (h7 : 7 ≤ k) (h12 : k < 12) : 97 ≤ ((chal[k]'h).toNat : Int) ∧ ((chal[k]'h).toNat : Int) ≤ 122 :=
  chal_name' ⟨k, by rw [chal_size] at h; exact h⟩ h7 h12

/-- The bytes between the quotes. -/
def tk : List Int := [105, 110, 118, 97, 108, 105, 100, 95, 116, 111, 107, 101, 110]
theorem chal_val' : ∀ j : Fin 28, 14 ≤ j.val → j.val < 27 → ((chal[j.val]'(by rw [chal_size]; omega)).toNat : Int) = tk.getD (j.val - 14) 0 ∧ tk.getD (j.val - 14) 0 ≠ 34 ∧ tk.getD (j.val - 14) 0 ≠ 92 := by decide
theorem chal_val (k : Nat) (h : k < chal.size) (h14 : 14 ≤ k) (h27 : k < 27) : ((chal[k]'h).toNat : Int) = tk.getD (k - 14) 0 ∧ tk.getD (k - 14) 0 ≠ 34 ∧ tk.getD (k - 14) 0 ≠ 92 :=
  chal_val' ⟨k, by rw [chal_size] at h; exact h⟩ h14 h27
def tkc (n : Nat) : List Value := (tk.take n).map (Value.int .u8)
theorem tkc_step {n : Nat} (h : n < 13) : tkc n ++ [.int .u8 (tk.getD n 0)] = tkc (n + 1) := by
  unfold tkc
  have hl : n < tk.length := h
  rw [List.take_succ_eq_append_getElem hl, List.map_append, List.getD_eq_getElem?_getD, List.getElem?_eq_getElem hl]
  rfl

/-- One byte more goes into the row. -/
theorem val_step {w wr w1 : World} {v v' : Value} {k : Nat} {z : Int} {o : Obj} (h14 : 14 ≤ k) (h27 : k < 27) (HZ : Hid (z = tk.getD (k - 14) 0)) (hown : wr.ownsRow w.heap.size 5 1 v (k - 14) (tkc (k - 14))) (hb : Below w.heap.size w wr)
    (hown' : w1.ownsRow w.heap.size 5 1 v' (k - 14 + 1) (tkc (k - 14) ++ [.int .u8 z])) (hg : (wr.alloc o).grownBy w1 v.ownBlock) :
    w1.ownsRow w.heap.size 5 1 v' (k + 1 - 14) (tkc (k + 1 - 14)) ∧ Below w.heap.size w w1 := by
  have e : k + 1 - 14 = k - 14 + 1 := by omega
  rw [e, ← tkc_step (by omega), ← HZ.out]
  refine ⟨hown', (hb.alloc hb.size _).grown hg (by have := hb.size; simp; omega) (fun j hj => (hown.lt j hj).1)⟩

/-- The value, read whole: thirteen bytes. -/
def tokB : ByteArray := { data := #[105, 110, 118, 97, 108, 105, 100, 95, 116, 111, 107, 101, 110] }
theorem tokB_size : tokB.size = 13 := by decide
theorem tokB_tk : ∀ j : Fin 13, tk[j.val]? = some ((tokB[j.val]'(by rw [tokB_size]; exact j.isLt)).toNat : Int) := by decide
theorem tokB_cell (j : Fin 13) : (tkc 13)[j.val]? = some (.int .u8 ((tokB[j.val]'(by rw [tokB_size]; exact j.isLt)).toNat : Int)) := by
  have e : tk.take 13 = tk := rfl
  unfold tkc
  rw [e, List.getElem?_map, tokB_tk j]
  rfl
theorem val_row {w wr : World} {v : Value} (h : wr.ownsRow w.heap.size 5 1 v 13 (tkc 13)) :
    ∃ g cap, v = .slice (some ⟨g, 0, none⟩) 13 cap ∧ ∀ j (h : j < tokB.size), wr.cell? ⟨g, j, none⟩ = some (.int .u8 ((tokB[j]'h).toNat : Int)) := by
  rcases h.2 with ⟨_, h0⟩ | ⟨g, cap, cur, rfl, _⟩
  · omega
  · refine ⟨g, cap, rfl, fun j hj => ?_⟩
    have hj' : j < 13 := by rw [tokB_size] at hj; exact hj
    rw [h.cellAt j (by omega)]
    exact tokB_cell ⟨j, hj'⟩

/-- The name, against the constant of the text. -/
def errB : ByteArray := { data := #[101, 114, 114, 111, 114] }
theorem name_size : (chal.extract 7 12).size = errB.size := by decide
theorem name_low' : ∀ k : Fin 5, low (((chal.extract 7 12)[k.val]'(by rw [name_size]; exact k.isLt)).toNat : Int) = low ((errB[k.val]'k.isLt).toNat : Int) := by decide
theorem name_low (k : Nat) (h1 : k < (chal.extract 7 12).size) (h2 : k < errB.size) : low (((chal.extract 7 12)[k]'h1).toNat : Int) = low ((errB[k]'h2).toNat : Int) := name_low' ⟨k, h2⟩

theorem Try.info5 : (Try.prog.info? 5).map (fun i => (i.zero, i.size, i.bytes)) = some (some (.int .u8 0), 1, 1) := by kernel_rfl

set_option maxRecDepth 100000 in
set_option maxHeartbeats 1000000 in
theorem parse_chal (w : World) :
    Calls Try.prog 7 #[.string chal, .int .i64 7] w fun e w' => e = .returned (.tuple #[.bool true, .int .i64 1, .int .i64 1]) ∧ Below w.heap.size w w' := by
  obtain ⟨i0, hi, hz0, hz1, hz2⟩ := info_parts Try.info5
  have hsz := chal_size
  have h12 := chal_12
  have h13 := chal_13
  have h27 := chal_27
  go_enter Try.func7, Try.ntmps7
  go_wp2
  refine wp_loop_rounds 1 ?_
  rw [rounds_succ]
  go_upto_block 2 with fail
  go_cut [1] (fun x wr => x = .int .i64 12 ∧ wr = w)
  case first =>
    go_wp2_with fail
    go_loopw [1] (fun i wr => ∃ k : Nat, 7 ≤ k ∧ k ≤ 12 ∧ i = .int .i64 k ∧ wr = w) (fun i _ => 12 - (intOf i).toNat)
    case atStart => exact ⟨7, by omega, by omega, rfl, rfl⟩
    case round =>
      obtain ⟨k, hk7, hk12, rfl, rfl⟩ := hrel
      by_cases hlt : k < 12
      · have hb := chal_name k (by omega) hk7 hlt
        go_wp2_with (go_at_call 6; refine (tchar_letter _ _ (Or.inr hb)).mono ?_; rintro e w' ⟨rfl, h⟩; have h' := h.symm; clear h; subst h')
        go_roundw
        case rel => exact ⟨k + 1, by omega, by omega, by go_num, trivial⟩
        case measure => simp [intOf]; omega
      · have hk : k = 12 := by omega
        subst hk
        go_wp2_with (go_at_call 6; refine (tchar_no _ _ (Or.inr rfl)).mono ?_; rintro e w' ⟨rfl, h⟩; have h' := h.symm; clear h; subst h')
        go_meet
        case rel => exact ⟨rfl, rfl⟩
  case rest =>
    obtain ⟨rfl, hw⟩ := hcut
    have hw' := hw.symm; clear hw; subst hw'
    go_wp2_with fail
    refine wp_loop_rounds 1 ?_
    rw [rounds_succ]
    go_wp2_with fail
    refine wp_loop_rounds 1 ?_
    rw [rounds_succ]
    go_upto_block 8 with fail
    go_cut [1, 11, 12] (fun i v c wr => i = .int .i64 28 ∧ c = .bool true ∧ wr.ownsRow w.heap.size 5 1 v 13 (tkc 13) ∧ Below w.heap.size w wr)
    case first =>
      go_wp2_with fail
      go_loopw [1, 11] (fun i v wr => ∃ k : Nat, 14 ≤ k ∧ k ≤ 27 ∧ i = .int .i64 k ∧ wr.ownsRow w.heap.size 5 1 v (k - 14) (tkc (k - 14)) ∧ Below w.heap.size w wr) (fun i _ _ => 27 - (intOf i).toNat)
      case atStart => exact ⟨14, by omega, by omega, rfl, World.ownsRow_nil _ _ _ _, Below.refl _ _⟩
      case round =>
        obtain ⟨k, hk14, hk27, rfl, hown, hbl⟩ := hrel
        by_cases hlt : k < 27
        · obtain ⟨z, hz⟩ : ∃ z, ((chal[k]'(by omega)).toNat : Int) = z := ⟨_, rfl⟩
          have hv := chal_val k (by omega) hk14 hlt
          rw [hz] at hv
          have HZ : Hid (z = tk.getD (k - 14) 0) := hv.1
          have e34 : (z == 34) = false := by simp; rw [hv.1]; exact hv.2.1
          have e92 : (z == 92) = false := by simp; rw [hv.1]; exact hv.2.2
          clear hv
          go_wp2_with (first
            | (at_builtin; refine wpList_append_own _ rfl (.tmp 122) (.tmp 124) 29 rfl w.heap.size 5 i0 (.int .u8 0) 1 1 Try.underlying29 hi hz0 hz1 hz2 rfl (by decide) _ _ _ rfl (hown.alloc _) ⟨wr.heap.size, 0, none⟩ 1 1 [.int .u8 z] rfl rfl (cell_one_new _ _ _) (by simp; rfl) (by unfold maxLen; omega) (by omega) (by have := hbl.size; simp; omega) ?_; intro v' w1 hown' hgrow _))
          have R := val_step hk14 hlt HZ hown hbl hown' hgrow
          clear hown' hgrow
          go_roundw
          case rel => exact ⟨k + 1, by omega, by omega, by go_num, R.1, R.2⟩
          case measure => simp [intOf]; omega
        · have hk : k = 27 := by omega
          subst hk
          go_wp2_with fail
          go_meet
          case rel => exact ⟨rfl, rfl, hown, hbl⟩
    case rest =>
      obtain ⟨rfl, rfl, hown, hbl⟩ := hcut
      obtain ⟨g, cap, hv, hcells⟩ := val_row hown
      subst hv
      clear hown
      clear h12 h13 h27 hi hz0 hz1 hz2
      go_wp2_with fail
      refine (eqFold_yes _ _ _ name_size (by rw [name_size]; decide) name_low).mono ?_
      rintro e w2 ⟨rfl, m2, hm2⟩
      subst hm2
      go_wp2_with fail
      refine (bytesEq_yes g cap 13 tokB (wc.drewN m2) tokB_size (by decide) hcells).mono ?_
      rintro e w3 ⟨rfl, m3, hm3⟩
      subst hm3
      clear hcells
      go_wp2_with fail
      refine wp_loop_rounds 1 ?_
      rw [rounds_succ]
      go_wp2_with fail
      go_ret3
      exact ⟨rfl, (hbl.trans ⟨rfl, rfl, rfl, Nat.le_refl _, fun _ _ => rfl⟩).trans ⟨rfl, rfl, rfl, Nat.le_refl _, fun _ _ => rfl⟩⟩
end Go.Proofs.Qxb6617547a
