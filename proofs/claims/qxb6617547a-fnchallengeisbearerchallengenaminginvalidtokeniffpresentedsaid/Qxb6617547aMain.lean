/-
  THE LAW's OWN WALK, at both of its inputs.
-/
import Derived.Test.Qxb6617547aParse
namespace Go.Proofs.Qxb6617547a
open Go.RowKit

/-- The constant of the text that the scheme is held against. -/
def lowB : ByteArray := { data := #[98, 101, 97, 114, 101, 114] }
theorem bas_size : bas.size = 6 := by decide
theorem bas_low_size : bas.size = lowB.size := by decide
theorem bas_low' : ∀ k : Fin 6, low ((bas[k.val]'k.isLt).toNat : Int) = low ((lowB[k.val]'k.isLt).toNat : Int) := by decide
theorem bas_low (k : Nat) (h1 : k < bas.size) (h2 : k < lowB.size) : low ((bas[k]'h1).toNat : Int) = low ((lowB[k]'h2).toNat : Int) := bas_low' ⟨k, h2⟩
theorem bas_letter' : ∀ k : Fin 6, (65 ≤ ((bas[k.val]'k.isLt).toNat : Int) ∧ ((bas[k.val]'k.isLt).toNat : Int) ≤ 90) ∨ (97 ≤ ((bas[k.val]'k.isLt).toNat : Int) ∧ ((bas[k.val]'k.isLt).toNat : Int) ≤ 122) := by decide
theorem bas_letter (k : Nat) (h : k < bas.size) : (65 ≤ ((bas[k]'h).toNat : Int) ∧ ((bas[k]'h).toNat : Int) ≤ 90) ∨ (97 ≤ ((bas[k]'h).toNat : Int) ∧ ((bas[k]'h).toNat : Int) ≤ 122) := bas_letter' ⟨k, h⟩
theorem chal_letter' : ∀ k : Fin 28, k.val < 6 → (65 ≤ ((chal[k.val]'(by rw [chal_size]; omega)).toNat : Int) ∧ ((chal[k.val]'(by rw [chal_size]; omega)).toNat : Int) ≤ 90) ∨ (97 ≤ ((chal[k.val]'(by rw [chal_size]; omega)).toNat : Int) ∧ ((chal[k.val]'(by rw [chal_size]; omega)).toNat : Int) ≤ 122) := by decide
theorem chal_letter (k : Nat) (h : k < chal.size) (h6 : k < 6) : (65 ≤ ((chal[k]'h).toNat : Int) ∧ ((chal[k]'h).toNat : Int) ≤ 90) ∨ (97 ≤ ((chal[k]'h).toNat : Int) ∧ ((chal[k]'h).toNat : Int) ≤ 122) :=
  chal_letter' ⟨k, by rw [chal_size] at h; exact h⟩ h6
theorem chal_6 : ((chal[6]'(by rw [chal_size]; omega)).toNat : Int) = 32 := by decide
theorem chal_7 : ((chal[7]'(by rw [chal_size]; omega)).toNat : Int) = 101 := by decide
theorem chal_head : chal.extract 0 6 = bas := by decide
theorem bas_whole : bas.extract 0 6 = bas := by decide

theorem below_drewN (B : Nat) (w : World) (n : Nat) : Below B w (w.drewN n) := ⟨rfl, rfl, rfl, Nat.le_refl _, fun _ _ => rfl⟩

set_option maxRecDepth 100000 in
set_option maxHeartbeats 1000000 in
theorem main_yes (w : World) : Calls Try.prog 3 #[.bool true] w fun e w' => e = .returned (.bool true) ∧ Below w.heap.size w w' := by
  have hsz := chal_size
  have hbz := bas_size
  have h6 := chal_6
  have h7 := chal_7
  have hh := chal_head
  go_enter Try.func3, Try.ntmps3
  go_wp2_with fail
  refine (challenge_no _).mono ?_
  rintro e w' ⟨rfl, h⟩
  have h' := h.symm; clear h; subst h'
  go_wp2_with fail
  refine (challenge_yes _).mono ?_
  rintro e w' ⟨rfl, h⟩
  have h' := h.symm; clear h; subst h'
  go_wp2_with fail
  refine (eqFold_yes _ lowB _ bas_low_size (by decide) bas_low).mono ?_
  rintro e w1 ⟨rfl, m, hm⟩
  have hb1 : Below w.heap.size w w1 := by rw [hm]; exact below_drewN _ _ _
  clear hm
  go_upto_block 0 with fail
  go_cut [5] (fun x wr => x = .int .i64 6 ∧ wr = w1)
  case first =>
    go_wp2_with fail
    go_loopw [5] (fun i wr => ∃ k : Nat, k ≤ 6 ∧ i = .int .i64 k ∧ wr = w1) (fun i _ => 6 - (intOf i).toNat)
    case atStart => exact ⟨0, by omega, rfl, rfl⟩
    case round =>
      obtain ⟨k, hk, rfl, hw⟩ := hrel
      have hw' := hw.symm; clear hw; subst hw'
      by_cases hlt : k < 6
      · have hb := chal_letter k (by omega) hlt
        go_wp2_with (go_at_call 6; refine (tchar_letter _ _ hb).mono ?_; rintro e w' ⟨rfl, h⟩; have h' := h.symm; clear h; subst h')
        go_roundw
        case rel => exact ⟨k + 1, by omega, by go_num, trivial⟩
        case measure => simp [intOf]; omega
      · have hk : k = 6 := by omega
        subst hk
        go_wp2_with (go_at_call 6; refine (tchar_no _ _ (Or.inl rfl)).mono ?_; rintro e w' ⟨rfl, h⟩; have h' := h.symm; clear h; subst h')
        go_meet
        case rel => exact ⟨rfl, rfl⟩
  case rest =>
    obtain ⟨rfl, hw⟩ := hcut
    have hw' := hw.symm; clear hw; subst hw'
    go_wp2_with fail
    go_loopw [5] (fun i wr => (i = .int .i64 6 ∨ i = .int .i64 7) ∧ wr = w1) (fun i _ => 7 - (intOf i).toNat)
    case atStart => exact ⟨.inl rfl, rfl⟩
    case round =>
      obtain ⟨hi, hw⟩ := hrel
      have hw' := hw.symm; clear hw; subst hw'
      rcases hi with rfl | rfl
      · go_wp2_with fail
        go_roundw
        case rel => exact ⟨.inr rfl, trivial⟩
        case measure => simp [intOf]
      · go_wp2_with fail
        refine (parse_chal _).mono ?_
        rintro e w2 ⟨rfl, hb2⟩
        go_wp2_with fail
        go_ret
        exact ⟨rfl, hb1.trans (hb2.mono hb1.size)⟩

set_option maxRecDepth 100000 in
set_option maxHeartbeats 1000000 in
theorem main_no (w : World) : Calls Try.prog 3 #[.bool false] w fun e w' => e = .returned (.bool true) ∧ Below w.heap.size w w' := by
  have hbz := bas_size
  have hh := bas_whole
  go_enter Try.func3, Try.ntmps3
  go_wp2_with fail
  refine (challenge_no _).mono ?_
  rintro e w' ⟨rfl, h⟩
  have h' := h.symm; clear h; subst h'
  go_wp2_with fail
  refine (challenge_no _).mono ?_
  rintro e w' ⟨rfl, h⟩
  have h' := h.symm; clear h; subst h'
  go_wp2_with fail
  refine (eqFold_yes _ lowB _ bas_low_size (by decide) bas_low).mono ?_
  rintro e w1 ⟨rfl, m, hm⟩
  have hb1 : Below w.heap.size w w1 := by rw [hm]; exact below_drewN _ _ _
  clear hm
  go_wp2_with fail
  go_loopw [5] (fun i wr => ∃ k : Nat, k ≤ 6 ∧ i = .int .i64 k ∧ wr = w1) (fun i _ => 6 - (intOf i).toNat)
  case atStart => exact ⟨0, by omega, rfl, rfl⟩
  case round =>
    obtain ⟨k, hk, rfl, hw⟩ := hrel
    have hw' := hw.symm; clear hw; subst hw'
    by_cases hlt : k < 6
    · have hb := bas_letter k (by omega)
      go_wp2_with (go_at_call 6; refine (tchar_letter _ _ hb).mono ?_; rintro e w' ⟨rfl, h⟩; have h' := h.symm; clear h; subst h')
      go_roundw
      case rel => exact ⟨k + 1, by omega, by go_num, trivial⟩
      case measure => simp [intOf]; omega
    · have hk : k = 6 := by omega
      subst hk
      go_wp2_with fail
      go_ret
      exact ⟨rfl, hb1⟩

end Go.Proofs.Qxb6617547a
