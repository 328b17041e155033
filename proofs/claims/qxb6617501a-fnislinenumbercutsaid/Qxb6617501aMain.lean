/-
  THE LAW's OWN WALK: FnIsLineNumberCut returns true; nothing that was there is written.
-/
import Derived.Test.Qxb6617501aWalks
import Derived.WalkSpells
import Derived.Deep.DeepCutAuto
namespace Go.Proofs.Qxb6617501a
open Go.RowKit Plain

theorem ext_le (s : ByteArray) (a b : Nat) (h : s.size ≤ 1048576) : (s.extract a b).size ≤ maxLen := by
  rw [ByteArray.size_extract]; unfold maxLen; omega

theorem isLineNumber_is (s : ByteArray) (w : World) (hs : s.size ≤ maxLen) (b : Bool) (h : Hid (isLine s.data.toList = b)) :
    Calls Try.prog 5 #[.string s] w fun e w' => e = .returned (.bool b) ∧ Below w.heap.size w w' := by
  rw [← h.out]; exact isLineNumber_any s w hs

theorem left_list (s : ByteArray) (k : Nat) : (s.extract 0 k).data.toList = s.data.toList.take k := by
  simp

theorem right_list (s : ByteArray) (k : Nat) : (s.extract k s.size).data.toList = s.data.toList.drop k := by
  simp
  rw [List.take_of_length_le (by rw [List.length_drop, len_eq]; exact Nat.le_refl _)]

theorem one_list (s : ByteArray) (k : Nat) (hk : k < s.size) : (s.extract k (k + 1)).data.toList = [s.data[k]'hk] := by
  have h : k < s.data.toList.length := by rw [len_eq]; exact hk
  simp only [ByteArray.data_extract, Array.toList_extract, List.extract_eq_take_drop]
  rw [List.drop_eq_getElem_cons h, show k + 1 - k = 1 by omega]
  simp

theorem nonempty (s : ByteArray) (h : 0 < s.size) : s.toList.isEmpty = false := by
  rw [ByteArray.toList_eq, List.isEmpty_eq_false_iff, ← List.length_pos_iff, len_eq]; exact h

theorem empty (s : ByteArray) (h : s.size = 0) : s.toList.isEmpty = true := by
  rw [ByteArray.toList_eq, List.isEmpty_iff, ← List.length_eq_zero_iff, len_eq]; exact h

theorem nonempty_pos (s : ByteArray) (h : s.toList.isEmpty = false) : 0 < s.size := by
  rw [ByteArray.toList_eq, List.isEmpty_eq_false_iff, ← List.length_pos_iff, len_eq] at h; exact h

theorem line_cut (s : ByteArray) (k : Nat) (h32 : s.size ≤ 32) (hk0 : 0 < k) (hk : k < s.size) {A B : Bool} (hA : isLine (s.extract 0 k).data.toList = A) (hB : isLine (s.extract k s.size).data.toList = B) :
    isLine s.data.toList = (A && B) := by
  have h := isLine_cut s.data.toList (s.extract 0 k).data.toList (s.extract k s.size).data.toList (by rw [left_list, right_list, List.take_append_drop])
  rw [h]
  unfold joined
  have e1 : s.data.toList.isEmpty = false := by rw [← ByteArray.toList_eq]; exact nonempty s (by omega)
  have e2 : (s.extract 0 k).data.toList.isEmpty = false := by rw [← ByteArray.toList_eq]; exact nonempty _ (by rw [ByteArray.size_extract]; omega)
  have e3 : (s.extract k s.size).data.toList.isEmpty = false := by rw [← ByteArray.toList_eq]; exact nonempty _ (by rw [ByteArray.size_extract]; omega)
  rw [e1, e2, e3, hA, hB, len_eq]
  simp [h32]

theorem line_long (s : ByteArray) (h : 32 < s.size) : isLine s.data.toList = false := by
  unfold isLine
  rw [len_eq, decide_eq_false (by omega)]
  rfl

theorem line_empty (s : ByteArray) (h : s.size = 0) : isLine s.data.toList = false := by
  have : s.data.toList = [] := by rw [← List.length_eq_zero_iff, len_eq]; exact h
  rw [this]; rfl

set_option maxHeartbeats 1000000 in
theorem main_walk (s : ByteArray) (i : Int) (w : World) (h20 : s.size ≤ 1048576)  :
    Calls Try.prog 3 #[.string s, .int .i64 i] w fun e w' => e = .returned (.bool true) ∧ Below w.heap.size w w' := by
  have hs : s.size ≤ maxLen := by unfold maxLen; omega
  go_enter Try.func3, Try.ntmps3
  go_upto_if 18 with (first | (go_at_call 4; refine (bytes_yes _ _ _ h20).mono ?_; rintro e w' ⟨rfl, h⟩; have h' := h.symm; clear h; subst h'))
  go_cut [1] (fun x wr => wr = w ∧ ∃ j : Int, 0 ≤ j ∧ x = .int .i64 j)
  case first => 
    go_wp2
    all_goals go_meet
    case rel => exact ⟨rfl, 0, by omega, rfl⟩
    case rel => exact ⟨rfl, i, by omega, rfl⟩
  case rest =>
    obtain ⟨hw, j, hj, rfl⟩ := hcut
    have hw' := hw.symm; clear hw; subst hw'
    go_upto_if 22 with fail
    go_cut [1] (fun x wr => wr = w ∧ ∃ k : Nat, k ≤ s.size ∧ x = .int .i64 k)
    case first => 
      go_wp2
      all_goals go_meet
      case rel => exact ⟨rfl, s.size, by omega, rfl⟩
      case rel => exact ⟨rfl, j.toNat, by omega, by rw [Int.toNat_of_nonneg hj]⟩
    case rest =>
      obtain ⟨hw, k, hk, rfl⟩ := hcut
      have hw' := hw.symm; clear hw; subst hw'
      clear hj
      clear j
      by_cases h0 : s.size = 0
      · have he := empty s h0
        have H1 : Hid (isLine s.data.toList = false) := line_empty s h0
        have hk0 : ¬ (k < s.size) := by omega
        clear h0
        go_wp2_with fail
        refine (isLineNumber_is _ _ hs _ H1).mono ?_
        rintro e w1 ⟨rfl, b1⟩
        go_wp2_with fail
        go_ret
        exact ⟨rfl, b1⟩
      have he := nonempty s (by omega)
      clear h0
      by_cases h32 : s.size ≤ 32
      · by_cases hk0 : k = 0
        · -- nothing on the left
          subst hk0
          have hlt : 0 < s.size := by have := nonempty_pos s he; omega
          obtain ⟨b, hb⟩ : ∃ b, isLine s.data.toList = b := ⟨_, rfl⟩
          have H1 : Hid (isLine s.data.toList = b) := hb
          have H2 : Hid (isLine (s.extract 0 (0 + 1)).data.toList = dig (s.data[0]'hlt)) := by rw [one_list s 0 hlt]; exact isLine_one _
          have ha : (s.extract 0 0).toList.isEmpty = true := empty _ (by simp)
          have hr : (s.extract 0 s.size).toList.isEmpty = false := nonempty _ (by rw [ByteArray.size_extract]; omega)
          clear hb
          go_wp2_with fail
          refine (isLineNumber_is _ _ hs _ H1).mono ?_
          rintro e w1 ⟨rfl, b1⟩
          go_wp2_with fail
          refine (isLineNumber_is _ _ hs _ H1).mono ?_
          rintro e w2 ⟨rfl, b2⟩
          go_wp2_with fail
          refine (isLineNumber_is _ _ (ext_le _ _ _ h20) _ H2).mono ?_
          rintro e w3 ⟨rfl, b3⟩
          go_wp2_with fail
          refine (digit_any _ (s.data[0]'hlt) rfl _).mono ?_
          rintro e w4 ⟨rfl, h⟩
          have h' := h.symm; clear h; subst h'
          go_wp2_with fail
          go_ret
          exact ⟨rfl, b1.trans ((b2.mono b1.size).trans (b3.mono (Nat.le_trans b1.size b2.size)))⟩
        · by_cases hlt : k < s.size
          · -- something on both sides
            have hp : 0 < k := by omega
            clear hk0
            have H2 : Hid (isLine (s.extract k (k + 1)).data.toList = dig (s.data[k]'hlt)) := by rw [one_list s k hlt]; exact isLine_one _
            have ha : (s.extract 0 k).toList.isEmpty = false := nonempty _ (by rw [ByteArray.size_extract]; omega)
            have hr : (s.extract k s.size).toList.isEmpty = false := nonempty _ (by rw [ByteArray.size_extract]; omega)
            obtain ⟨A, hA⟩ : ∃ b, isLine (s.extract 0 k).data.toList = b := ⟨_, rfl⟩
            obtain ⟨B, hB⟩ : ∃ b, isLine (s.extract k s.size).data.toList = b := ⟨_, rfl⟩
            have H1 : Hid (isLine s.data.toList = (A && B)) := line_cut s k h32 hp hlt hA hB
            have HA : Hid (isLine (s.extract 0 k).data.toList = A) := hA
            have HB : Hid (isLine (s.extract k s.size).data.toList = B) := hB
            clear hA hB
            cases A with
            | false =>
              go_wp2_with fail
              refine (isLineNumber_is _ _ hs false H1).mono ?_
              rintro e w1 ⟨rfl, b1⟩
              go_wp2_with fail
              refine (isLineNumber_is _ _ (ext_le _ _ _ h20) _ HA).mono ?_
              rintro e w2 ⟨rfl, b2⟩
              go_wp2_with fail
              refine (isLineNumber_is _ _ (ext_le _ _ _ h20) _ H2).mono ?_
              rintro e w3 ⟨rfl, b3⟩
              go_wp2_with fail
              refine (digit_any _ (s.data[k]'hlt) rfl _).mono ?_
              rintro e w4 ⟨rfl, h⟩
              have h' := h.symm; clear h; subst h'
              go_wp2_with fail
              go_ret
              exact ⟨rfl, b1.trans ((b2.mono b1.size).trans (b3.mono (Nat.le_trans b1.size b2.size)))⟩
            | true =>
              go_wp2_with fail
              refine (isLineNumber_is _ _ hs B H1).mono ?_
              rintro e w1 ⟨rfl, b1⟩
              go_wp2_with fail
              refine (isLineNumber_is _ _ (ext_le _ _ _ h20) _ HA).mono ?_
              rintro e w2 ⟨rfl, b2⟩
              go_wp2_with fail
              refine (isLineNumber_is _ _ (ext_le _ _ _ h20) _ HB).mono ?_
              rintro e w3 ⟨rfl, b3⟩
              go_wp2_with fail
              refine (isLineNumber_is _ _ (ext_le _ _ _ h20) _ H2).mono ?_
              rintro e w4 ⟨rfl, b4⟩
              go_wp2_with fail
              refine (digit_any _ (s.data[k]'hlt) rfl _).mono ?_
              rintro e w5 ⟨rfl, h⟩
              have h' := h.symm; clear h; subst h'
              go_wp2_with fail
              go_ret
              exact ⟨rfl, b1.trans ((b2.mono b1.size).trans ((b3.mono (Nat.le_trans b1.size b2.size)).trans (b4.mono (Nat.le_trans b1.size (Nat.le_trans b2.size b3.size)))))⟩
          · -- nothing on the right
            have hks : k = s.size := by omega
            subst hks
            clear hlt
            have hr : (s.extract s.size s.size).toList.isEmpty = true := empty _ (by rw [ByteArray.size_extract]; omega)
            obtain ⟨b, hb⟩ : ∃ b, isLine s.data.toList = b := ⟨_, rfl⟩
            have H1 : Hid (isLine s.data.toList = b) := hb
            clear hb
            cases b
            all_goals
              go_wp2_with fail
              refine (isLineNumber_is _ _ hs _ H1).mono ?_
              rintro e w1 ⟨rfl, b1⟩
              go_wp2_with fail
              refine (isLineNumber_is _ _ hs _ H1).mono ?_
              rintro e w2 ⟨rfl, b2⟩
              go_wp2_with fail
              go_ret
              exact ⟨rfl, b1.trans (b2.mono b1.size)⟩
      · have H1 : Hid (isLine s.data.toList = false) := line_long s (by omega)
        by_cases hlt : k < s.size
        · have H2 : Hid (isLine (s.extract k (k + 1)).data.toList = dig (s.data[k]'hlt)) := by rw [one_list s k hlt]; exact isLine_one _
          go_wp2_with fail
          refine (isLineNumber_is _ _ hs _ H1).mono ?_
          rintro e w1 ⟨rfl, b1⟩
          go_wp2_with fail
          refine (isLineNumber_is _ _ (ext_le _ _ _ h20) _ H2).mono ?_
          rintro e w2 ⟨rfl, b2⟩
          go_wp2_with fail
          refine (digit_any _ (s.data[k]'hlt) rfl _).mono ?_
          rintro e w3 ⟨rfl, h⟩
          have h' := h.symm; clear h; subst h'
          go_wp2_with fail
          go_ret
          exact ⟨rfl, b1.trans (b2.mono b1.size)⟩
        · go_wp2_with fail
          refine (isLineNumber_is _ _ hs _ H1).mono ?_
          rintro e w1 ⟨rfl, b1⟩
          go_wp2_with fail
          go_ret
          exact ⟨rfl, b1⟩

/-- More than 1048576 bytes: the law asks nothing. -/
theorem main_long (s : ByteArray) (i : Int) (w : World) (h20 : ¬ s.size ≤ 1048576) :
    Calls Try.prog 3 #[.string s, .int .i64 i] w fun e w' => e = .returned (.bool true) ∧ Below w.heap.size w w' := by
  go_enter Try.func3, Try.ntmps3
  go_wp2_with (first | (go_at_call 4; refine (bytes_no _ _ _ h20).mono ?_; rintro e w' ⟨rfl, h⟩; have h' := h.symm; clear h; subst h'))
  go_ret
  exact ⟨rfl, Below.refl _ _⟩

end Go.Proofs.Qxb6617501a
