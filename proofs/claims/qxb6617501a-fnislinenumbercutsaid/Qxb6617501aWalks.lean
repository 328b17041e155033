/-
  THE WALKS of FnIsLineNumberCut's callees: each Go function computes a plain function of Qxb6617501aLaw.lean.
-/
import Derived.Test.Qxb6617501aRows
import Derived.Test.Qxb6617501aLaw
import Derived.WalkKit
import Derived.Laws.IdiomStrings
namespace Go.Proofs.Qxb6617501a
open Go.RowKit Plain

theorem byte_le (c : UInt8) : (c.toNat : Int) ≤ 255 := by have := c.toNat_lt; omega

theorem byte_get (s : ByteArray) (k : Nat) (h : k < s.size) : s.data.toList[k]? = some (s.data[k]'h) := by
  rw [Array.getElem?_toList]
  exact Array.getElem?_eq_getElem h

theorem len_eq (s : ByteArray) : s.data.toList.length = s.size := by
  rw [Array.length_toList]
  rfl

theorem ret_bool {a b : Bool} (h : a = b) : Ending.returned (.bool a) = .returned (.bool b) := by rw [h]

set_option maxHeartbeats 400000 in
/-- spirits.IsNumber. -/
theorem isNumber_any (s : ByteArray) (w : World) (hs : s.size ≤ maxLen) :
    Calls Try.prog 7 #[.string s] w fun e w' => e = .returned (.bool (isNum s.data.toList)) ∧ Below w.heap.size w w' := by
  unfold maxLen at hs
  by_cases he : s.toList.isEmpty = true
  · have hn : Hid (isNum s.data.toList = false) := by
      rw [ByteArray.toList_eq, List.isEmpty_iff] at he
      show isNum _ = false
      rw [he]; rfl
    go_enter Try.func7, Try.ntmps7
    go_wp2
    go_ret
    exact ⟨ret_bool hn.out.symm, Below.refl _ _⟩
  · have he' : s.toList.isEmpty = false := by simpa using he
    have HE : Hid (s.data.toList.isEmpty = false) := by rw [ByteArray.toList_eq] at he'; exact he'
    clear he
    obtain ⟨cap, hcap⟩ : ∃ c, c = grownCap w s.size 0 5 := ⟨_, rfl⟩
    obtain ⟨C, hC⟩ : ∃ C, C = bytesRow s cap := ⟨_, rfl⟩
    have hcv : (convert 9 25 (.string s)).run Try.prog w = .ok (.slice (some ⟨w.heap.size, 0, none⟩) s.size cap) (w.drew.alloc (.cells C 5 (C.size, C.size + 1))) := by
      rw [hC, hcap]; exact run_bytes_of_string (P := Try.prog) w 9 25 5 s Try.underlying9 Try.underlying25 Try.underlying5
    have hcl : ∀ j (h : j < s.size), (w.alloc (.cells C 5 (C.size, C.size + 1))).cell? ⟨w.heap.size, j, none⟩ = some (.int .u8 ((s.data[j]'h).toNat : Int)) := by
      intro j h
      rw [World.cell?_alloc_mark, hC]
      exact bytesRow_at s _ j h
    clear hC hcap
    go_enter Try.func7, Try.ntmps7
    go_wp2
    clear hcv
    go_loop [10] (fun i => ∃ k : Nat, k ≤ s.size ∧ i = .int .i64 k ∧ Hid ((s.data.toList.take k).all dig = true)) (fun i => s.size - (intOf i).toNat)
    case atStart => exact ⟨0, Nat.zero_le _, rfl, rfl⟩
    case round =>
      obtain ⟨k, hk, rfl, HA⟩ := hrel
      by_cases hlt : k < s.size
      · obtain ⟨c, hc⟩ : ∃ c, c = s.data[k]'hlt := ⟨_, rfl⟩
        have hcell : (w.alloc (.cells C 5 (C.size, C.size + 1))).cell? ⟨w.heap.size, k, none⟩ = some (.int .u8 (c.toNat : Int)) := by rw [hc]; exact hcl k hlt
        have HG : Hid (s.data.toList[k]? = some c) := by rw [hc]; exact byte_get s k hlt
        clear hc hcl
        obtain ⟨n, hn⟩ : ∃ n : Int, n = (c.toNat : Int) := ⟨_, rfl⟩
        rw [← hn] at hcell
        have HN : Hid (n = (c.toNat : Int)) := hn
        have hn0 : 0 ≤ n := by omega
        have hn1 : n ≤ 255 := by have := byte_le c; omega
        clear hn
        go_wp2
        · go_ret
          have hbad : n < 48 ∨ 57 < n := by assumption
          exact ⟨ret_bool (isNum_bad HG.out (by have := HN.out; omega)).symm, ((Below.refl _ _).alloc (Nat.le_refl _) _).drew⟩
        · have hd : 48 ≤ n ∧ n ≤ 57 := by assumption
          go_round
          case rel => exact ⟨k + 1, by omega, by go_num, all_snoc HG.out (by have := HN.out; omega) HA.out⟩
          case measure => simp [intOf]; omega
        · go_ret
          have hbad : n < 48 := by assumption
          exact ⟨ret_bool (isNum_bad HG.out (by have := HN.out; omega)).symm, ((Below.refl _ _).alloc (Nat.le_refl _) _).drew⟩
      · go_wp2
        go_ret
        refine ⟨?_, ((Below.refl _ _).alloc (Nat.le_refl _) _).drew⟩
        have hA := HA.out
        have : k = s.data.toList.length := by rw [len_eq]; omega
        rw [this] at hA
        exact ret_bool (isNum_all HE.out hA).symm

/-- spirits.IsLineNumber. -/
theorem isLineNumber_any (s : ByteArray) (w : World) (hs : s.size ≤ maxLen) :
    Calls Try.prog 5 #[.string s] w fun e w' => e = .returned (.bool (isLine s.data.toList)) ∧ Below w.heap.size w w' := by
  by_cases h : s.size ≤ 32
  · have hl : Hid (isLine s.data.toList = isNum s.data.toList) := by
      show isLine _ = _
      simp [isLine, h]
    go_enter Try.func5, Try.ntmps5
    go_wp2_with (go_at_call 7; refine (isNumber_any _ _ hs).mono ?_; rintro e w' ⟨rfl, hb⟩)
    go_ret
    exact ⟨ret_bool hl.out.symm, by assumption⟩
  · have hl : Hid (isLine s.data.toList = false) := by
      show isLine _ = _
      simp [isLine, h]
    go_enter Try.func5, Try.ntmps5
    go_wp2_with (go_at_call 7; fail)
    go_ret
    exact ⟨ret_bool hl.out.symm, Below.refl _ _⟩

/-- zzIsDecimalDigitB1. -/
theorem digit_any (n : Int) (c : UInt8) (hn : n = (c.toNat : Int)) (w : World) :
    Calls Try.prog 6 #[.int .u8 n] w fun e w' => e = .returned (.bool (dig c)) ∧ w' = w := by
  have HN : Hid (n = (c.toNat : Int)) := hn
  have hn0 : 0 ≤ n := by omega
  clear hn
  by_cases h1 : 48 ≤ n
  · by_cases h2 : n ≤ 57
    · have hd : Hid (dig c = true) := by have := HN.out; show dig c = true; simp [dig]; omega
      go_enter Try.func6, Try.ntmps6
      go_wp2
      go_ret
      exact ⟨ret_bool hd.out.symm, rfl⟩
    · have hd : Hid (dig c = false) := by have := HN.out; show dig c = false; simp [dig]; omega
      go_enter Try.func6, Try.ntmps6
      go_wp2
      go_ret
      exact ⟨ret_bool hd.out.symm, rfl⟩
  · have hd : Hid (dig c = false) := by have := HN.out; show dig c = false; simp [dig]; omega
    go_enter Try.func6, Try.ntmps6
    go_wp2
    go_ret
    exact ⟨ret_bool hd.out.symm, rfl⟩

/-- The bound's own function. -/
theorem bytes_yes (s : ByteArray) (i : Int) (w : World) (h : s.size ≤ 1048576) :
    Calls Try.prog 4 #[.string s, .int .i64 i] w fun e w' => e = .returned (.bool true) ∧ w' = w := by
  go_enter Try.func4, Try.ntmps4
  go_wp2
  go_ret
  exact ⟨rfl, rfl⟩

theorem bytes_no (s : ByteArray) (i : Int) (w : World) (h : ¬ s.size ≤ 1048576) :
    Calls Try.prog 4 #[.string s, .int .i64 i] w fun e w' => e = .returned (.bool false) ∧ w' = w := by
  go_enter Try.func4, Try.ntmps4
  go_wp2
  go_ret
  exact ⟨rfl, rfl⟩
end Go.Proofs.Qxb6617501a
