/-
  THE WALKS of the challenge law's small callees.
-/
import Derived.Test.Qxb6617547aRows
import Derived.WalkKit
import Derived.WalkSpells
import Derived.Deep.QuietTactic
import Derived.BigQuiet
namespace Go.Proofs.Qxb6617547a
open Go.RowKit

/-- The scheme alone; the header that names the error. -/
def bas : ByteArray := { data := #[66, 101, 97, 114, 101, 114] }
def chal : ByteArray := { data := #[66, 101, 97, 114, 101, 114, 32, 101, 114, 114, 111, 114, 61, 34, 105, 110, 118, 97, 108, 105, 100, 95, 116, 111, 107, 101, 110, 34] }

/-- zzLowerASCII. -/
def low (z : Int) : Int := if 65 ≤ z ∧ z ≤ 90 then z + 32 else z
theorem low_up {z : Int} (h1 : 65 ≤ z) (h2 : z ≤ 90) : low z = z + 32 := by unfold low; rw [if_pos ⟨h1, h2⟩]
theorem low_other {z : Int} (h : z < 65 ∨ 90 < z) : low z = z := by unfold low; rw [if_neg (by omega)]
theorem ret_u8 {a b : Int} (h : a = b) : Ending.returned (.int .u8 a) = .returned (.int .u8 b) := by rw [h]

theorem lower_any (z : Int) (w : World) (h0 : 0 ≤ z) (h1 : z ≤ 255) :
    Calls Try.prog 8 #[.int .u8 z] w fun e w' => e = .returned (.int .u8 (low z)) ∧ w' = w := by
  by_cases h65 : 65 ≤ z
  · by_cases h90 : z ≤ 90
    · have H : Hid (low z = z + 32) := low_up h65 h90
      go_enter Try.func8, Try.ntmps8
      go_wp2
      go_ret
      exact ⟨ret_u8 (by rw [H.out]), rfl⟩
    · have H : Hid (low z = z) := low_other (by omega)
      go_enter Try.func8, Try.ntmps8
      go_wp2
      go_ret
      exact ⟨ret_u8 H.out.symm, rfl⟩
  · have H : Hid (low z = z) := low_other (by omega)
    go_enter Try.func8, Try.ntmps8
    go_wp2
    go_ret
    exact ⟨ret_u8 H.out.symm, rfl⟩

theorem lower_is (z b : Int) (w : World) (h0 : 0 ≤ z) (h1 : z ≤ 255) (hb : Hid (low z = b)) :
    Calls Try.prog 8 #[.int .u8 z] w fun e w' => e = .returned (.int .u8 b) ∧ w' = w := by
  rw [← hb.out]; exact lower_any z w h0 h1

/-- zzIsTchar at a letter. -/
theorem tchar_letter (z : Int) (w : World) (h : (65 ≤ z ∧ z ≤ 90) ∨ (97 ≤ z ∧ z ≤ 122)) :
    Calls Try.prog 6 #[.int .u8 z] w fun e w' => e = .returned (.bool true) ∧ w' = w := by
  rcases h with ⟨h1, h2⟩ | ⟨h1, h2⟩
  · go_enter Try.func6, Try.ntmps6
    go_wp2
    go_ret
    exact ⟨rfl, rfl⟩
  · go_enter Try.func6, Try.ntmps6
    go_wp2
    go_ret
    exact ⟨rfl, rfl⟩

/-- .. at a blank, at an equals sign. -/
theorem tchar_no (z : Int) (w : World) (h : z = 32 ∨ z = 61) :
    Calls Try.prog 6 #[.int .u8 z] w fun e w' => e = .returned (.bool false) ∧ w' = w := by
  rcases h with rfl | rfl
  · go_enter Try.func6, Try.ntmps6
    go_wp2
    go_ret
    exact ⟨rfl, rfl⟩
  · go_enter Try.func6, Try.ntmps6
    go_wp2
    go_ret
    exact ⟨rfl, rfl⟩

theorem challenge_no (w : World) : Calls Try.prog 4 #[.bool false] w fun e w' => e = .returned (.string bas) ∧ w' = w := by
  go_enter Try.func4, Try.ntmps4
  go_wp2
  go_ret
  exact ⟨rfl, rfl⟩

theorem challenge_yes (w : World) : Calls Try.prog 4 #[.bool true] w fun e w' => e = .returned (.string chal) ∧ w' = w := by
  go_enter Try.func4, Try.ntmps4
  go_wp2
  go_ret
  exact ⟨rfl, rfl⟩

theorem byte_le (c : UInt8) : (c.toNat : Int) ≤ 255 := by have := c.toNat_lt; omega

set_option maxHeartbeats 400000 in
/-- zzEqFoldASCII at two strings that are one up to case. -/
theorem eqFold_yes (a b : ByteArray) (w : World) (hs : a.size = b.size) (hm : a.size ≤ 1000) (hl : ∀ k (h1 : k < a.size) (h2 : k < b.size), low ((a[k]'h1).toNat : Int) = low ((b[k]'h2).toNat : Int)) :
    Calls Try.prog 5 #[.string a, .string b] w fun e w' => e = .returned (.bool true) ∧ ∃ n, w' = w.drewN n := by
  have HL : Hid (∀ k (h1 : k < a.size) (h2 : k < b.size), low ((a[k]'h1).toNat : Int) = low ((b[k]'h2).toNat : Int)) := hl
  have HS : Hid (a.size = b.size) := hs
  obtain ⟨n, hn⟩ : ∃ n, n = a.size := ⟨_, rfl⟩
  have hb : b.size = n := by omega
  have ha : a.size = n := by omega
  have hn1 : n ≤ 1000 := by omega
  clear hl hs hm hn
  go_enter Try.func5, Try.ntmps5
  go_wp2
  go_loopw [5] (fun i wr => ∃ k : Nat, k ≤ n ∧ i = .int .i64 k ∧ Hid (∃ m, wr = w.drewN m)) (fun i _ => n - (intOf i).toNat)
  case atStart => exact ⟨0, Nat.zero_le _, rfl, ⟨0, rfl⟩⟩
  case round =>
    obtain ⟨k, hk, rfl, HM⟩ := hrel
    by_cases hlt : k < n
    · have h1 : k < a.size := by omega
      have h2 : k < b.size := by omega
      have heq := HL.out k h1 h2
      go_wp2
      go_quiet ((go_at_call 8; exact Calls.quiet_of_same (lower_any _ _ (by omega) (byte_le _))))
      go_wp2
      go_roundw
      case rel => exact ⟨k + 1, by omega, by go_num, by obtain ⟨m, hm⟩ := HM.out; exact ⟨m + nq, by rw [hm, World.drewN_drewN]⟩⟩
      case measure => simp [intOf]; omega
    · go_wp2
      go_ret
      exact ⟨rfl, HM.out⟩

set_option maxHeartbeats 400000 in
/-- zzBytesEqString at a row that holds the string's bytes. -/
theorem bytesEq_yes (g cap n : Nat) (b : ByteArray) (w : World) (hb : b.size = n) (hm : n ≤ 1000) (hc : ∀ j (h : j < b.size), w.cell? ⟨g, j, none⟩ = some (.int .u8 ((b[j]'h).toNat : Int))) :
    Calls Try.prog 9 #[.slice (some ⟨g, 0, none⟩) n cap, .string b] w fun e w' => e = .returned (.bool true) ∧ ∃ n, w' = w.drewN n := by
  have HC : Hid (∀ j (h : j < b.size), w.cell? ⟨g, j, none⟩ = some (.int .u8 ((b[j]'h).toNat : Int))) := hc
  clear hc
  go_enter Try.func9, Try.ntmps9
  go_wp2
  go_loopw [5] (fun i wr => ∃ k : Nat, k ≤ n ∧ i = .int .i64 k ∧ Hid (∃ m, wr = w.drewN m)) (fun i _ => n - (intOf i).toNat)
  case atStart => exact ⟨0, Nat.zero_le _, rfl, ⟨0, rfl⟩⟩
  case round =>
    obtain ⟨k, hk, rfl, HM⟩ := hrel
    by_cases hlt : k < n
    · have h2 : k < b.size := by omega
      have hcell : wr.cell? ⟨g, k, none⟩ = some (.int .u8 ((b[k]'h2).toNat : Int)) := by
        obtain ⟨m, hm⟩ := HM.out
        rw [hm]; exact HC.out k h2
      go_wp2
      go_quiet (fail)
      go_wp2
      go_roundw
      case rel => exact ⟨k + 1, by omega, by go_num, by obtain ⟨m, hm⟩ := HM.out; exact ⟨m + nq, by rw [hm, World.drewN_drewN]⟩⟩
      case measure => simp [intOf]; omega
    · go_wp2
      go_ret
      exact ⟨rfl, HM.out⟩
end Go.Proofs.Qxb6617547a
