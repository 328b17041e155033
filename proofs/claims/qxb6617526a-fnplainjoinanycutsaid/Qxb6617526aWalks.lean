/-
  THE WALKS of FnPlainJoinAnyCut's callees.
-/
import Derived.Test.Qxb6617526aRows
import Derived.Test.Qxb6617526aLaw
import Derived.WalkKit
namespace Go.Proofs.Qxb6617526a
open Go.RowKit Plain

theorem ret_bool {a b : Bool} (h : a = b) : Ending.returned (.bool a) = .returned (.bool b) := by rw [h]

/-- A slice's n elements read as the numbers l; each is a byte. Where there is an element there is an address. -/
structure Rd (w : World) (ao : Option Addr) (n : Nat) (l : List Int) : Prop where
  len : l.length = n
  at' : ∀ j, j < n → ∃ b off, ao = some ⟨b, off, none⟩ ∧ w.cell? ⟨b, off + j, none⟩ = some (.int .u8 (l.getD j 0))
  lo : ∀ j, 0 ≤ l.getD j 0
  hi : ∀ j, l.getD j 0 ≤ 255

/-- With an element: one address for all. -/
theorem Rd.addr {w : World} {ao : Option Addr} {n : Nat} {l : List Int} (h : Rd w ao n l) (hn : 0 < n) :
    ∃ b off, ao = some ⟨b, off, none⟩ ∧ ∀ j, j < n → w.cell? ⟨b, off + j, none⟩ = some (.int .u8 (l.getD j 0)) := by
  obtain ⟨b, off, rfl, _⟩ := h.at' 0 hn
  refine ⟨b, off, rfl, fun j hj => ?_⟩
  obtain ⟨b', off', he, hc⟩ := h.at' j hj
  simp only [Option.some.injEq, Addr.mk.injEq] at he
  obtain ⟨rfl, rfl, _⟩ := he
  exact hc

theorem Rd.below {w w' : World} {ao : Option Addr} {n : Nat} {l : List Int} (h : Rd w ao n l) (hb : Below w.heap.size w w') : Rd w' ao n l :=
  ⟨h.len, fun j hj => by
    obtain ⟨b, off, he, hc⟩ := h.at' j hj
    exact ⟨b, off, he, (hb.cell (World.block_lt_of_cell? _ _ hc)).trans hc⟩, h.lo, h.hi⟩

/-- keptByte. -/
theorem kept_any (z : Int) (w : World) (h0 : 0 ≤ z) (h1 : z ≤ 255) :
    Calls Try.prog 7 #[.int .u8 z] w fun e w' => e = .returned (.bool (kept z)) ∧ w' = w := by
  by_cases h9 : z = 9
  · subst h9; go_enter Try.func7, Try.ntmps7
    go_wp2
    go_ret
    exact ⟨rfl, rfl⟩
  by_cases h10 : z = 10
  · subst h10; go_enter Try.func7, Try.ntmps7
    go_wp2
    go_ret
    exact ⟨rfl, rfl⟩
  have e9 : (z == 9) = false := by simpa using h9
  have e10 : (z == 10) = false := by simpa using h10
  by_cases h32 : 32 ≤ z
  · by_cases h126 : z ≤ 126
    · have H : Hid (kept z = true) := kept_yes (by omega)
      clear h9 h10
      go_enter Try.func7, Try.ntmps7
      go_wp2
      go_ret
      exact ⟨ret_bool H.out.symm, rfl⟩
    · have H : Hid (kept z = false) := kept_no h9 h10 (by omega)
      clear h9 h10
      go_enter Try.func7, Try.ntmps7
      go_wp2
      go_ret
      exact ⟨ret_bool H.out.symm, rfl⟩
  · have H : Hid (kept z = false) := kept_no h9 h10 (by omega)
    clear h9 h10
    go_enter Try.func7, Try.ntmps7
    go_wp2
    go_ret
    exact ⟨ret_bool H.out.symm, rfl⟩

theorem kept_is (z : Int) (b : Bool) (w : World) (h0 : 0 ≤ z) (h1 : z ≤ 255) (hb : Hid (kept z = b)) :
    Calls Try.prog 7 #[.int .u8 z] w fun e w' => e = .returned (.bool b) ∧ w' = w := by
  rw [← hb.out]; exact kept_any z w h0 h1

set_option maxHeartbeats 400000 in
/-- allKept. -/
theorem allKept_any (ao : Option Addr) (n cap : Nat) (l : List Int) (w : World) (h : Rd w ao n l) (hn : n ≤ 1048576) :
    Calls Try.prog 5 #[.slice ao n cap] w fun e w' => e = .returned (.bool (plain l)) ∧ w' = w := by
  have hlen := h.len
  have hlo := h.lo
  have hhi := h.hi
  by_cases h0 : n = 0
  · subst h0
    have hl : l = [] := List.eq_nil_of_length_eq_zero hlen
    subst hl
    clear hlo hhi hlen
    go_enter Try.func5, Try.ntmps5
    go_wp2
    go_loop [3, 4] (fun t i => t = .int .i64 0 ∧ i = .int .i64 0) (fun _ _ => 0)
    case atStart => exact ⟨rfl, rfl⟩
    case round =>
      obtain ⟨rfl, rfl⟩ := hrel
      go_wp2
      go_ret
      exact ⟨rfl, rfl⟩
  · obtain ⟨b, off, rfl, hc⟩ := h.addr (by omega)
    clear h
    have HL : Hid (l.length = n) := hlen
    clear hlen
    go_enter Try.func5, Try.ntmps5
    go_wp2
    go_loop [3, 4] (fun t i => ∃ k : Nat, k ≤ n ∧ i = .int .i64 k ∧ t = .int .i64 (cnt (l.take k))) (fun _ i => n - (intOf i).toNat)
    case atStart => exact ⟨0, Nat.zero_le _, rfl, rfl⟩
    case round =>
      obtain ⟨k, hk, rfl, rfl⟩ := hrel
      obtain ⟨c, hcc⟩ : ∃ c, c = cnt (l.take k) := ⟨_, rfl⟩
      have HC : Hid (c = cnt (l.take k)) := hcc
      have hcn : c ≤ n := by
        have h1 := cnt_le (l.take k)
        have h2 : (l.take k).length ≤ l.length := List.length_take_le' _ _
        have h3 := HL.out
        omega
      rw [← hcc]
      clear hcc
      by_cases hlt : k < n
      · obtain ⟨z, hz⟩ : ∃ z, z = l.getD k 0 := ⟨_, rfl⟩
        have hz0 : 0 ≤ z := by rw [hz]; exact hlo k
        have hz1 : z ≤ 255 := by rw [hz]; exact hhi k
        have hcell : w.cell? ⟨b, off + k, none⟩ = some (.int .u8 z) := by rw [hz]; exact hc k hlt
        have HZ : Hid (z = l.getD k 0) := hz
        clear hz hlo hhi hc
        have hkl : k < l.length := by have := HL.out; omega
        by_cases hy : kept z = true
        · have HY : Hid (kept z = true) := hy
          clear hy
          go_wp2_with (go_at_call 7; refine (kept_is _ true _ hz0 hz1 HY).mono ?_; rintro e w' ⟨rfl, h⟩; have h' := h.symm; clear h; subst h')
          go_round
          case rel => exact ⟨k + 1, by omega, by go_num, by rw [cnt_yes hkl (by rw [← HZ.out]; exact HY.out), ← HC.out]; go_num⟩
          case measure => simp [intOf]; omega
        · have HY : Hid (kept z = false) := (by simpa using hy : kept z = false)
          clear hy
          go_wp2_with (go_at_call 7; refine (kept_is _ false _ hz0 hz1 HY).mono ?_; rintro e w' ⟨rfl, h⟩; have h' := h.symm; clear h; subst h')
          go_round
          case rel => exact ⟨k + 1, by omega, by go_num, by rw [cnt_no hkl (by rw [← HZ.out]; exact HY.out), ← HC.out]⟩
          case measure => simp [intOf]; omega
      · clear hlo hhi hc
        go_wp2
        go_ret
        refine ⟨?_, rfl⟩
        have hl := HL.out
        have e := cnt_plain l
        have e2 : l.take k = l := List.take_of_length_le (by omega)
        have e3 := HC.out
        rw [e2] at e3
        rw [← e3, hl] at e
        exact ret_bool e

set_option maxHeartbeats 400000 in
/-- fortunes.Plain. -/
theorem plain_any (ao : Option Addr) (n cap : Nat) (l : List Int) (w : World) (h : Rd w ao n l) (hn : n ≤ 1048576) :
    Calls Try.prog 6 #[.slice ao n cap] w fun e w' => e = .returned (.bool (plain l)) ∧ w' = w := by
  have hlen := h.len
  have hlo := h.lo
  have hhi := h.hi
  by_cases h0 : n = 0
  · subst h0
    have hl : l = [] := List.eq_nil_of_length_eq_zero hlen
    subst hl
    clear hlo hhi hlen
    go_enter Try.func6, Try.ntmps6
    go_wp2
    go_loop [7] (fun i => i = .int .i64 0) (fun _ => 0)
    case atStart => exact rfl
    case round =>
      obtain rfl := hrel
      go_wp2
      go_ret
      exact ⟨rfl, rfl⟩
  · obtain ⟨b, off, rfl, hc⟩ := h.addr (by omega)
    clear h
    have HL : Hid (l.length = n) := hlen
    clear hlen
    go_enter Try.func6, Try.ntmps6
    go_wp2
    go_loop [7] (fun i => ∃ k : Nat, k ≤ n ∧ i = .int .i64 k ∧ Hid (plain (l.take k) = true)) (fun i => n - (intOf i).toNat)
    case atStart => exact ⟨0, Nat.zero_le _, rfl, rfl⟩
    case round =>
      obtain ⟨k, hk, rfl, HP⟩ := hrel
      by_cases hlt : k < n
      · obtain ⟨z, hz⟩ : ∃ z, z = l.getD k 0 := ⟨_, rfl⟩
        have hz0 : 0 ≤ z := by rw [hz]; exact hlo k
        have hz1 : z ≤ 255 := by rw [hz]; exact hhi k
        have hcell : w.cell? ⟨b, off + k, none⟩ = some (.int .u8 z) := by rw [hz]; exact hc k hlt
        have HZ : Hid (z = l.getD k 0) := hz
        clear hz hlo hhi hc
        have hkl : k < l.length := by have := HL.out; omega
        by_cases hg : z = 9 ∨ z = 10 ∨ (32 ≤ z ∧ z ≤ 126)
        · have HY : Hid (kept (l.getD k 0) = true) := by rw [← HZ.out]; exact kept_yes hg
          rcases hg with h9 | h10 | ⟨h32, h126⟩
          · subst h9
            go_wp2
            go_round
            case rel => exact ⟨k + 1, by omega, by go_num, plain_yes hkl HY.out HP.out⟩
            case measure => simp [intOf]; omega
          · subst h10
            go_wp2
            go_round
            case rel => exact ⟨k + 1, by omega, by go_num, plain_yes hkl HY.out HP.out⟩
            case measure => simp [intOf]; omega
          · have e9 : (z != 9) = true := by simp; omega
            have e10 : (z != 10) = true := by simp; omega
            go_wp2
            go_round
            case rel => exact ⟨k + 1, by omega, by go_num, plain_yes hkl HY.out HP.out⟩
            case measure => simp [intOf]; omega
        · have HY : Hid (plain l = false) := plain_no hkl (by rw [← HZ.out]; exact kept_no (by omega) (by omega) (by omega))
          have e9 : (z != 9) = true := by simp; omega
          have e10 : (z != 10) = true := by simp; omega
          rcases (by omega : z < 32 ∨ 126 < z) with hb | hb
          all_goals
            clear hg
            go_wp2
            go_ret
            exact ⟨ret_bool HY.out.symm, rfl⟩
      · clear hlo hhi hc
        go_wp2
        go_ret
        exact ⟨ret_bool (plain_end (by have := HL.out; omega) HP.out).symm, rfl⟩

/-- The bound's own function: it answers true, or the law asks nothing. -/
theorem bytes_yes (a0 a1 : Option Addr) (n0 c0 n1 c1 : Nat) (w : World) (h : n0 + n1 ≤ 1048576) :
    Calls Try.prog 4 #[.slice a0 n0 c0, .slice a1 n1 c1] w fun e w' => e = .returned (.bool true) ∧ w' = w := by
  go_enter Try.func4, Try.ntmps4
  go_wp2
  go_ret
  exact ⟨rfl, rfl⟩

theorem bytes_no (a0 a1 : Option Addr) (n0 c0 n1 c1 : Nat) (w : World) (h0 : n0 ≤ maxLen) (h1 : n1 ≤ maxLen) (h : ¬ n0 + n1 ≤ 1048576) :
    Calls Try.prog 4 #[.slice a0 n0 c0, .slice a1 n1 c1] w fun e w' => e = .returned (.bool false) ∧ w' = w := by
  unfold maxLen at h0 h1
  by_cases g0 : n0 ≤ 1048576
  · by_cases g1 : n1 ≤ 1048576
    · go_enter Try.func4, Try.ntmps4
      go_wp2
      go_ret
      exact ⟨rfl, rfl⟩
    · go_enter Try.func4, Try.ntmps4
      go_wp2
      go_ret
      exact ⟨rfl, rfl⟩
  · go_enter Try.func4, Try.ntmps4
    go_wp2
    go_ret
    exact ⟨rfl, rfl⟩
end Go.Proofs.Qxb6617526a
