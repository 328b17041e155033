/-
  THE WALKS of zzLinesFit and of the bound's own function.
-/
import Derived.Test.Qxb6617571aRows
import Derived.Test.Qxb6617571aLaw
import Derived.WalkKit
import Derived.WalkSpells
namespace Go.Proofs.Qxb6617571a
open Go.RowKit Plain

/-- A slice's n elements read as the numbers l. Where there is an element there is an address. -/
structure Rd (w : World) (ao : Option Addr) (n : Nat) (l : List Int) : Prop where
  len : l.length = n
  at' : ∀ j, j < n → ∃ b off, ao = some ⟨b, off, none⟩ ∧ w.cell? ⟨b, off + j, none⟩ = some (.int .i64 (l.getD j 0))

theorem Rd.addr {w : World} {ao : Option Addr} {n : Nat} {l : List Int} (h : Rd w ao n l) (hn : 0 < n) :
    ∃ b off, ao = some ⟨b, off, none⟩ ∧ ∀ j, j < n → w.cell? ⟨b, off + j, none⟩ = some (.int .i64 (l.getD j 0)) := by
  obtain ⟨b, off, rfl, _⟩ := h.at' 0 hn
  refine ⟨b, off, rfl, fun j hj => ?_⟩
  obtain ⟨b', off', he, hc⟩ := h.at' j hj
  simp only [Option.some.injEq, Addr.mk.injEq] at he
  obtain ⟨rfl, rfl, _⟩ := he
  exact hc

theorem Rd.below {w w' : World} {ao : Option Addr} {n : Nat} {l : List Int} (h : Rd w ao n l) (hb : Below w.heap.size w w') : Rd w' ao n l :=
  ⟨h.len, fun j hj => by
    obtain ⟨b, off, he, hc⟩ := h.at' j hj
    exact ⟨b, off, he, (hb.cell (World.block_lt_of_cell? _ _ hc)).trans hc⟩⟩

/-- The bound's own function. -/
theorem bytes_any (s : ByteArray) (a1 a2 a3 : Option Addr) (n1 c1 n2 c2 n3 c3 : Nat) (e c : Int) (w : World) (h0 : s.size ≤ maxLen) (h1 : n1 ≤ maxLen) (h2 : n2 ≤ maxLen) (h3 : n3 ≤ maxLen) :
    Calls Try.prog 4 #[.string s, .slice a1 n1 c1, .slice a2 n2 c2, .slice a3 n3 c3, .int .i64 e, .int .u8 c] w fun r w' => ∃ b, r = .returned (.bool b) ∧ w' = w := by
  unfold maxLen at h0 h1 h2 h3
  go_enter Try.func4, Try.ntmps4
  go_wp2
  all_goals
    go_ret
    exact ⟨_, rfl, rfl⟩

/-- A bool comes back; where it is true, p holds; the world is as it was. (A definition of its own, so that the walk leaves it standing.) -/
def Ans (p : Prop) (w : World) (e : Ending) (w' : World) : Prop := ∃ b, e = .returned (.bool b) ∧ (b = true → p) ∧ w' = w

set_option maxRecDepth 100000 in
set_option maxHeartbeats 1000000 in
/-- zzLinesFit: where it answers true the lines fit. -/
theorem linesFit_any (s : ByteArray) (a1 a2 a3 : Option Addr) (n c1 c2 c3 : Nat) (l1 l2 l3 : List Int) (w : World) (hs : s.size ≤ 65536) (hn : n ≤ 8192) (h1 : Rd w a1 n l1) (h2 : Rd w a2 n l2) (h3 : Rd w a3 n l3) :
    Calls Try.prog 5 #[.string s, .slice a1 n c1, .slice a2 n c2, .slice a3 n c3] w fun r w' => Ans (Fit s.size l1 l2 l3 n) w r w' := by
  by_cases h0 : n = 0
  · subst h0
    go_enter Try.func5, Try.ntmps5
    go_wp2
    go_loop [9, 10, 11] (fun a t i => i = .int .i64 0) (fun _ _ _ => 0)
    case atStart => exact rfl
    case round =>
      obtain rfl := hrel
      go_wp2
      go_ret
      exact ⟨true, rfl, fun _ => fit_zero _ _ _ _, rfl⟩
  · obtain ⟨b1, o1, rfl, k1⟩ := h1.addr (by omega)
    obtain ⟨b2, o2, rfl, k2⟩ := h2.addr (by omega)
    obtain ⟨b3, o3, rfl, k3⟩ := h3.addr (by omega)
    clear h1 h2 h3
    go_enter Try.func5, Try.ntmps5
    go_wp2
    go_loop [9, 10, 11] (fun a t i => ∃ (k : Nat) (A T : Int), k ≤ n ∧ i = .int .i64 k ∧ a = .int .i64 A ∧ t = .int .i64 T ∧ 0 ≤ A ∧ A ≤ 1048576 ∧ 0 ≤ T ∧ T ≤ 1048576 ∧ Hid (A = sumI (fun j => l3.getD j 0) k) ∧ Hid (T = sumI (fun j => l2.getD j 0 - l1.getD j 0) k) ∧ Hid (Fit s.size l1 l2 l3 k)) (fun _ _ i => n - (intOf i).toNat)
    case atStart => exact ⟨0, 0, 0, Nat.zero_le _, rfl, rfl, rfl, by omega, by omega, by omega, by omega, rfl, rfl, fit_zero _ _ _ _⟩
    case round =>
      obtain ⟨k, A, T, hk, rfl, rfl, rfl, hA0, hA1, hT0, hT1, HA, HT, HF⟩ := hrel
      by_cases hlt : k < n
      · obtain ⟨x, hx⟩ : ∃ x, x = l1.getD k 0 := ⟨_, rfl⟩
        obtain ⟨y, hy⟩ : ∃ x, x = l2.getD k 0 := ⟨_, rfl⟩
        obtain ⟨m, hm⟩ : ∃ x, x = l3.getD k 0 := ⟨_, rfl⟩
        have q1 : w.cell? ⟨b1, o1 + k, none⟩ = some (.int .i64 x) := by rw [hx]; exact k1 k hlt
        have q2 : w.cell? ⟨b2, o2 + k, none⟩ = some (.int .i64 y) := by rw [hy]; exact k2 k hlt
        have q3 : w.cell? ⟨b3, o3 + k, none⟩ = some (.int .i64 m) := by rw [hm]; exact k3 k hlt
        have HX : Hid (x = l1.getD k 0) := hx
        have HY : Hid (y = l2.getD k 0) := hy
        have HM : Hid (m = l3.getD k 0) := hm
        clear hx hy hm k1 k2 k3
        by_cases t1 : 0 ≤ x ∧ x < y ∧ y ≤ s.size
        · obtain ⟨t1, t2, t3⟩ := t1
          by_cases t4 : 0 ≤ m ∧ m ≤ 65536
          · obtain ⟨t4, t5⟩ := t4
            by_cases t6 : A + m ≤ 1048576
            · by_cases t7 : T + (y - x) ≤ 1048576
              · have R := fit_step HF.out HX.out HY.out HM.out HA.out HT.out t1 t2 t3 t4 t5 t6 t7
                have R1 : Hid (Fit s.size l1 l2 l3 (k + 1)) := R.1
                have R2 : Hid (A + m = sumI (fun j => l3.getD j 0) (k + 1)) := R.2.1
                have R3 : Hid (T + (y - x) = sumI (fun j => l2.getD j 0 - l1.getD j 0) (k + 1)) := R.2.2
                clear R
                go_wp2
                go_round
                case rel => exact ⟨k + 1, A + m, T + (y - x), by omega, by go_num, rfl, rfl, by omega, by omega, by omega, by omega, R2, R3, R1⟩
                case measure => simp [intOf]; omega
              · go_wp2
                go_ret
                exact ⟨false, rfl, by simp, rfl⟩
            · go_wp2
              go_ret
              exact ⟨false, rfl, by simp, rfl⟩
          · rcases (by omega : m < 0 ∨ (0 ≤ m ∧ 65536 < m)) with t5 | ⟨t5, t6⟩
            all_goals
              clear t4
              go_wp2
              go_ret
              exact ⟨false, rfl, by simp, rfl⟩
        · rcases (by omega : x < 0 ∨ (0 ≤ x ∧ y ≤ x) ∨ (0 ≤ x ∧ x < y ∧ s.size < y)) with t5 | ⟨t5, t6⟩ | ⟨t5, t6, t7⟩
          all_goals
            clear t1
            go_wp2
            go_ret
            exact ⟨false, rfl, by simp, rfl⟩
      · clear k1 k2 k3
        go_wp2
        go_ret
        have e : k = n := by omega
        subst e
        exact ⟨true, rfl, fun _ => HF.out, rfl⟩
end Go.Proofs.Qxb6617571a
