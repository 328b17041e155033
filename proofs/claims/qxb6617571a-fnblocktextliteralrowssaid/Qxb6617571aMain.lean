/-
  THE LAW's OWN WALK: FnBlockTextLiteralRows returns true; nothing that was there is written.
-/
import Derived.Test.Qxb6617571aLines
import Derived.Laws.CopyOwn
namespace Go.Proofs.Qxb6617571a
open Go.RowKit Plain

theorem Try.info3 : (Try.prog.info? 3).map (fun i => (i.zero, i.size, i.bytes)) = some (some (.int .i64 0), 1, 8) := by kernel_rfl
theorem Try.size3 : (Try.prog.info? 3).map (·.size) = some 1 := by kernel_rfl

/-! ### The plain law, as the walk asks for it -/
theorem want_strip (seg : Nat → ByteArray) (M : Nat → Nat) (n e : Nat) : joinR (rowsN seg M n ++ List.replicate 0 emp) = bodyN seg M n ++ tl n e 45 := by
  rw [List.replicate_zero, List.append_nil, law_strip]; simp [tl]

theorem want_none (seg : Nat → ByteArray) (M : Nat → Nat) {n e T : Nat} {c : Int} (hc : c ≠ 45) (hT : T = if c = 43 then e else 0) (h : (rowsN seg M n ++ List.replicate T emp).length = 0) :
    bodyN seg M n ++ tl n e c = [] := by
  have hn : n = 0 := by
    rw [List.length_append, rows_len] at h; omega
  subst hn
  have hT0 : T = 0 := by simpa [rowsN] using h
  rw [hT0] at hT
  simp only [bodyN, tl, hc, if_false, if_true, List.nil_append]
  by_cases e43 : c = 43
  · rw [if_pos e43] at hT; rw [if_pos e43, ← hT]; rfl
  · rw [if_neg e43]

theorem want_some (seg : Nat → ByteArray) (M : Nat → Nat) {n e T : Nat} {c : Int} (hc : c ≠ 45) (hT : T = if c = 43 then e else 0) (h : (rowsN seg M n ++ List.replicate T emp).length ≠ 0) :
    joinR (rowsN seg M n ++ List.replicate T emp) ++ [10] = bodyN seg M n ++ tl n e c := by
  by_cases hn : n = 0
  · subst hn
    by_cases e43 : c = 43
    · rw [if_pos e43] at hT
      subst hT
      have he : 0 < T := by
        rcases Nat.eq_zero_or_pos T with h0 | h0
        · subst h0; exact absurd rfl h
        · exact h0
      simp only [rowsN, bodyN, tl, e43, if_true, List.nil_append]
      rw [law_empty he]; rfl
    · rw [if_neg e43] at hT
      subst hT
      exact absurd rfl h
  · rw [law_lines seg M T (by omega)]
    congr 1
    by_cases e43 : c = 43
    · rw [if_pos e43] at hT
      simp [tl, hn, e43, hT]
    · rw [if_neg e43] at hT
      subst hT
      simp [tl, hc, hn, e43, nl]

/-! ### Copies -/
theorem made_row3 {w : World} {base g n : Nat} {xs : List Value} (h : w.ownsRow base 3 1 (.slice (some ⟨g, 0, none⟩) n n) n xs) :
    ∃ cur : List Value, w.heap[g]? = some (.cells cur.toArray 3 (0, 0)) ∧ cur.length = n := by
  rcases h.2 with ⟨h', _⟩ | ⟨g', cap', cur, h', _, hg, _, _, hcs, _⟩
  · simp at h'
  · simp only [Value.slice.injEq, Option.some.injEq, Addr.mk.injEq, and_true, true_and] at h'
    obtain ⟨rfl, rfl⟩ := h'
    exact ⟨cur.toList, by simpa using hg, by simpa using hcs⟩

def cellsOf (l : List Int) : List Value := l.map (Value.int .i64)
theorem cellsOf_len (l : List Int) : (cellsOf l).length = l.length := by simp [cellsOf]
theorem cellsOf_one (l : List Int) : ∀ v ∈ cellsOf l, v.oneCell' = true := by
  intro v hv
  simp only [cellsOf, List.mem_map] at hv
  obtain ⟨z, _, rfl⟩ := hv
  rfl
theorem cellsOf_get {l : List Int} {j : Nat} {v : Value} (h : (cellsOf l)[j]? = some v) : j < l.length ∧ v = .int .i64 (l.getD j 0) := by
  have hj : j < (cellsOf l).length := (List.getElem?_eq_some_iff.1 h).1
  have hj' : j < l.length := by simpa [cellsOf] using hj
  refine ⟨hj', ?_⟩
  simp [cellsOf, hj'] at h
  simp [hj', ← h]
theorem addr_add (b off i : Nat) : (⟨b, off, none⟩ : Addr).add i = ⟨b, off + i, none⟩ := by
  unfold Addr.add; split <;> simp_all
theorem src_of {w : World} {ao : Option Addr} {n : Nat} {l : List Int} (h : Rd w ao n l) (hp : 0 < (cellsOf l).length) :
    ∃ ad, ao = some ad ∧ ∀ j v, (cellsOf l)[j]? = some v → w.cell? (ad.add j) = some v := by
  have hp' : 0 < n := by have := h.len; rw [cellsOf_len] at hp; omega
  obtain ⟨b, off, rfl, hc⟩ := h.addr hp'
  refine ⟨_, rfl, fun j v hv => ?_⟩
  obtain ⟨hj, rfl⟩ := cellsOf_get hv
  rw [addr_add]
  exact hc j (by have := h.len; omega)
theorem rd_row {w : World} {g n : Nat} {l : List Int} (hn : l.length = n) (hg : w.heap[g]? = some (.cells (cellsOf l).toArray 3 (0, 0))) : Rd w (some ⟨g, 0, none⟩) n l := by
  refine ⟨hn, fun j hj => ⟨g, 0, rfl, ?_⟩⟩
  have : j < l.length := by omega
  simp [World.cell?, hg, cellsOf, this]
theorem splice_all {L cs : List Value} (h : L.length = cs.length) : splice L 0 cs = cs := by
  unfold splice
  rw [List.drop_eq_nil_of_le (by omega)]
  simp

theorem bytes_yes (s : ByteArray) (a1 a2 a3 : Option Addr) (n c1 c2 c3 : Nat) (e c : Int) (w : World) (hs : s.size ≤ 65536) (hn : n ≤ 8192) :
    Calls Try.prog 4 #[.string s, .slice a1 n c1, .slice a2 n c2, .slice a3 n c3, .int .i64 e, .int .u8 c] w fun r w' => r = .returned (.bool true) ∧ w' = w := by
  go_enter Try.func4, Try.ntmps4
  go_wp2
  go_ret
  exact ⟨rfl, rfl⟩

set_option maxRecDepth 100000 in
set_option maxHeartbeats 1000000 in
/-- Whatever the bounds shut out. -/
theorem main_early (s : ByteArray) (a1 a2 a3 : Option Addr) (n1 c1 n2 c2 n3 c3 : Nat) (e c : Int) (w : World) (h0 : s.size ≤ maxLen) (h1 : n1 ≤ maxLen) (h2 : n2 ≤ maxLen) (h3 : n3 ≤ maxLen)
    (hC : ¬ (s.size ≤ 65536 ∧ n1 ≤ 8192 ∧ n2 = n1 ∧ n3 = n1 ∧ 0 ≤ e ∧ e ≤ 65536)) :
    Calls Try.prog 3 #[.string s, .slice a1 n1 c1, .slice a2 n2 c2, .slice a3 n3 c3, .int .i64 e, .int .u8 c] w fun r w' => r = .returned (.bool true) ∧ Below w.heap.size w w' := by
  go_enter Try.func3, Try.ntmps3
  go_wp2_with fail
  refine (bytes_any s a1 a2 a3 n1 c1 n2 c2 n3 c3 e c _ h0 h1 h2 h3).mono ?_
  rintro r w' ⟨b, rfl, h⟩
  have h' := h.symm; clear h; subst h'
  unfold maxLen at h0 h1 h2 h3
  cases b with
  | false =>
    clear hC
    go_wp2_with fail
    go_ret
    exact ⟨rfl, Below.refl _ _⟩
  | true =>
    by_cases t1 : s.size ≤ 65536
    · by_cases t2 : n1 ≤ 8192
      · by_cases t3 : n2 ≤ 8192
        · by_cases t4 : n3 ≤ 8192
          · by_cases t5 : n2 = n1
            · subst t5
              by_cases t6 : n3 = n2
              · subst t6
                rcases (by omega : e < 0 ∨ (0 ≤ e ∧ 65536 < e)) with t7 | ⟨t7, t8⟩
                all_goals
                  clear hC
                  go_wp2_with fail
                  go_ret
                  exact ⟨rfl, Below.refl _ _⟩
              · have t6' : ((n3 : Int) == n2) = false := by simp; omega
                have t6'' : ((n3 : Int) != n2) = true := by simp; omega
                clear hC
                go_wp2_with fail
                go_ret
                exact ⟨rfl, Below.refl _ _⟩
            · have t5'' : ((n2 : Int) != n1) = true := by simp; omega
              clear hC
              go_wp2_with fail
              go_ret
              exact ⟨rfl, Below.refl _ _⟩
          · clear hC
            go_wp2_with fail
            go_ret
            exact ⟨rfl, Below.refl _ _⟩
        · clear hC
          go_wp2_with fail
          go_ret
          exact ⟨rfl, Below.refl _ _⟩
      · clear hC
        go_wp2_with fail
        go_ret
        exact ⟨rfl, Below.refl _ _⟩
    · clear hC
      go_wp2_with fail
      go_ret
      exact ⟨rfl, Below.refl _ _⟩
end Go.Proofs.Qxb6617571a
