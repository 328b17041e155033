/-
  THE PLAIN LAW of FnPlainJoinAnyCut: no Go in sight.
-/
namespace Go.Proofs.Qxb6617526a.Plain

/-- A tab, a newline, or a printable ASCII byte. -/
def kept (z : Int) : Bool := z == 9 || z == 10 || (decide (32 ≤ z) && decide (z ≤ 126))
def plain (l : List Int) : Bool := l.all kept
def cnt (l : List Int) : Nat := (l.filter kept).length

theorem kept_yes {z : Int} (h : z = 9 ∨ z = 10 ∨ (32 ≤ z ∧ z ≤ 126)) : kept z = true := by
  unfold kept
  rcases h with rfl | rfl | ⟨h1, h2⟩
  · rfl
  · rfl
  · simp [h1, h2]

theorem kept_no {z : Int} (h1 : z ≠ 9) (h2 : z ≠ 10) (h3 : z < 32 ∨ 126 < z) : kept z = false := by
  unfold kept
  have a : (z == 9) = false := by simpa using h1
  have b : (z == 10) = false := by simpa using h2
  rw [a, b]
  rcases h3 with h3 | h3
  · rw [decide_eq_false (by omega : ¬ (32 ≤ z))]; rfl
  · rw [decide_eq_false (by omega : ¬ (z ≤ 126))]; simp

theorem plain_join (a b : List Int) : plain (a ++ b) = (plain a && plain b) := by simp [plain]

theorem cnt_le (l : List Int) : cnt l ≤ l.length := List.length_filter_le _ _

theorem cnt_plain (l : List Int) : ((cnt l : Int) == (l.length : Int)) = plain l := by
  rw [Bool.eq_iff_iff]
  simp only [beq_iff_eq]
  unfold plain cnt
  rw [List.all_eq_true]
  constructor
  · intro h
    have h' : (l.filter kept).length = l.length := by omega
    exact List.length_filter_eq_length_iff.1 h'
  · intro h
    rw [List.length_filter_eq_length_iff.2 h]

theorem take_snoc {l : List Int} {k : Nat} (h : k < l.length) : l.take (k + 1) = l.take k ++ [l.getD k 0] := by
  rw [List.take_succ_eq_append_getElem h]
  simp [h]

theorem cnt_yes {l : List Int} {k : Nat} (h : k < l.length) (hk : kept (l.getD k 0) = true) : cnt (l.take (k + 1)) = cnt (l.take k) + 1 := by
  rw [take_snoc h]
  unfold cnt
  rw [List.filter_append, List.filter_cons, hk]
  simp

theorem cnt_no {l : List Int} {k : Nat} (h : k < l.length) (hk : kept (l.getD k 0) = false) : cnt (l.take (k + 1)) = cnt (l.take k) := by
  rw [take_snoc h]
  unfold cnt
  rw [List.filter_append, List.filter_cons, hk]
  simp

theorem plain_yes {l : List Int} {k : Nat} (h : k < l.length) (hk : kept (l.getD k 0) = true) (hp : plain (l.take k) = true) : plain (l.take (k + 1)) = true := by
  rw [take_snoc h, plain_join, hp]
  simp only [plain, List.all_cons, List.all_nil, hk, Bool.and_self]

theorem plain_no {l : List Int} {k : Nat} (h : k < l.length) (hk : kept (l.getD k 0) = false) : plain l = false := by
  unfold plain
  rw [List.all_eq_false]
  refine ⟨l.getD k 0, ?_, by rw [hk]; simp⟩
  have : l.getD k 0 = l[k] := by simp [h]
  rw [this]
  exact List.getElem_mem h

theorem plain_end {l : List Int} {k : Nat} (h : ¬ k < l.length) (hp : plain (l.take k) = true) : plain l = true := by
  rw [List.take_of_length_le (by omega)] at hp; exact hp

end Go.Proofs.Qxb6617526a.Plain
