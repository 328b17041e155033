/-
  THE PLAIN LAW of FnBlockTextLiteralRows: no Go in sight. 'seg k': the k-th line's text; 'M k': the number of empty lines before it.
-/
namespace Go.Proofs.Qxb6617571a.Plain

def emp : ByteArray := { data := #[] }
/-- n line feeds. -/
def nl (n : Nat) : List UInt8 := List.replicate n 10
/-- The rows of the first k lines: before each its empty rows, then its text. -/
def rowsN (seg : Nat → ByteArray) (M : Nat → Nat) : Nat → List ByteArray
  | 0 => []
  | k + 1 => rowsN seg M k ++ (List.replicate (M k) emp ++ [seg k])
/-- The block's text for the first k lines, as the builder gathers it. -/
def bodyN (seg : Nat → ByteArray) (M : Nat → Nat) : Nat → List UInt8
  | 0 => []
  | k + 1 => bodyN seg M k ++ (nl (if k = 0 then M k else 1 + M k) ++ (seg k).data.toList)
/-- Each row behind a line feed. -/
def jn (rs : List ByteArray) : List UInt8 := rs.flatMap fun r => 10 :: r.data.toList
/-- The rows with one line feed between each two. -/
def joinR : List ByteArray → List UInt8
  | [] => []
  | r :: rs => r.data.toList ++ jn rs

theorem nl_succ (n : Nat) : nl (n + 1) = 10 :: nl n := List.replicate_succ
theorem nl_add (a b : Nat) : nl (a + b) = nl a ++ nl b := by simp [nl]
theorem nl_length (n : Nat) : (nl n).length = n := by simp [nl]
theorem nl_move (m : Nat) (x : List UInt8) : nl m ++ 10 :: x = 10 :: (nl m ++ x) := by
  induction m with
  | zero => rfl
  | succ m ih => rw [nl_succ, List.cons_append, ih]; rfl
theorem nl_end (m : Nat) : nl m ++ [10] = nl (1 + m) := by
  rw [nl_move, List.append_nil, Nat.add_comm, nl_succ]

theorem jn_append (a b : List ByteArray) : jn (a ++ b) = jn a ++ jn b := by simp [jn]
theorem jn_emp (m : Nat) : jn (List.replicate m emp) = nl m := by
  induction m with
  | zero => rfl
  | succ m ih =>
    rw [List.replicate_succ, nl_succ, ← ih]
    simp [jn, emp]
theorem jn_one (r : ByteArray) : jn [r] = 10 :: r.data.toList := by simp [jn]
theorem jn_join {rs : List ByteArray} (h : rs ≠ []) : jn rs = 10 :: joinR rs := by
  cases rs with
  | nil => exact absurd rfl h
  | cons r rs => simp [jn, joinR]

variable (seg : Nat → ByteArray) (M : Nat → Nat)

theorem rows_ne {k : Nat} (h : 0 < k) : rowsN seg M k ≠ [] := by
  cases k with
  | zero => omega
  | succ k => simp [rowsN]

theorem jn_rows : ∀ {k : Nat}, 0 < k → jn (rowsN seg M k) = 10 :: bodyN seg M k
  | 0, h => by omega
  | 1, _ => by
    simp only [rowsN, bodyN, jn_append, jn_emp, jn_one, if_true, List.nil_append]
    rw [nl_move]
  | k + 2, _ => by
    have ih := jn_rows (k := k + 1) (by omega)
    have e : bodyN seg M (k + 2) = bodyN seg M (k + 1) ++ (nl (1 + M (k + 1)) ++ (seg (k + 1)).data.toList) := by
      rw [bodyN, if_neg (by omega)]
    rw [rowsN, jn_append, jn_append, jn_emp, jn_one, ih, e, nl_add, nl_move]
    simp [nl]

/-- (A) strip: the rows joined. -/
theorem law_strip (n : Nat) : joinR (rowsN seg M n) = bodyN seg M n := by
  cases n with
  | zero => rfl
  | succ n =>
    have h1 := jn_rows seg M (k := n + 1) (by omega)
    rw [jn_join (rows_ne seg M (by omega))] at h1
    exact (List.cons.inj h1).2

/-- (B) no line, e > 0 empty rows. -/
theorem law_empty {e : Nat} (h : 0 < e) : joinR (List.replicate e emp) ++ [10] = nl e := by
  have hne : List.replicate e emp ≠ [] := by simp; omega
  have h1 := jn_emp e
  rw [jn_join hne] at h1
  obtain ⟨e, rfl⟩ : ∃ d, e = d + 1 := ⟨e - 1, by omega⟩
  rw [nl_succ] at h1
  rw [(List.cons.inj h1).2, nl_end, Nat.add_comm]

/-- (C) at least one line, e empty rows behind. -/
theorem law_lines {n : Nat} (e : Nat) (h : 0 < n) : joinR (rowsN seg M n ++ List.replicate e emp) ++ [10] = bodyN seg M n ++ nl (1 + e) := by
  have hne : rowsN seg M n ++ List.replicate e emp ≠ [] := by simp [rows_ne seg M h]
  have h1 : jn (rowsN seg M n ++ List.replicate e emp) = 10 :: (bodyN seg M n ++ nl e) := by
    rw [jn_append, jn_rows seg M h, jn_emp]; rfl
  rw [jn_join hne] at h1
  rw [(List.cons.inj h1).2, List.append_assoc, nl_end]

/-! ### Steps and sizes -/
def sumF (f : Nat → Nat) : Nat → Nat
  | 0 => 0
  | k + 1 => sumF f k + f k
theorem sumF_mono (f : Nat → Nat) {a b : Nat} (h : a ≤ b) : sumF f a ≤ sumF f b := by
  induction b with
  | zero => have : a = 0 := by omega
            subst this; exact Nat.le_refl _
  | succ b ih =>
    by_cases e : a = b + 1
    · subst e; exact Nat.le_refl _
    · have := ih (by omega)
      simp only [sumF]; omega

theorem rows_len : ∀ k, (rowsN seg M k).length = sumF M k + k
  | 0 => rfl
  | k + 1 => by simp [rowsN, sumF, rows_len k]; omega
theorem len_eq (s : ByteArray) : s.data.toList.length = s.size := by rw [Array.length_toList]; rfl
theorem body_len : ∀ k, (bodyN seg M k).length ≤ sumF M k + k + sumF (fun j => (seg j).size) k
  | 0 => Nat.le_refl _
  | k + 1 => by
    have := body_len k
    simp only [bodyN, sumF, List.length_append, nl_length, len_eq]
    split <;> omega
theorem jn_rows_len : ∀ k, (jn (rowsN seg M k)).length = sumF M k + k + sumF (fun j => (seg j).size) k
  | 0 => rfl
  | k + 1 => by
    rw [rowsN, jn_append, jn_append, jn_emp, jn_one]
    simp only [List.length_append, jn_rows_len k, nl_length, List.length_cons, len_eq, sumF]
    omega
theorem join_le (rs : List ByteArray) : (joinR rs).length ≤ (jn rs).length := by
  cases rs with
  | nil => exact Nat.le_refl _
  | cons r rs => rw [jn_join (by simp)]; simp
theorem jn_take_le (rs : List ByteArray) (k : Nat) : (jn (rs.take k)).length ≤ (jn rs).length := by
  have : jn rs = jn (rs.take k) ++ jn (rs.drop k) := by rw [← jn_append, List.take_append_drop]
  rw [this]; simp
theorem take_snoc {rs : List ByteArray} {k : Nat} (h : k < rs.length) : rs.take (k + 1) = rs.take k ++ [rs.getD k emp] := by
  rw [List.take_succ_eq_append_getElem h]; simp [h]
theorem join_first {rs : List ByteArray} (h : 0 < rs.length) : joinR (rs.take 1) = (rs.getD 0 emp).data.toList := by
  rw [take_snoc h]; simp [joinR, jn]
theorem join_next {rs : List ByteArray} {k : Nat} (h0 : 0 < k) (h : k < rs.length) : joinR (rs.take (k + 1)) = joinR (rs.take k) ++ (10 :: (rs.getD k emp).data.toList) := by
  have hne : rs.take k ≠ [] := by
    intro e
    rw [List.take_eq_nil_iff] at e
    rcases e with rfl | rfl
    · omega
    · simp at h
  rw [take_snoc h]
  cases e : rs.take k with
  | nil => exact absurd e hne
  | cons r t => simp [joinR, jn]

/-! ### What zzLinesFit asks -/
def sumI (f : Nat → Int) : Nat → Int
  | 0 => 0
  | k + 1 => sumI f k + f k
/-- The first k lines lie in a text of 'size' bytes, and their sums are bounded. -/
structure Fit (size : Nat) (l1 l2 l3 : List Int) (k : Nat) : Prop where
  line : ∀ j, j < k → 0 ≤ l1.getD j 0 ∧ l1.getD j 0 < l2.getD j 0 ∧ l2.getD j 0 ≤ size ∧ 0 ≤ l3.getD j 0 ∧ l3.getD j 0 ≤ 65536
  emps : sumI (fun j => l3.getD j 0) k ≤ 1048576
  text : sumI (fun j => l2.getD j 0 - l1.getD j 0) k ≤ 1048576

theorem fit_zero (size : Nat) (l1 l2 l3 : List Int) : Fit size l1 l2 l3 0 := ⟨fun j h => absurd h (Nat.not_lt_zero _), by simp [sumI], by simp [sumI]⟩

theorem fit_step {size : Nat} {l1 l2 l3 : List Int} {k : Nat} {a b m A T : Int} (h : Fit size l1 l2 l3 k) (ea : a = l1.getD k 0) (eb : b = l2.getD k 0) (em : m = l3.getD k 0)
    (eA : A = sumI (fun j => l3.getD j 0) k) (eT : T = sumI (fun j => l2.getD j 0 - l1.getD j 0) k)
    (h1 : 0 ≤ a) (h2 : a < b) (h3 : b ≤ size) (h4 : 0 ≤ m) (h5 : m ≤ 65536) (h6 : A + m ≤ 1048576) (h7 : T + (b - a) ≤ 1048576) :
    Fit size l1 l2 l3 (k + 1) ∧ A + m = sumI (fun j => l3.getD j 0) (k + 1) ∧ T + (b - a) = sumI (fun j => l2.getD j 0 - l1.getD j 0) (k + 1) := by
  subst ea eb em eA eT
  refine ⟨⟨fun j hj => ?_, h6, h7⟩, rfl, rfl⟩
  by_cases e : j = k
  · subst e; exact ⟨h1, h2, h3, h4, h5⟩
  · exact h.line j (by omega)

theorem sum_eq (f : Nat → Int) (g : Nat → Nat) : ∀ n, (∀ j, j < n → f j = (g j : Int)) → sumI f n = (sumF g n : Int)
  | 0, _ => rfl
  | n + 1, h => by
    have := sum_eq f g n (fun j hj => h j (by omega))
    simp only [sumI, sumF, this, h n (by omega)]
    omega

/-- The lines' texts and counts, as the walks speak of them. -/
def segOf (s : ByteArray) (l1 l2 : List Int) (j : Nat) : ByteArray := s.extract (l1.getD j 0).toNat (l2.getD j 0).toNat
def cntOf (l3 : List Int) (j : Nat) : Nat := (l3.getD j 0).toNat

theorem fit_cnt {size : Nat} {l1 l2 l3 : List Int} {n : Nat} (h : Fit size l1 l2 l3 n) : sumF (cntOf l3) n ≤ 1048576 := by
  have e := sum_eq (fun j => l3.getD j 0) (cntOf l3) n (fun j hj => by
    have := (h.line j hj).2.2.2.1
    unfold cntOf; omega)
  have := h.emps
  omega

theorem fit_seg {s : ByteArray} {l1 l2 l3 : List Int} {n : Nat} (h : Fit s.size l1 l2 l3 n) : sumF (fun j => (segOf s l1 l2 j).size) n ≤ 1048576 := by
  have e := sum_eq (fun j => l2.getD j 0 - l1.getD j 0) (fun j => (segOf s l1 l2 j).size) n (fun j hj => by
    have h1 := h.line j hj
    unfold segOf
    rw [ByteArray.size_extract]; omega)
  have := h.text
  omega

end Go.Proofs.Qxb6617571a.Plain
