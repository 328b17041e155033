/-
  THE PLAIN LAW of FnIsLineNumberCut: no Go in sight.
-/
namespace Go.Proofs.Qxb6617501a.Plain

/-- One of the ten decimal digits. -/
def dig (c : UInt8) : Bool := decide (48 ≤ c.toNat ∧ c.toNat ≤ 57)
/-- One or more digits and nothing else. -/
def isNum (l : List UInt8) : Bool := !l.isEmpty && l.all dig
/-- A number of at most 32 digits. -/
def isLine (l : List UInt8) : Bool := decide (l.length ≤ 32) && isNum l

theorem isNum_nil : isNum [] = false := rfl

theorem isNum_bad {l : List UInt8} {k : Nat} {c : UInt8} (h : l[k]? = some c) (hc : ¬ (48 ≤ c.toNat ∧ c.toNat ≤ 57)) : isNum l = false := by
  unfold isNum
  have : l.all dig = false := by
    rw [List.all_eq_false]
    exact ⟨c, List.mem_of_getElem? h, by simp [dig]; omega⟩
  simp [this]

theorem all_snoc {l : List UInt8} {k : Nat} {c : UInt8} (h : l[k]? = some c) (hc : 48 ≤ c.toNat ∧ c.toNat ≤ 57) (ha : (l.take k).all dig = true) : (l.take (k + 1)).all dig = true := by
  have hk : k < l.length := (List.getElem?_eq_some_iff.1 h).1
  have he : l[k] = c := (List.getElem?_eq_some_iff.1 h).2
  rw [List.take_succ_eq_append_getElem hk, List.all_append, ha, he]
  simp [dig, hc]

theorem isNum_all {l : List UInt8} (h0 : l.isEmpty = false) (ha : (l.take l.length).all dig = true) : isNum l = true := by
  rw [List.take_length] at ha
  simp [isNum, h0, ha]

/-- What the law's middle test asks. -/
def joined (l a b : List UInt8) : Bool := !l.isEmpty && decide (l.length ≤ 32) && (a.isEmpty || isLine a) && (b.isEmpty || isLine b)

theorem isLine_cut (l a b : List UInt8) (h : l = a ++ b) : isLine l = joined l a b := by
  subst h
  rw [Bool.eq_iff_iff]
  unfold joined isLine isNum
  simp only [Bool.and_eq_true, Bool.or_eq_true, decide_eq_true_eq, List.length_append, List.all_append, List.isEmpty_iff, Bool.not_eq_true', List.isEmpty_eq_false_iff]
  constructor
  · rintro ⟨h1, h2, h3, h4⟩
    refine ⟨⟨⟨h2, h1⟩, ?_⟩, ?_⟩
    · by_cases e : a = []
      · exact .inl e
      · exact .inr ⟨by omega, e, h3⟩
    · by_cases e : b = []
      · exact .inl e
      · exact .inr ⟨by omega, e, h4⟩
  · rintro ⟨⟨⟨h2, h1⟩, h3⟩, h4⟩
    refine ⟨h1, h2, ?_, ?_⟩
    · rcases h3 with rfl | h3
      · rfl
      · exact h3.2.2
    · rcases h4 with rfl | h4
      · rfl
      · exact h4.2.2

theorem isLine_one (c : UInt8) : isLine [c] = dig c := by
  simp [isLine, isNum]

theorem isLine_empty : isLine [] = false := rfl

end Go.Proofs.Qxb6617501a.Plain
