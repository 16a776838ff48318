/-
  Plain facts on decimal digits and lists of bytes. Nothing of the program is named here.
-/
namespace Go.Proofs.Qxb6605483a.Pl
set_option linter.unusedVariables false

/-- an ASCII digit -/
def dg (b : UInt8) : Bool := decide (48 ≤ (b.toNat : Int) ∧ (b.toNat : Int) ≤ 57)
/-- one or more ASCII digits -/
def okL (l : List UInt8) : Bool := !l.isEmpty && l.all dg

theorem okL_nil : okL [] = false := rfl
theorem isEmpty_app (a b : List UInt8) : (a ++ b).isEmpty = (a.isEmpty && b.isEmpty) := by cases a <;> rfl
theorem okL_parts {d : List UInt8} (h : okL d = true) : d.isEmpty = false ∧ d.all dg = true := by
  unfold okL at h
  rw [Bool.and_eq_true] at h
  exact ⟨by simpa using h.1, h.2⟩
theorem okL_app_right {d s : List UInt8} (h : okL d = true) : okL (d ++ s) = (s.isEmpty || okL s) := by
  obtain ⟨h1, h2⟩ := okL_parts h
  unfold okL
  rw [isEmpty_app, List.all_append, h1, h2]
  cases s with
  | nil => rfl
  | cons a t => rfl
theorem okL_app_left {d s : List UInt8} (h : okL d = true) : okL (s ++ d) = (s.isEmpty || okL s) := by
  obtain ⟨h1, h2⟩ := okL_parts h
  unfold okL
  rw [isEmpty_app, List.all_append, h1, h2]
  cases s with
  | nil => rfl
  | cons a t => simp
theorem okL_one (c : UInt8) : okL [c] = dg c := by simp [okL]

/-- the first k bytes are digits -/
def upTo (l : List UInt8) (k : Nat) : Prop := ∀ j (h : j < l.length), j < k → dg l[j] = true
theorem upTo_zero (l : List UInt8) : upTo l 0 := fun j _ h => absurd h (Nat.not_lt_zero j)
theorem upTo_succ {l : List UInt8} {k : Nat} (hk : k < l.length) (h1 : 48 ≤ ((l[k]).toNat : Int)) (h2 : ((l[k]).toNat : Int) ≤ 57) (h : upTo l k) : upTo l (k + 1) := by
  intro j hj h3
  by_cases e : j = k
  · subst e; unfold dg; rw [decide_eq_true_iff]; exact ⟨h1, h2⟩
  · exact h j hj (by omega)
theorem upTo_no {l : List UInt8} {k : Nat} (hk : k < l.length) (h : ((l[k]).toNat : Int) < 48 ∨ 57 < ((l[k]).toNat : Int)) : false = okL l := by
  symm
  unfold okL
  rw [Bool.and_eq_false_iff]
  right
  rw [List.all_eq_false]
  refine ⟨l[k], List.getElem_mem hk, ?_⟩
  unfold dg
  simp
  omega
theorem upTo_all {l : List UInt8} {k : Nat} (h0 : l.isEmpty = false) (hk : ¬ k < l.length) (h : upTo l k) : true = okL l := by
  symm
  unfold okL
  rw [h0]
  simp only [Bool.not_false, Bool.true_and, List.all_eq_true]
  intro x hx
  obtain ⟨j, hj, rfl⟩ := List.getElem_of_mem hx
  exact h j hj (by omega)

/-- one step of the rendering -/
theorem step_bound {n : Int} {k : Nat} (h0 : 0 ≤ n) (h : n < (10 : Int) ^ (k + 1)) : n / 10 < (10 : Int) ^ k := by
  rw [Int.pow_succ] at h
  omega
theorem pos_of_bound {n : Int} {k : Nat} (h0 : 0 < n) (h : n < (10 : Int) ^ k) : 0 < k := by
  rcases Nat.eq_zero_or_pos k with rfl | h2
  · simp at h; omega
  · exact h2
theorem top_bound {n : Int} (h : n ≤ 18446744073709551615) : n < (10 : Int) ^ 20 := by
  have : (10 : Int) ^ 20 = 100000000000000000000 := by decide
  omega

end Go.Proofs.Qxb6605483a.Pl
