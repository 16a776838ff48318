/-
  Plain facts on bytes and lists for the two laws over the field's method 'is'. Nothing of the program is named here.
-/
namespace Go.Proofs.Qxb6605416a.Pl

/-- the byte c in lower case -/
def low (c : Int) : Int := if 65 ≤ c ∧ c ≤ 90 then c + 32 else c
/-- the byte c with its case swapped -/
def swp (c : Int) : Int := if 65 ≤ c ∧ c ≤ 90 then c + 32 else if 97 ≤ c ∧ c ≤ 122 then c - 32 else c
/-- is c an upper-case letter? -/
def upB (c : Int) : Bool := decide (65 ≤ c ∧ c ≤ 90)
/-- a string's bytes as numbers -/
def bi (s : ByteArray) : List Int := s.data.toList.map fun b => (b.toNat : Int)
/-- the field named xs answers to the name ys -/
def isB (xs ys : List Int) : Bool := decide (xs.map low = ys)
/-- an upper-case letter is among them -/
def hasUp (xs : List Int) : Bool := xs.any upB
/-- c faces w -/
def foldB (c w : Int) : Bool := decide (low c = w)

theorem low_not_up (c : Int) : upB (low c) = false := by unfold upB low; split <;> simp <;> omega
theorem low_swp (c : Int) : low (swp c) = low c := by unfold low swp; split <;> split <;> (try split) <;> omega
theorem low_eq_self (c : Int) : low c = c ↔ upB c = false := by unfold upB low; split <;> simp <;> omega
theorem swp_bd (c : Int) (h0 : 0 ≤ c) (h1 : c ≤ 255) : 0 ≤ swp c ∧ swp c ≤ 255 := by unfold swp; split <;> (try split) <;> omega
theorem low_bd (c : Int) (h0 : 0 ≤ c) (h1 : c ≤ 255) : 0 ≤ low c ∧ low c ≤ 255 := by unfold low; split <;> omega

theorem length_bi (s : ByteArray) : (bi s).length = s.size := by unfold bi; rw [List.length_map, Array.length_toList]; rfl
theorem bi_get (s : ByteArray) (k : Nat) (h : k < s.size) : (bi s)[k]'(by rw [length_bi]; exact h) = ((s[k]'h).toNat : Int) := by
  unfold bi; rw [List.getElem_map]; rfl

theorem isB_len {xs ys : List Int} (h : xs.length ≠ ys.length) : isB xs ys = false := by
  unfold isB; rw [decide_eq_false_iff_not]; intro e; apply h; rw [← e]; simp
theorem isB_no {xs ys : List Int} (k : Nat) (h : k < xs.length) (hy : k < ys.length) (hne : low xs[k] ≠ ys[k]) : isB xs ys = false := by
  unfold isB; rw [decide_eq_false_iff_not]; intro e; apply hne; subst e; simp
theorem isB_yes {xs ys : List Int} (hl : xs.length = ys.length) (h : ∀ k (h : k < xs.length) (hy : k < ys.length), low xs[k] = ys[k]) : isB xs ys = true := by
  unfold isB; rw [decide_eq_true_iff]
  apply List.ext_getElem
  · simpa using hl
  · intro k h1 h2; simp at h1; simpa using h k h1 h2

/-- the first k places agree -/
def toB (zs : List Int) (s : ByteArray) (k : Nat) : Prop := ∀ j (h : j < zs.length) (hy : j < s.size), j < k → low zs[j] = ((s[j]'hy).toNat : Int)
theorem toB_zero (zs : List Int) (s : ByteArray) : toB zs s 0 := fun j _ _ h => absurd h (Nat.not_lt_zero j)
theorem toB_succ {zs : List Int} {s : ByteArray} {k : Nat} {c : Int} (hk : k < s.size) (hc : c = zs.getD k 0) (h : low c = ((s[k]'hk).toNat : Int)) (ha : toB zs s k) : toB zs s (k + 1) := by
  intro j h1 h2 h3
  by_cases e : j = k
  · subst e; rw [← h, hc]; simp [List.getD, h1]
  · exact ha j h1 h2 (by omega)
theorem toB_no {zs : List Int} {s : ByteArray} {k : Nat} {c : Int} (hk : k < s.size) (hl : zs.length = s.size) (hc : c = zs.getD k 0) (h : ¬ low c = ((s[k]'hk).toNat : Int)) : false = isB zs (bi s) := by
  refine (isB_no k (by omega) (by rw [length_bi]; exact hk) ?_).symm
  rw [bi_get s k hk]; intro e; apply h; rw [← e, hc]; simp [List.getD, (show k < zs.length by omega)]
theorem toB_all {zs : List Int} {s : ByteArray} {k : Nat} (hk : ¬ k < s.size) (hl : zs.length = s.size) (ha : toB zs s k) : true = isB zs (bi s) := by
  refine (isB_yes (by rw [length_bi]; exact hl) fun j h1 h2 => ?_).symm
  have h3 : j < s.size := by rw [length_bi] at h2; exact h2
  rw [bi_get s j h3]; exact ha j h1 h3 (by omega)

theorem isB_low (xs : List Int) : isB xs (xs.map low) = true := by simp [isB]
theorem isB_swp (xs ys : List Int) : isB (xs.map swp) ys = isB xs ys := by
  unfold isB; rw [List.map_map]; congr 2; apply List.map_congr_left; intro a _; exact low_swp a
theorem isB_up (xs ys : List Int) (h : hasUp ys = true) : isB xs ys = false := by
  unfold isB; rw [decide_eq_false_iff_not]; intro e; subst e
  simp [hasUp, low_not_up] at h
theorem isB_self (xs : List Int) : isB xs xs = !hasUp xs := by
  unfold isB hasUp
  induction xs with
  | nil => rfl
  | cons a t ih =>
    simp only [List.map_cons, List.cons.injEq, List.any_cons, Bool.not_or]
    by_cases ha : upB a = true
    · have : ¬ low a = a := by rw [low_eq_self]; simp [ha]
      simp [ha, this]
    · have h2 : low a = a := by rw [low_eq_self]; simpa using ha
      simp only [h2, true_and, ih]; simp at ha; simp [ha]

theorem hasUp_no {xs : List Int} (h : ∀ k (h : k < xs.length), upB xs[k] = false) : hasUp xs = false := by
  unfold hasUp; rw [List.any_eq_false]; intro x hx
  obtain ⟨k, hk, rfl⟩ := List.getElem_of_mem hx
  simp [h k hk]
theorem hasUp_yes {xs : List Int} (k : Nat) (h : k < xs.length) (hu : upB xs[k] = true) : hasUp xs = true := by
  unfold hasUp; rw [List.any_eq_true]; exact ⟨_, List.getElem_mem h, hu⟩

/-- no upper-case letter among the first k -/
def noUp (xs : List Int) (k : Nat) : Prop := ∀ j, j < k → upB (xs.getD j 0) = false
theorem noUp_zero (xs : List Int) : noUp xs 0 := fun j h => absurd h (Nat.not_lt_zero j)
theorem noUp_succ {xs : List Int} {k : Nat} {c : Int} (hc : c = xs.getD k 0) (h : ¬ (65 ≤ c ∧ c ≤ 90)) (ha : noUp xs k) : noUp xs (k + 1) := by
  intro j hj
  by_cases e : j = k
  · subst e; rw [← hc]; unfold upB; rw [decide_eq_false_iff_not]; exact h
  · exact ha j (by omega)
theorem noUp_all {xs : List Int} {k : Nat} (hk : ¬ k < xs.length) (ha : noUp xs k) : false = hasUp xs := by
  refine (hasUp_no fun j h => ?_).symm
  have := ha j (by omega)
  simpa [List.getD, h] using this
theorem noUp_hit {xs : List Int} {k : Nat} {c : Int} (hk : k < xs.length) (hc : c = xs.getD k 0) (h : 65 ≤ c ∧ c ≤ 90) : true = hasUp xs := by
  refine (hasUp_yes k hk ?_).symm
  have e : xs[k] = c := by rw [hc]; simp [List.getD, hk]
  rw [e]; unfold upB; rw [decide_eq_true_iff]; exact h
theorem bi_getD (s : ByteArray) (k : Nat) (h : k < s.size) : ((s[k]'h).toNat : Int) = (bi s).getD k 0 := by
  rw [← bi_get s k h]; simp [List.getD, length_bi, h]

end Go.Proofs.Qxb6605416a.Pl
