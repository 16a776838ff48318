/-
  The characters' places in a string; the cut after so many characters; the count. No Go text.
-/
import Derived.Test.Qxb6605535aPlain
namespace Go.Proofs.Qxb6605535a.Pl
set_option linter.unusedVariables false

/-- the width that the first two bytes ask for -/
def sh (b0 b1 : Nat) : Nat :=
  if 194 ≤ b0 ∧ b0 ≤ 223 then 2
  else if (b0 = 224 ∧ 160 ≤ b1) ∨ (b0 = 237 ∧ b1 ≤ 159) ∨ ((225 ≤ b0 ∧ b0 ≤ 239) ∧ b0 ≠ 237) then 3
  else if (b0 = 240 ∧ 144 ≤ b1) ∨ (241 ≤ b0 ∧ b0 ≤ 243) ∨ (b0 = 244 ∧ b1 ≤ 143) then 4
  else 1
/-- .. and what the continuation bytes make of it -/
def put (k : Nat) (c1 c2 c3 : Bool) : Nat :=
  if k = 2 then (if c1 then 2 else 1) else if k = 3 then (if c1 && c2 then 3 else 1) else if k = 4 then (if c1 && c2 && c3 then 4 else 1) else 1
theorem sh_one {b0 b1 : Nat} (h : b0 < 194 ∨ 245 ≤ b0) : sh b0 b1 = 1 := by
  unfold sh; rw [if_neg (by omega), if_neg (by omega), if_neg (by omega)]
theorem tbl_put (b0 b1 : Nat) (c1 c2 c3 : Bool) : tbl b0 b1 c1 c2 c3 = put (sh b0 b1) c1 c2 c3 := by
  by_cases g0 : b0 < 194 ∨ 245 ≤ b0
  · rw [tbl_one g0, sh_one g0]; rfl
  by_cases g1 : b0 ≤ 223
  · rw [tbl_two (by omega), show sh b0 b1 = 2 by unfold sh; rw [if_pos (by omega)]]; rfl
  by_cases g2 : b0 = 224
  · subst g2; rw [tbl_e0]
    by_cases g3 : 160 ≤ b1
    · rw [show sh 224 b1 = 3 by unfold sh; rw [if_neg (by omega), if_pos (by omega)]]; simp [put, g3]
    · rw [show sh 224 b1 = 1 by unfold sh; rw [if_neg (by omega), if_neg (by omega), if_neg (by omega)]]; simp [put, g3]
  by_cases g4 : b0 = 237
  · subst g4; rw [tbl_ed]
    by_cases g3 : b1 ≤ 159
    · rw [show sh 237 b1 = 3 by unfold sh; rw [if_neg (by omega), if_pos (by omega)]]; simp [put, g3]
    · rw [show sh 237 b1 = 1 by unfold sh; rw [if_neg (by omega), if_neg (by omega), if_neg (by omega)]]; simp [put, g3]
  by_cases g5 : b0 ≤ 239
  · rw [tbl_e (by omega) g4, show sh b0 b1 = 3 by unfold sh; rw [if_neg (by omega), if_pos (by omega)]]; rfl
  by_cases g6 : b0 = 240
  · subst g6; rw [tbl_f0]
    by_cases g3 : 144 ≤ b1
    · rw [show sh 240 b1 = 4 by unfold sh; rw [if_neg (by omega), if_neg (by omega), if_pos (by omega)]]; simp [put, g3]
    · rw [show sh 240 b1 = 1 by unfold sh; rw [if_neg (by omega), if_neg (by omega), if_neg (by omega)]]; simp [put, g3]
  by_cases g7 : b0 = 244
  · subst g7; rw [tbl_f4]
    by_cases g3 : b1 ≤ 143
    · rw [show sh 244 b1 = 4 by unfold sh; rw [if_neg (by omega), if_neg (by omega), if_pos (by omega)]]; simp [put, g3]
    · rw [show sh 244 b1 = 1 by unfold sh; rw [if_neg (by omega), if_neg (by omega), if_neg (by omega)]]; simp [put, g3]
  rw [tbl_f (by omega), show sh b0 b1 = 4 by unfold sh; rw [if_neg (by omega), if_neg (by omega), if_pos (by omega)]]; rfl
theorem wd_put (s : ByteArray) (i : Nat) : wd s i = put (sh (by8 s i) (by8 s (i + 1))) (flag s (i + 1)) (flag s (i + 2)) (flag s (i + 3)) := by
  rw [wd_tbl, tbl_put]
theorem put_cases (k : Nat) (c1 c2 c3 : Bool) : put k c1 c2 c3 = 1 ∨ (put k c1 c2 c3 = 2 ∧ c1 = true) ∨ (put k c1 c2 c3 = 3 ∧ c1 = true ∧ c2 = true) ∨ (put k c1 c2 c3 = 4 ∧ c1 = true ∧ c2 = true ∧ c3 = true) := by
  unfold put
  by_cases h2 : k = 2
  · subst h2; cases c1 <;> simp
  by_cases h3 : k = 3
  · subst h3; cases c1 <;> cases c2 <;> simp
  by_cases h4 : k = 4
  · subst h4; cases c1 <;> cases c2 <;> cases c3 <;> simp
  simp [h2, h3, h4]
theorem put_none (k : Nat) : put k false false false = 1 := by
  unfold put; by_cases h2 : k = 2 <;> by_cases h3 : k = 3 <;> by_cases h4 : k = 4 <;> simp [h2, h3, h4]
theorem put_low1 {k : Nat} {c1 c2 c3 : Bool} (h : put k c1 c2 c3 ≤ 2) : put k c1 false false = put k c1 c2 c3 := by
  unfold put at h ⊢
  by_cases h2 : k = 2
  · subst h2; simp
  by_cases h3 : k = 3
  · subst h3; cases c1 <;> cases c2 <;> simp at h ⊢
  by_cases h4 : k = 4
  · subst h4; cases c1 <;> cases c2 <;> cases c3 <;> simp at h ⊢
  simp [h2, h3, h4]
theorem put_low2 {k : Nat} {c1 c2 c3 : Bool} (h : put k c1 c2 c3 ≤ 3) : put k c1 c2 false = put k c1 c2 c3 := by
  unfold put at h ⊢
  by_cases h2 : k = 2
  · subst h2; simp
  by_cases h3 : k = 3
  · subst h3; simp
  by_cases h4 : k = 4
  · subst h4; cases c1 <;> cases c2 <;> cases c3 <;> simp at h ⊢
  simp [h2, h3, h4]
theorem wd_cases (s : ByteArray) (i : Nat) : wd s i = 1 ∨ (wd s i = 2 ∧ flag s (i + 1) = true) ∨ (wd s i = 3 ∧ flag s (i + 1) = true ∧ flag s (i + 2) = true) ∨ (wd s i = 4 ∧ flag s (i + 1) = true ∧ flag s (i + 2) = true ∧ flag s (i + 3) = true) := by
  rw [wd_put]; exact put_cases _ _ _ _
theorem flag_in {s : ByteArray} {k : Nat} (h : flag s k = true) : k < s.size := by
  unfold flag at h; simp at h; exact h.1
theorem wd_pos (s : ByteArray) (i : Nat) : 1 ≤ wd s i := by
  rcases wd_cases s i with h | h | h | h <;> omega
theorem wd_in (s : ByteArray) (i : Nat) (hi : i < s.size) : i + wd s i ≤ s.size := by
  rcases wd_cases s i with h | ⟨h, h1⟩ | ⟨h, h1, h2⟩ | ⟨h, h1, h2, h3⟩
  · omega
  · have := flag_in h1; omega
  · have := flag_in h2; omega
  · have := flag_in h3; omega

/-- where character k begins -/
def pos (s : ByteArray) : Nat → Nat
  | 0 => 0
  | k + 1 => if pos s k < s.size then pos s k + wd s (pos s k) else pos s k
theorem pos_succ {s : ByteArray} {k : Nat} (h : pos s k < s.size) : pos s (k + 1) = pos s k + wd s (pos s k) := by
  show (if pos s k < s.size then _ else _) = _
  rw [if_pos h]
theorem pos_stay {s : ByteArray} {k : Nat} (h : ¬ pos s k < s.size) : pos s (k + 1) = pos s k := by
  show (if pos s k < s.size then _ else _) = _
  rw [if_neg h]
theorem pos_le (s : ByteArray) (k : Nat) : pos s k ≤ s.size := by
  induction k with
  | zero => exact Nat.zero_le _
  | succ k ih =>
    by_cases h : pos s k < s.size
    · rw [pos_succ h]; exact wd_in s _ h
    · rw [pos_stay h]; exact ih
theorem pos_step (s : ByteArray) (k : Nat) : pos s k ≤ pos s (k + 1) := by
  by_cases h : pos s k < s.size
  · rw [pos_succ h]; omega
  · rw [pos_stay h]; exact Nat.le_refl _
theorem pos_mono (s : ByteArray) {k l : Nat} (h : k ≤ l) : pos s k ≤ pos s l := by
  induction l with
  | zero => obtain rfl : k = 0 := by omega
            exact Nat.le_refl _
  | succ l ih =>
    by_cases e : k = l + 1
    · subst e; exact Nat.le_refl _
    · exact Nat.le_trans (ih (by omega)) (pos_step s l)
theorem pos_lt (s : ByteArray) {k l : Nat} (h : k < l) (hl : pos s l < s.size) : pos s k < pos s l := by
  have h1 : pos s k < s.size := Nat.lt_of_le_of_lt (pos_mono s (Nat.le_of_lt h)) hl
  have h2 := pos_succ h1
  have h3 := wd_pos s (pos s k)
  have h4 := pos_mono s (show k + 1 ≤ l from h)
  omega

/-- the cut after n characters: are there more, and what is left -/
def moreB (s : ByteArray) (n : Int) : Bool := decide (0 ≤ n ∧ pos s n.toNat < s.size)
def cutS (s : ByteArray) (n : Int) : ByteArray := if moreB s n then s.extract 0 (pos s n.toNat) else s
theorem more_hit {s : ByteArray} {n : Int} {k : Nat} (h : (k : Int) = n) (hp : pos s k < s.size) : moreB s n = true := by
  unfold moreB; subst h; simp [hp]
theorem cut_hit {s : ByteArray} {n : Int} {k : Nat} (h : (k : Int) = n) (hp : pos s k < s.size) : cutS s n = s.extract 0 (pos s k) := by
  unfold cutS; rw [more_hit h hp]; subst h; simp
theorem more_end {s : ByteArray} {n : Int} {k : Nat} (hp : ¬ pos s k < s.size) (h : 0 ≤ n → (k : Int) ≤ n) : moreB s n = false := by
  unfold moreB
  rw [decide_eq_false_iff_not]
  rintro ⟨h1, h2⟩
  have := pos_mono s (show k ≤ n.toNat by have := h h1; omega)
  omega
theorem more_neg {s : ByteArray} {n : Int} (h : n < 0) : moreB s n = false := by
  unfold moreB; rw [decide_eq_false_iff_not]; omega
theorem cut_end {s : ByteArray} {n : Int} (h : moreB s n = false) : cutS s n = s := by
  unfold cutS; rw [h]; simp

/-- c is the number of characters -/
def IsCnt (s : ByteArray) (c : Nat) : Prop := ¬ pos s c < s.size ∧ ∀ j, j < c → pos s j < s.size
theorem cnt_more {s : ByteArray} {c : Nat} (h : IsCnt s c) {n : Int} (h0 : 0 ≤ n) : moreB s n = decide (n < c) := by
  unfold moreB
  rw [Bool.eq_iff_iff]
  simp only [decide_eq_true_eq]
  constructor
  · rintro ⟨_, h2⟩
    by_cases h3 : n < c
    · exact h3
    · have := pos_mono s (show c ≤ n.toNat by omega)
      exact absurd (Nat.lt_of_le_of_lt this h2) h.1
  · intro h2; exact ⟨h0, h.2 _ (by omega)⟩

theorem size_extract0 (s : ByteArray) (p : Nat) (h : p ≤ s.size) : (s.extract 0 p).size = p := by
  rw [ByteArray.size_extract]; omega
theorem by8_extract (s : ByteArray) (p k : Nat) (hp : p ≤ s.size) (hk : k < p) : by8 (s.extract 0 p) k = by8 s k := by
  rw [by8_of _ k (by rw [size_extract0 s p hp]; exact hk), by8_of s k (by omega)]
  rw [ByteArray.getElem_extract]
  simp
theorem flag_extract (s : ByteArray) (p k : Nat) (hp : p ≤ s.size) (hk : k < p) : flag (s.extract 0 p) k = flag s k := by
  rw [flag_of (by rw [size_extract0 s p hp]; exact hk), flag_of (by omega), by8_extract s p k hp hk]
theorem flag_extract_no (s : ByteArray) (p k : Nat) (hp : p ≤ s.size) (hk : ¬ k < p) : flag (s.extract 0 p) k = false := by
  exact flag_no (by rw [size_extract0 s p hp]; exact hk)
theorem wd_extract (s : ByteArray) (p i : Nat) (hp : p ≤ s.size) (hi : i + wd s i ≤ p) : wd (s.extract 0 p) i = wd s i := by
  have h1 := wd_pos s i
  rw [wd_put (s.extract 0 p), by8_extract s p i hp (by omega)]
  rw [wd_put s i] at hi ⊢
  by_cases g1 : i + 1 < p
  · rw [by8_extract s p (i + 1) hp g1, flag_extract s p (i + 1) hp g1]
    by_cases g2 : i + 2 < p
    · rw [flag_extract s p (i + 2) hp g2]
      by_cases g3 : i + 3 < p
      · rw [flag_extract s p (i + 3) hp g3]
      · rw [flag_extract_no s p (i + 3) hp g3]; exact put_low2 (by omega)
    · rw [flag_extract_no s p (i + 2) hp g2, flag_extract_no s p (i + 3) hp (by omega)]; exact put_low1 (by omega)
  · rw [flag_extract_no s p (i + 1) hp g1, flag_extract_no s p (i + 2) hp (by omega), flag_extract_no s p (i + 3) hp (by omega), put_none]
    have := put_cases (sh (by8 s i) (by8 s (i + 1))) (flag s (i + 1)) (flag s (i + 2)) (flag s (i + 3))
    omega

theorem pos_extract (s : ByteArray) (n : Nat) (hn : pos s n < s.size) : ∀ k, k ≤ n → pos (s.extract 0 (pos s n)) k = pos s k := by
  have hp := pos_le s n
  intro k
  induction k with
  | zero => intro _; rfl
  | succ k ih =>
    intro hk
    have h1 := ih (by omega)
    have h2 := pos_lt s (show k < n by omega) hn
    have h3 : pos s k < s.size := by omega
    have h4 := pos_succ h3
    have h5 := pos_mono s hk
    rw [pos_succ (by rw [h1, size_extract0 s _ hp]; exact h2), h1, h4, wd_extract s (pos s n) (pos s k) hp (by omega)]

/-- THE LAW, where there is more than n -/
theorem cut_cut {s : ByteArray} {m n : Nat} (hmn : m ≤ n) (h : moreB s n = true) :
    cutS (cutS s n) m = cutS s m ∧ moreB s m = true ∧ (m < n → moreB (cutS s n) m = true) ∧ (cutS s n).size < s.size ∧ s.extract 0 (cutS s n).size = cutS s n ∧ ∀ c, IsCnt (cutS s n) c → c = n := by
  have hn : pos s n < s.size := by unfold moreB at h; simpa using h
  have hp := pos_le s n
  have e1 : cutS s (n : Int) = s.extract 0 (pos s n) := cut_hit rfl hn
  have hm : pos s m < s.size := Nat.lt_of_le_of_lt (pos_mono s hmn) hn
  have e2 : cutS s (m : Int) = s.extract 0 (pos s m) := cut_hit rfl hm
  have e3 := size_extract0 s (pos s n) hp
  have e4 : m < n → moreB (cutS s n) m = true := by
    intro hlt
    rw [e1]
    refine more_hit rfl ?_
    rw [pos_extract s n hn m hmn, e3]
    exact pos_lt s hlt hn
  refine ⟨?_, more_hit rfl hm, e4, by rw [e1, e3]; exact hn, by rw [e1, e3], ?_⟩
  · by_cases hlt : m < n
    · have h5 := e4 hlt
      rw [e1] at h5 ⊢
      have h6 : cutS (s.extract 0 (pos s n)) (m : Int) = (s.extract 0 (pos s n)).extract 0 (pos (s.extract 0 (pos s n)) m) := by
        unfold cutS; rw [h5]; simp
      rw [h6, pos_extract s n hn m hmn, e2, ByteArray.extract_extract]
      have := pos_mono s hmn
      congr 1
      omega
    · obtain rfl : m = n := by omega
      rw [e1]
      have h5 : moreB (s.extract 0 (pos s m)) (m : Int) = false := more_end (k := m) (by rw [pos_extract s m hn m (Nat.le_refl _), e3]; omega) (fun _ => Int.le_refl _)
      exact cut_end h5
  · intro c hc
    rw [e1] at hc
    have h7 : moreB (s.extract 0 (pos s n)) (n : Int) = false := more_end (k := n) (by rw [pos_extract s n hn n (Nat.le_refl _), e3]; omega) (fun _ => Int.le_refl _)
    rw [cnt_more hc (by omega)] at h7
    have h8 : ¬ c < n := by
      intro hlt
      apply hc.1
      rw [pos_extract s n hn c (by omega), e3]
      exact pos_lt s hlt hn
    simp at h7
    have h9 : ¬ n < c := by
      intro hlt
      have := hc.2 n hlt
      rw [pos_extract s n hn n (Nat.le_refl _), e3] at this
      omega
    omega
end Go.Proofs.Qxb6605535a.Pl
