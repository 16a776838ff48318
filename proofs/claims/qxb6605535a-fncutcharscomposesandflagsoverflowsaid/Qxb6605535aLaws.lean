import Derived.Test.Qxb6605535aCut
namespace Go.Proofs.Qxb6605535a
open Go.RowKit
open Pl (wd pos moreB cutS IsCnt)
set_option linter.unusedVariables false

set_option maxHeartbeats 400000 in
theorem law3_any (s : ByteArray) (n : Int) (w : World) (hs : s.size ≤ maxLen) :
    Calls Try.prog 3 #[.string s, .int .i64 n] w fun e w' => e = .returned (.bool true) ∧ Below w.heap.size w w' := by
  have hs' := hs
  unfold maxLen at hs
  go_enter Try.func3, Try.ntmps3
  go_wp2_with (first
    | (go_at_call 6; refine (bytes6_any _ _ _ hs').mono ?_; rintro e w' ⟨⟨b, rfl⟩, rfl⟩)
    | (go_at_call 7; refine (zzcut_any _ _ _ hs').mono ?_; rintro e w1 ⟨rfl, hb1⟩)
    | (go_at_call 8; refine (model_any _ _ _ hs').mono ?_; rintro e w2 ⟨rfl, hw2⟩; subst hw2))
  all_goals go_ret
  iterate 2 (· exact ⟨rfl, Below.refl _ _⟩)
  all_goals exact ⟨ret_bool (by simp), hb1⟩

set_option maxHeartbeats 1000000 in
theorem law4_less (s : ByteArray) (m n : Nat) (w : World) (hs : s.size ≤ maxLen) (hmn : m ≤ n) (hn : n ≤ 9223372036854775807) (HM : Hid (moreB s n = false)) :
    Calls Try.prog 4 #[.string s, .int .i64 m, .int .i64 n] w fun e w' => e = .returned (.bool true) ∧ Below w.heap.size w w' := by
  have hs' := hs
  unfold maxLen at hs
  have HC := hide (Pl.cut_end HM.out)
  go_enter Try.func4, Try.ntmps4
  go_wp2_with (first
    | (go_at_call 9; refine (bytes9_any _ _ _ _ hs').mono ?_; rintro e w' ⟨⟨b, rfl⟩, rfl⟩))
  iterate 2 (· go_ret; exact ⟨rfl, Below.refl _ _⟩)
  refine (zzcut_any _ _ _ hs').mono ?_
  rintro e w1 ⟨he, b1⟩
  rw [HC.out, HM.out] at he
  subst he
  go_wp2_with fail
  refine (zzcut_any _ _ _ hs').mono ?_
  rintro e w2 ⟨rfl, b2⟩
  have B2 := b1.trans (b2.mono b1.size)
  go_wp2_with fail
  refine (zzcut_any _ _ _ hs').mono ?_
  rintro e w3 ⟨rfl, b3⟩
  have B3 := B2.trans (b3.mono B2.size)
  generalize cutS s m = R
  generalize moreB s m = M
  by_cases hlt : m < n
  all_goals
    go_wp2_with fail
    refine (count_any _ _ hs').mono ?_
    rintro e w4 ⟨c, rfl, hc, hw⟩
    subst hw
    have hcn : ¬ (n : Int) < (c : Int) := by
      have := Pl.cnt_more hc (n := n) (by omega)
      rw [HM.out] at this
      simpa using this.symm
    clear hc
    go_wp2_with fail
    go_ret
    exact ⟨ret_bool (by simp), B3⟩

set_option maxHeartbeats 1000000 in
theorem law4_more (s : ByteArray) (m n : Nat) (w : World) (hs : s.size ≤ maxLen) (hmn : m ≤ n) (hn : n ≤ 9223372036854775807) (HM : Hid (moreB s n = true)) :
    Calls Try.prog 4 #[.string s, .int .i64 m, .int .i64 n] w fun e w' => e = .returned (.bool true) ∧ Below w.heap.size w w' := by
  obtain ⟨f1, f2, f3, f4, f5, f6⟩ := Pl.cut_cut hmn HM.out
  have F1 := hide f1
  have F2 := hide f2
  have F3 := hide f3
  have F5 := hide f5
  have F6 := hide f6
  have F7 : Hid (∀ c, IsCnt s c → (n : Int) < (c : Int)) := hide fun c hc => by
    have := Pl.cnt_more hc (n := n) (by omega)
    rw [HM.out] at this
    simpa using this.symm
  clear f1 f2 f3 f5 f6
  obtain ⟨X, hX⟩ : ∃ X, cutS s n = X := ⟨_, rfl⟩
  obtain ⟨R, hR⟩ : ∃ R, cutS s m = R := ⟨_, rfl⟩
  rw [hX] at F1 F3 f4 F5 F6
  rw [hR] at F1
  have HX := hide hX
  have HR := hide hR
  clear hX hR
  have hs' := hs
  unfold maxLen at hs
  have hx' : X.size ≤ maxLen := by unfold maxLen; omega
  go_enter Try.func4, Try.ntmps4
  go_wp2_with (first
    | (go_at_call 9; refine (bytes9_any _ _ _ _ hs').mono ?_; rintro e w' ⟨⟨b, rfl⟩, rfl⟩))
  iterate 2 (· go_ret; exact ⟨rfl, Below.refl _ _⟩)
  refine (zzcut_any _ _ _ hs').mono ?_
  rintro e w1 ⟨he, b1⟩
  rw [HX.out, HM.out] at he
  subst he
  go_wp2_with fail
  refine (zzcut_any _ _ _ hs').mono ?_
  rintro e w2 ⟨he, b2⟩
  rw [HR.out, F2.out] at he
  subst he
  have B2 := b1.trans (b2.mono b1.size)
  go_wp2_with fail
  refine (zzcut_any _ _ _ hx').mono ?_
  rintro e w3 ⟨he, b3⟩
  rw [F1.out] at he
  have B3 := B2.trans (b3.mono B2.size)
  by_cases hlt : m < n
  · rw [F3.out hlt] at he
    subst he
    go_wp2_with fail
    refine (count_any _ _ hs').mono ?_
    rintro e w4 ⟨c, rfl, hc, hw⟩
    subst hw
    have hcn := F7.out c hc
    have f5 := F5.out
    clear hc
    go_wp2_with fail
    refine (count_any _ _ hx').mono ?_
    rintro e w5 ⟨c', rfl, hc', hw⟩
    subst hw
    obtain rfl := F6.out c' hc'
    clear hc'
    go_wp2_with fail
    go_ret
    exact ⟨ret_bool (by simp), B3⟩
  · subst he
    generalize moreB X m = M
    go_wp2_with fail
    refine (count_any _ _ hs').mono ?_
    rintro e w4 ⟨c, rfl, hc, hw⟩
    subst hw
    have hcn := F7.out c hc
    have f5 := F5.out
    clear hc
    go_wp2_with fail
    refine (count_any _ _ hx').mono ?_
    rintro e w5 ⟨c', rfl, hc', hw⟩
    subst hw
    obtain rfl := F6.out c' hc'
    clear hc'
    go_wp2_with fail
    go_ret
    exact ⟨ret_bool (by simp), B3⟩

set_option maxHeartbeats 1000000 in
theorem law4_out (s : ByteArray) (m n : Int) (w : World) (hs : s.size ≤ maxLen) (h : m < 0 ∨ (0 ≤ m ∧ n < m)) :
    Calls Try.prog 4 #[.string s, .int .i64 m, .int .i64 n] w fun e w' => e = .returned (.bool true) ∧ Below w.heap.size w w' := by
  have hs' := hs
  unfold maxLen at hs
  rcases h with h | h
  all_goals
    go_enter Try.func4, Try.ntmps4
    go_wp2_with (first
      | (go_at_call 9; refine (bytes9_any _ _ _ _ hs').mono ?_; rintro e w' ⟨⟨b, rfl⟩, rfl⟩))
    all_goals (go_ret; exact ⟨rfl, Below.refl _ _⟩)

theorem law4_any (s : ByteArray) (m n : Int) (w : World) (hs : s.size ≤ maxLen) (hn : n ≤ 9223372036854775807) :
    Calls Try.prog 4 #[.string s, .int .i64 m, .int .i64 n] w fun e w' => e = .returned (.bool true) ∧ Below w.heap.size w w' := by
  by_cases h : m < 0 ∨ (0 ≤ m ∧ n < m)
  · exact law4_out s m n w hs h
  obtain ⟨m', rfl⟩ := Int.eq_ofNat_of_zero_le (show 0 ≤ m by omega)
  obtain ⟨n', rfl⟩ := Int.eq_ofNat_of_zero_le (show 0 ≤ n by omega)
  rcases Bool.eq_false_or_eq_true (moreB s n') with hM | hM
  · exact law4_more s m' n' w hs (by omega) (by omega) (hide hM)
  · exact law4_less s m' n' w hs (by omega) (by omega) (hide hM)
end Go.Proofs.Qxb6605535a
