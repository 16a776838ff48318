import Derived.Test.Qxb6605535aRows
import Derived.Test.Qxb6605535aKit
import Derived.Test.Qxb6605535aPlain
import Derived.WalkSpells
import Derived.WalkLawsBesides
namespace Go.Proofs.Qxb6605535a
open Go.RowKit
open Pl (contB by8 by8_of wd)
set_option linter.unusedVariables false

theorem ret_int {k : IntKind} {a b : Int} (h : a = b) : Ending.returned (.int k a) = .returned (.int k b) := by rw [h]

set_option maxHeartbeats 400000 in
theorem cont_any (c : Int) (w : World) (h0 : 0 ≤ c) (h1 : c ≤ 255) : Calls Try.prog 22 #[.int .u8 c] w fun e w' => e = .returned (.bool (contB c)) ∧ w' = w := by
  go_enter Try.func22, Try.ntmps22
  go_wp2
  all_goals
    go_ret
    refine ⟨ret_bool ?_, rfl⟩
    rw [Bool.eq_iff_iff]; unfold contB; simp; omega

theorem contB_absurd {x : Int} {p : Prop} (h : contB x = true) (h' : contB x = false) : p := by rw [h] at h'; cases h'

set_option maxRecDepth 100000 in
set_option maxHeartbeats 1000000 in
theorem width_one (s : ByteArray) (i : Nat) (w : World) (hs : s.size ≤ maxLen) (hi : i < s.size) (h : (s[i].toNat : Int) < 194 ∨ 245 ≤ (s[i].toNat : Int)) :
    Calls Try.prog 18 #[.string s, .int .i64 i] w fun e w' => e = .returned (.int .i64 (wd s i : Int)) ∧ w' = w := by
  have HW := Pl.W_one s i (by rw [by8_of s i hi]; exact h)
  have HW' := hide HW
  clear HW
  unfold maxLen at hs
  have h0 := byte_le s[i]
  have q224 : ((s[i].toNat : Int) == 224) = false := beq_eq_false_iff_ne.2 (by omega)
  have q238 : ((s[i].toNat : Int) == 238) = false := beq_eq_false_iff_ne.2 (by omega)
  have q239 : ((s[i].toNat : Int) == 239) = false := beq_eq_false_iff_ne.2 (by omega)
  have q237 : ((s[i].toNat : Int) == 237) = false := beq_eq_false_iff_ne.2 (by omega)
  have q240 : ((s[i].toNat : Int) == 240) = false := beq_eq_false_iff_ne.2 (by omega)
  have q244 : ((s[i].toNat : Int) == 244) = false := beq_eq_false_iff_ne.2 (by omega)
  rcases h with h | h
  · by_cases h1 : (s[i].toNat : Int) < 128
    all_goals
      go_enter Try.func18, Try.ntmps18
      go_wp2_with fail
      go_ret
      exact ⟨ret_int HW'.out.symm, rfl⟩
  · go_enter Try.func18, Try.ntmps18
    go_wp2_with fail
    go_ret
    exact ⟨ret_int HW'.out.symm, rfl⟩

set_option maxRecDepth 100000 in
set_option maxHeartbeats 1000000 in
theorem width_two (s : ByteArray) (i : Nat) (w : World) (hs : s.size ≤ maxLen) (hi : i < s.size) (h : (194 ≤ (s[i].toNat : Int) ∧ (s[i].toNat : Int) ≤ 223)) :
    Calls Try.prog 18 #[.string s, .int .i64 i] w fun e w' => e = .returned (.int .i64 (wd s i : Int)) ∧ w' = w := by
  unfold maxLen at hs
  have h0 := byte_le s[i]
  have q224 : ((s[i].toNat : Int) == 224) = false := beq_eq_false_iff_ne.2 (by omega)
  have q238 : ((s[i].toNat : Int) == 238) = false := beq_eq_false_iff_ne.2 (by omega)
  have q239 : ((s[i].toNat : Int) == 239) = false := beq_eq_false_iff_ne.2 (by omega)
  have q237 : ((s[i].toNat : Int) == 237) = false := beq_eq_false_iff_ne.2 (by omega)
  have q240 : ((s[i].toNat : Int) == 240) = false := beq_eq_false_iff_ne.2 (by omega)
  have q244 : ((s[i].toNat : Int) == 244) = false := beq_eq_false_iff_ne.2 (by omega)
  by_cases hn : i + 1 < s.size
  · have HW := Pl.W_two s i hn (by rw [by8_of s i hi]; omega)
    rw [by8_of s (i + 1) (by omega)] at HW
    have HW' := hide HW
    clear HW
    have g1 := byte_le (s[i + 1]'(by omega))
    go_enter Try.func18, Try.ntmps18
    go_wp2_with (go_at_call 22; refine (cont_any _ _ (by omega) (by omega)).mono ?_; rintro e w' ⟨rfl, rfl⟩)
    all_goals
      go_ret
      refine ⟨ret_int ?_, rfl⟩
      rw [HW'.out]
      first | rw [if_pos (by assumption)] | rw [if_neg (by intro hk; have k0 := hk; first | omega | exact contB_absurd k0 ‹_› | exact absurd k0 ‹_›)]
  · have HW' := hide (Pl.W_two_no s i hn (by rw [by8_of s i hi]; omega))
    go_enter Try.func18, Try.ntmps18
    go_wp2_with fail
    all_goals
      go_ret
      exact ⟨ret_int HW'.out.symm, rfl⟩

set_option maxRecDepth 100000 in
set_option maxHeartbeats 1000000 in
theorem width_e0 (s : ByteArray) (i : Nat) (w : World) (hs : s.size ≤ maxLen) (hi : i < s.size) (h : ((s[i].toNat : Int) = 224)) :
    Calls Try.prog 18 #[.string s, .int .i64 i] w fun e w' => e = .returned (.int .i64 (wd s i : Int)) ∧ w' = w := by
  unfold maxLen at hs
  have h0 := byte_le s[i]
  by_cases hn : i + 2 < s.size
  · have HW := Pl.W_e0 s i hn (by rw [by8_of s i hi]; omega)
    rw [by8_of s (i + 1) (by omega), by8_of s (i + 2) (by omega)] at HW
    have HW' := hide HW
    clear HW
    have g1 := byte_le (s[i + 1]'(by omega))
    have g2 := byte_le (s[i + 2]'(by omega))
    go_enter Try.func18, Try.ntmps18
    go_wp2_with (go_at_call 22; refine (cont_any _ _ (by omega) (by omega)).mono ?_; rintro e w' ⟨rfl, rfl⟩)
    all_goals
      go_ret
      refine ⟨ret_int ?_, rfl⟩
      rw [HW'.out]
      first | rw [if_pos (⟨by omega, by omega, by assumption⟩)] | rw [if_neg (by intro hk; have ⟨k0, k1, k2⟩ := hk; first | omega | exact contB_absurd k2 ‹_› | exact absurd k2 ‹_›)]
  · have HW' := hide (Pl.W_e0_no s i hn (by rw [by8_of s i hi]; omega))
    go_enter Try.func18, Try.ntmps18
    go_wp2_with fail
    all_goals
      go_ret
      exact ⟨ret_int HW'.out.symm, rfl⟩

set_option maxRecDepth 100000 in
set_option maxHeartbeats 1000000 in
theorem width_e1 (s : ByteArray) (i : Nat) (w : World) (hs : s.size ≤ maxLen) (hi : i < s.size) (h : (225 ≤ (s[i].toNat : Int) ∧ (s[i].toNat : Int) ≤ 236)) :
    Calls Try.prog 18 #[.string s, .int .i64 i] w fun e w' => e = .returned (.int .i64 (wd s i : Int)) ∧ w' = w := by
  unfold maxLen at hs
  have h0 := byte_le s[i]
  have q224 : ((s[i].toNat : Int) == 224) = false := beq_eq_false_iff_ne.2 (by omega)
  have q238 : ((s[i].toNat : Int) == 238) = false := beq_eq_false_iff_ne.2 (by omega)
  have q239 : ((s[i].toNat : Int) == 239) = false := beq_eq_false_iff_ne.2 (by omega)
  have q237 : ((s[i].toNat : Int) == 237) = false := beq_eq_false_iff_ne.2 (by omega)
  have q240 : ((s[i].toNat : Int) == 240) = false := beq_eq_false_iff_ne.2 (by omega)
  have q244 : ((s[i].toNat : Int) == 244) = false := beq_eq_false_iff_ne.2 (by omega)
  by_cases hn : i + 2 < s.size
  · have HW := Pl.W_e s i hn (by rw [by8_of s i hi]; omega)
    rw [by8_of s (i + 1) (by omega), by8_of s (i + 2) (by omega)] at HW
    have HW' := hide HW
    clear HW
    have g1 := byte_le (s[i + 1]'(by omega))
    have g2 := byte_le (s[i + 2]'(by omega))
    go_enter Try.func18, Try.ntmps18
    go_wp2_with (go_at_call 22; refine (cont_any _ _ (by omega) (by omega)).mono ?_; rintro e w' ⟨rfl, rfl⟩)
    all_goals
      go_ret
      refine ⟨ret_int ?_, rfl⟩
      rw [HW'.out]
      first | rw [if_pos (⟨by assumption, by assumption⟩)] | rw [if_neg (by intro hk; have ⟨k0, k1⟩ := hk; first | omega | exact contB_absurd k0 ‹_› | exact absurd k0 ‹_› | exact contB_absurd k1 ‹_› | exact absurd k1 ‹_›)]
  · have HW' := hide (Pl.W_e_no s i hn (by rw [by8_of s i hi]; omega))
    go_enter Try.func18, Try.ntmps18
    go_wp2_with fail
    all_goals
      go_ret
      exact ⟨ret_int HW'.out.symm, rfl⟩

set_option maxRecDepth 100000 in
set_option maxHeartbeats 1000000 in
theorem width_e2 (s : ByteArray) (i : Nat) (w : World) (hs : s.size ≤ maxLen) (hi : i < s.size) (h : ((s[i].toNat : Int) = 238)) :
    Calls Try.prog 18 #[.string s, .int .i64 i] w fun e w' => e = .returned (.int .i64 (wd s i : Int)) ∧ w' = w := by
  unfold maxLen at hs
  have h0 := byte_le s[i]
  by_cases hn : i + 2 < s.size
  · have HW := Pl.W_e s i hn (by rw [by8_of s i hi]; omega)
    rw [by8_of s (i + 1) (by omega), by8_of s (i + 2) (by omega)] at HW
    have HW' := hide HW
    clear HW
    have g1 := byte_le (s[i + 1]'(by omega))
    have g2 := byte_le (s[i + 2]'(by omega))
    go_enter Try.func18, Try.ntmps18
    go_wp2_with (go_at_call 22; refine (cont_any _ _ (by omega) (by omega)).mono ?_; rintro e w' ⟨rfl, rfl⟩)
    all_goals
      go_ret
      refine ⟨ret_int ?_, rfl⟩
      rw [HW'.out]
      first | rw [if_pos (⟨by assumption, by assumption⟩)] | rw [if_neg (by intro hk; have ⟨k0, k1⟩ := hk; first | omega | exact contB_absurd k0 ‹_› | exact absurd k0 ‹_› | exact contB_absurd k1 ‹_› | exact absurd k1 ‹_›)]
  · have HW' := hide (Pl.W_e_no s i hn (by rw [by8_of s i hi]; omega))
    go_enter Try.func18, Try.ntmps18
    go_wp2_with fail
    all_goals
      go_ret
      exact ⟨ret_int HW'.out.symm, rfl⟩

set_option maxRecDepth 100000 in
set_option maxHeartbeats 1000000 in
theorem width_e3 (s : ByteArray) (i : Nat) (w : World) (hs : s.size ≤ maxLen) (hi : i < s.size) (h : ((s[i].toNat : Int) = 239)) :
    Calls Try.prog 18 #[.string s, .int .i64 i] w fun e w' => e = .returned (.int .i64 (wd s i : Int)) ∧ w' = w := by
  unfold maxLen at hs
  have h0 := byte_le s[i]
  by_cases hn : i + 2 < s.size
  · have HW := Pl.W_e s i hn (by rw [by8_of s i hi]; omega)
    rw [by8_of s (i + 1) (by omega), by8_of s (i + 2) (by omega)] at HW
    have HW' := hide HW
    clear HW
    have g1 := byte_le (s[i + 1]'(by omega))
    have g2 := byte_le (s[i + 2]'(by omega))
    go_enter Try.func18, Try.ntmps18
    go_wp2_with (go_at_call 22; refine (cont_any _ _ (by omega) (by omega)).mono ?_; rintro e w' ⟨rfl, rfl⟩)
    all_goals
      go_ret
      refine ⟨ret_int ?_, rfl⟩
      rw [HW'.out]
      first | rw [if_pos (⟨by assumption, by assumption⟩)] | rw [if_neg (by intro hk; have ⟨k0, k1⟩ := hk; first | omega | exact contB_absurd k0 ‹_› | exact absurd k0 ‹_› | exact contB_absurd k1 ‹_› | exact absurd k1 ‹_›)]
  · have HW' := hide (Pl.W_e_no s i hn (by rw [by8_of s i hi]; omega))
    go_enter Try.func18, Try.ntmps18
    go_wp2_with fail
    all_goals
      go_ret
      exact ⟨ret_int HW'.out.symm, rfl⟩

set_option maxRecDepth 100000 in
set_option maxHeartbeats 1000000 in
theorem width_ed (s : ByteArray) (i : Nat) (w : World) (hs : s.size ≤ maxLen) (hi : i < s.size) (h : ((s[i].toNat : Int) = 237)) :
    Calls Try.prog 18 #[.string s, .int .i64 i] w fun e w' => e = .returned (.int .i64 (wd s i : Int)) ∧ w' = w := by
  unfold maxLen at hs
  have h0 := byte_le s[i]
  by_cases hn : i + 2 < s.size
  · have HW := Pl.W_ed s i hn (by rw [by8_of s i hi]; omega)
    rw [by8_of s (i + 1) (by omega), by8_of s (i + 2) (by omega)] at HW
    have HW' := hide HW
    clear HW
    have g1 := byte_le (s[i + 1]'(by omega))
    have g2 := byte_le (s[i + 2]'(by omega))
    go_enter Try.func18, Try.ntmps18
    go_wp2_with (go_at_call 22; refine (cont_any _ _ (by omega) (by omega)).mono ?_; rintro e w' ⟨rfl, rfl⟩)
    all_goals
      go_ret
      refine ⟨ret_int ?_, rfl⟩
      rw [HW'.out]
      first | rw [if_pos (⟨by omega, by omega, by assumption⟩)] | rw [if_neg (by intro hk; have ⟨k0, k1, k2⟩ := hk; first | omega | exact contB_absurd k2 ‹_› | exact absurd k2 ‹_›)]
  · have HW' := hide (Pl.W_ed_no s i hn (by rw [by8_of s i hi]; omega))
    go_enter Try.func18, Try.ntmps18
    go_wp2_with fail
    all_goals
      go_ret
      exact ⟨ret_int HW'.out.symm, rfl⟩

set_option maxRecDepth 100000 in
set_option maxHeartbeats 1000000 in
theorem width_f0 (s : ByteArray) (i : Nat) (w : World) (hs : s.size ≤ maxLen) (hi : i < s.size) (h : ((s[i].toNat : Int) = 240)) :
    Calls Try.prog 18 #[.string s, .int .i64 i] w fun e w' => e = .returned (.int .i64 (wd s i : Int)) ∧ w' = w := by
  unfold maxLen at hs
  have h0 := byte_le s[i]
  by_cases hn : i + 3 < s.size
  · have HW := Pl.W_f0 s i hn (by rw [by8_of s i hi]; omega)
    rw [by8_of s (i + 1) (by omega), by8_of s (i + 2) (by omega), by8_of s (i + 3) (by omega)] at HW
    have HW' := hide HW
    clear HW
    have g1 := byte_le (s[i + 1]'(by omega))
    have g2 := byte_le (s[i + 2]'(by omega))
    have g3 := byte_le (s[i + 3]'(by omega))
    go_enter Try.func18, Try.ntmps18
    go_wp2_with (go_at_call 22; refine (cont_any _ _ (by omega) (by omega)).mono ?_; rintro e w' ⟨rfl, rfl⟩)
    all_goals
      go_ret
      refine ⟨ret_int ?_, rfl⟩
      rw [HW'.out]
      first | rw [if_pos (⟨by omega, by omega, by assumption, by assumption⟩)] | rw [if_neg (by intro hk; have ⟨k0, k1, k2, k3⟩ := hk; first | omega | exact contB_absurd k2 ‹_› | exact absurd k2 ‹_› | exact contB_absurd k3 ‹_› | exact absurd k3 ‹_›)]
  · have HW' := hide (Pl.W_f0_no s i hn (by rw [by8_of s i hi]; omega))
    go_enter Try.func18, Try.ntmps18
    go_wp2_with fail
    all_goals
      go_ret
      exact ⟨ret_int HW'.out.symm, rfl⟩

set_option maxRecDepth 100000 in
set_option maxHeartbeats 1000000 in
theorem width_f (s : ByteArray) (i : Nat) (w : World) (hs : s.size ≤ maxLen) (hi : i < s.size) (h : (241 ≤ (s[i].toNat : Int) ∧ (s[i].toNat : Int) ≤ 243)) :
    Calls Try.prog 18 #[.string s, .int .i64 i] w fun e w' => e = .returned (.int .i64 (wd s i : Int)) ∧ w' = w := by
  unfold maxLen at hs
  have h0 := byte_le s[i]
  have q224 : ((s[i].toNat : Int) == 224) = false := beq_eq_false_iff_ne.2 (by omega)
  have q238 : ((s[i].toNat : Int) == 238) = false := beq_eq_false_iff_ne.2 (by omega)
  have q239 : ((s[i].toNat : Int) == 239) = false := beq_eq_false_iff_ne.2 (by omega)
  have q237 : ((s[i].toNat : Int) == 237) = false := beq_eq_false_iff_ne.2 (by omega)
  have q240 : ((s[i].toNat : Int) == 240) = false := beq_eq_false_iff_ne.2 (by omega)
  have q244 : ((s[i].toNat : Int) == 244) = false := beq_eq_false_iff_ne.2 (by omega)
  by_cases hn : i + 3 < s.size
  · have HW := Pl.W_f s i hn (by rw [by8_of s i hi]; omega)
    rw [by8_of s (i + 1) (by omega), by8_of s (i + 2) (by omega), by8_of s (i + 3) (by omega)] at HW
    have HW' := hide HW
    clear HW
    have g1 := byte_le (s[i + 1]'(by omega))
    have g2 := byte_le (s[i + 2]'(by omega))
    have g3 := byte_le (s[i + 3]'(by omega))
    go_enter Try.func18, Try.ntmps18
    go_wp2_with (go_at_call 22; refine (cont_any _ _ (by omega) (by omega)).mono ?_; rintro e w' ⟨rfl, rfl⟩)
    all_goals
      go_ret
      refine ⟨ret_int ?_, rfl⟩
      rw [HW'.out]
      first | rw [if_pos (⟨by assumption, by assumption, by assumption⟩)] | rw [if_neg (by intro hk; have ⟨k0, k1, k2⟩ := hk; first | omega | exact contB_absurd k0 ‹_› | exact absurd k0 ‹_› | exact contB_absurd k1 ‹_› | exact absurd k1 ‹_› | exact contB_absurd k2 ‹_› | exact absurd k2 ‹_›)]
  · have HW' := hide (Pl.W_f_no s i hn (by rw [by8_of s i hi]; omega))
    go_enter Try.func18, Try.ntmps18
    go_wp2_with fail
    all_goals
      go_ret
      exact ⟨ret_int HW'.out.symm, rfl⟩

set_option maxRecDepth 100000 in
set_option maxHeartbeats 1000000 in
theorem width_f4 (s : ByteArray) (i : Nat) (w : World) (hs : s.size ≤ maxLen) (hi : i < s.size) (h : ((s[i].toNat : Int) = 244)) :
    Calls Try.prog 18 #[.string s, .int .i64 i] w fun e w' => e = .returned (.int .i64 (wd s i : Int)) ∧ w' = w := by
  unfold maxLen at hs
  have h0 := byte_le s[i]
  by_cases hn : i + 3 < s.size
  · have HW := Pl.W_f4 s i hn (by rw [by8_of s i hi]; omega)
    rw [by8_of s (i + 1) (by omega), by8_of s (i + 2) (by omega), by8_of s (i + 3) (by omega)] at HW
    have HW' := hide HW
    clear HW
    have g1 := byte_le (s[i + 1]'(by omega))
    have g2 := byte_le (s[i + 2]'(by omega))
    have g3 := byte_le (s[i + 3]'(by omega))
    go_enter Try.func18, Try.ntmps18
    go_wp2_with (go_at_call 22; refine (cont_any _ _ (by omega) (by omega)).mono ?_; rintro e w' ⟨rfl, rfl⟩)
    all_goals
      go_ret
      refine ⟨ret_int ?_, rfl⟩
      rw [HW'.out]
      first | rw [if_pos (⟨by omega, by omega, by assumption, by assumption⟩)] | rw [if_neg (by intro hk; have ⟨k0, k1, k2, k3⟩ := hk; first | omega | exact contB_absurd k2 ‹_› | exact absurd k2 ‹_› | exact contB_absurd k3 ‹_› | exact absurd k3 ‹_›)]
  · have HW' := hide (Pl.W_f4_no s i hn (by rw [by8_of s i hi]; omega))
    go_enter Try.func18, Try.ntmps18
    go_wp2_with fail
    all_goals
      go_ret
      exact ⟨ret_int HW'.out.symm, rfl⟩

theorem width_any (s : ByteArray) (i : Nat) (w : World) (hs : s.size ≤ maxLen) (hi : i < s.size) :
    Calls Try.prog 18 #[.string s, .int .i64 i] w fun e w' => e = .returned (.int .i64 (wd s i : Int)) ∧ w' = w := by
  have h0 := byte_le s[i]
  by_cases h1 : (s[i].toNat : Int) < 194 ∨ 245 ≤ (s[i].toNat : Int)
  · exact width_one s i w hs hi h1
  by_cases h2 : (s[i].toNat : Int) ≤ 223
  · exact width_two s i w hs hi (by omega)
  by_cases h3 : (s[i].toNat : Int) = 224
  · exact width_e0 s i w hs hi h3
  by_cases h4 : (s[i].toNat : Int) = 237
  · exact width_ed s i w hs hi h4
  by_cases h5 : (s[i].toNat : Int) ≤ 236
  · exact width_e1 s i w hs hi (by omega)
  by_cases h8 : (s[i].toNat : Int) = 238
  · exact width_e2 s i w hs hi h8
  by_cases h9 : (s[i].toNat : Int) = 239
  · exact width_e3 s i w hs hi h9
  by_cases h6 : (s[i].toNat : Int) = 240
  · exact width_f0 s i w hs hi h6
  by_cases h7 : (s[i].toNat : Int) = 244
  · exact width_f4 s i w hs hi h7
  exact width_f s i w hs hi (by omega)
end Go.Proofs.Qxb6605535a
