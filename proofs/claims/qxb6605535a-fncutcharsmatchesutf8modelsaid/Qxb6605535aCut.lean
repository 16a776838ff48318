import Derived.Test.Qxb6605535aWidth
import Derived.Test.Qxb6605535aPlain2
namespace Go.Proofs.Qxb6605535a
open Go.RowKit
open Pl (wd pos moreB cutS IsCnt)
set_option linter.unusedVariables false

theorem ret_two {a b : ByteArray} {x y : Bool} (h : a = b) (h' : x = y) : Ending.returned (.tuple #[.string a, .bool x]) = .returned (.tuple #[.string b, .bool y]) := by rw [h, h']
theorem below_iter (w : World) (s : ByteArray) (p : Nat) : Below w.heap.size w (w.iter s p) := (Below.refl _ _).alloc (Nat.le_refl _) _

set_option maxHeartbeats 400000 in
theorem cut_any (s : ByteArray) (n : Int) (w : World) (hs : s.size ≤ maxLen) :
    Calls Try.prog 17 #[.string s, .int .i64 n] w fun e w' => e = .returned (.tuple #[.string (cutS s n), .bool (moreB s n)]) ∧ Below w.heap.size w w' := by
  unfold maxLen at hs
  go_enter Try.func17, Try.ntmps17
  go_wp2
  go_loopw [6] (fun c wr => ∃ k : Nat, c = .int .i64 k ∧ wr = w.iter s (pos s k) ∧ k ≤ pos s k ∧ Hid (∀ j : Nat, j < k → (j : Int) ≠ n)) (fun _ wr => s.size - wr.iterPos w.heap.size)
  case atStart => exact ⟨0, rfl, rfl, Nat.zero_le _, hide fun j h => absurd h (Nat.not_lt_zero j)⟩
  case round =>
    obtain ⟨k, rfl, rfl, hk, HN⟩ := hrel
    have hple := Pl.pos_le s k
    by_cases hp : pos s k < s.size
    · have hnx : ∀ ty, (Instr.next (.pointer (some ⟨w.heap.size, 0, none⟩)) true ty).run Try.prog (w.iter s (pos s k)) = .ok (.tuple #[.bool true, .int .i64 (pos s k), .int .i32 (Utf8.decode s (pos s k)).1]) (w.iter s (pos s k + wd s (pos s k))) := fun ty => run_next_any w s (pos s k) ty hp
      have HS := hide (Pl.pos_succ hp)
      have hw1 := Pl.wd_pos s (pos s k)
      by_cases hkn : (k : Int) = n
      · have HM := hide (Pl.more_hit hkn hp)
        have HC := hide (Pl.cut_hit hkn hp)
        generalize pos s k = p at *
        subst hkn
        go_wp2
        go_ret2
        exact ⟨ret_two HC.out.symm HM.out.symm, below_iter _ _ _⟩
      · have hkb : ((k : Int) == n) = false := beq_eq_false_iff_ne.2 hkn
        have HK := hide hkn
        clear hkn
        go_wp2
        go_roundw
        case rel =>
          refine ⟨k + 1, by go_num, by rw [HS.out], by rw [HS.out]; omega, hide fun j hj => ?_⟩
          by_cases e : j = k
          · subst e; exact HK.out
          · exact HN.out j (by omega)
        case measure => simp; omega
    · have hnx : ∀ ty, (Instr.next (.pointer (some ⟨w.heap.size, 0, none⟩)) true ty).run Try.prog (w.iter s (pos s k)) = _ := fun ty => run_next_end w s (pos s k) ty hp
      have HM : Hid (moreB s n = false) := hide (Pl.more_end hp (fun h0 => by
        by_cases h1 : n < (k : Int)
        · exact absurd (by omega) (HN.out n.toNat (by omega))
        · omega))
      go_wp2
      go_ret2
      exact ⟨ret_two (Pl.cut_end HM.out).symm HM.out.symm, below_iter _ _ _⟩

set_option maxHeartbeats 400000 in
theorem zzcut_any (s : ByteArray) (n : Int) (w : World) (hs : s.size ≤ maxLen) :
    Calls Try.prog 7 #[.string s, .int .i64 n] w fun e w' => e = .returned (.tuple #[.string (cutS s n), .bool (moreB s n)]) ∧ Below w.heap.size w w' := by
  go_enter Try.func7, Try.ntmps7
  go_wp2_with (go_at_call 17; refine (cut_any _ _ _ hs).mono ?_; rintro e w' ⟨rfl, hb⟩)
  go_ret2
  exact ⟨rfl, hb⟩

set_option maxHeartbeats 400000 in
theorem model_any (s : ByteArray) (n : Int) (w : World) (hs : s.size ≤ maxLen) :
    Calls Try.prog 8 #[.string s, .int .i64 n] w fun e w' => e = .returned (.tuple #[.string (cutS s n), .bool (moreB s n)]) ∧ w' = w := by
  have hs' := hs
  unfold maxLen at hs
  by_cases hn : n < 0
  · have HM := hide (Pl.more_neg (s := s) hn)
    go_enter Try.func8, Try.ntmps8
    go_wp2
    go_ret2
    exact ⟨ret_two (Pl.cut_end HM.out).symm HM.out.symm, rfl⟩
  · go_enter Try.func8, Try.ntmps8
    go_wp2
    go_loopw [6, 7] (fun i kk wr => ∃ k : Nat, kk = .int .i64 k ∧ i = .int .i64 (pos s k : Nat) ∧ k ≤ pos s k ∧ (k : Int) ≤ n ∧ wr = w) (fun i _ _ => s.size - (intOf i).toNat)
    case atStart => exact ⟨0, rfl, rfl, Nat.zero_le _, by omega, rfl⟩
    case round =>
      obtain ⟨k, rfl, rfl, hk, hkn, hw⟩ := hrel
      subst hw
      have hple := Pl.pos_le s k
      by_cases hp : pos s k < s.size
      · by_cases hlt : (k : Int) < n
        · have HS := hide (Pl.pos_succ hp)
          have hw1 := Pl.wd_pos s (pos s k)
          have hw2 := Pl.wd_in s (pos s k) hp
          go_wp2_with (go_at_call 18; refine (width_any s (pos s k) _ hs' hp).mono ?_; rintro e w' ⟨rfl, hw⟩; subst hw)
          go_roundw
          case rel => exact ⟨k + 1, by go_num, by rw [HS.out]; go_num, by rw [HS.out]; omega, by omega, trivial⟩
          case measure => simp [intOf]; omega
        · have hkn' : (k : Int) = n := by omega
          have HM := hide (Pl.more_hit hkn' hp)
          have HC := hide (Pl.cut_hit hkn' hp)
          clear hkn'
          go_wp2
          go_ret2
          exact ⟨ret_two HC.out.symm HM.out.symm, rfl⟩
      · have HM := hide (Pl.more_end (n := n) hp (fun _ => hkn))
        by_cases hlt : (k : Int) < n
        all_goals
          go_wp2
          go_ret2
          exact ⟨ret_two (Pl.cut_end HM.out).symm HM.out.symm, rfl⟩

set_option maxHeartbeats 400000 in
theorem count_any (s : ByteArray) (w : World) (hs : s.size ≤ maxLen) :
    Calls Try.prog 10 #[.string s] w fun e w' => ∃ c : Nat, e = .returned (.int .i64 c) ∧ IsCnt s c ∧ w' = w := by
  have hs' := hs
  unfold maxLen at hs
  go_enter Try.func10, Try.ntmps10
  go_wp2
  go_loopw [3, 4] (fun i kk wr => ∃ k : Nat, kk = .int .i64 k ∧ i = .int .i64 (pos s k : Nat) ∧ k ≤ pos s k ∧ Hid (∀ j, j < k → pos s j < s.size) ∧ wr = w) (fun i _ _ => s.size - (intOf i).toNat)
  case atStart => exact ⟨0, rfl, rfl, Nat.zero_le _, hide fun j h => absurd h (Nat.not_lt_zero j), rfl⟩
  case round =>
    obtain ⟨k, rfl, rfl, hk, HA, hw⟩ := hrel
    subst hw
    have hple := Pl.pos_le s k
    by_cases hp : pos s k < s.size
    · have HS := hide (Pl.pos_succ hp)
      have hw1 := Pl.wd_pos s (pos s k)
      have hw2 := Pl.wd_in s (pos s k) hp
      go_wp2_with (go_at_call 18; refine (width_any s (pos s k) _ hs' hp).mono ?_; rintro e w' ⟨rfl, hw⟩; subst hw)
      go_roundw
      case rel =>
        refine ⟨k + 1, by go_num, by rw [HS.out]; go_num, by rw [HS.out]; omega, hide fun j hj => ?_, trivial⟩
        by_cases e : j = k
        · subst e; exact hp
        · exact HA.out j (by omega)
      case measure => simp [intOf]; omega
    · go_wp2
      go_ret
      exact ⟨k, rfl, ⟨hp, HA.out⟩, rfl⟩

set_option maxHeartbeats 400000 in
theorem bytes6_any (s : ByteArray) (n : Int) (w : World) (hs : s.size ≤ maxLen) :
    Calls Try.prog 6 #[.string s, .int .i64 n] w fun e w' => (∃ b : Bool, e = .returned (.bool b)) ∧ w' = w := by
  unfold maxLen at hs
  go_enter Try.func6, Try.ntmps6
  go_wp2
  all_goals (go_ret; exact ⟨⟨_, rfl⟩, rfl⟩)

set_option maxHeartbeats 400000 in
theorem bytes9_any (s : ByteArray) (m n : Int) (w : World) (hs : s.size ≤ maxLen) :
    Calls Try.prog 9 #[.string s, .int .i64 m, .int .i64 n] w fun e w' => (∃ b : Bool, e = .returned (.bool b)) ∧ w' = w := by
  unfold maxLen at hs
  go_enter Try.func9, Try.ntmps9
  go_wp2
  all_goals (go_ret; exact ⟨⟨_, rfl⟩, rfl⟩)
end Go.Proofs.Qxb6605535a
