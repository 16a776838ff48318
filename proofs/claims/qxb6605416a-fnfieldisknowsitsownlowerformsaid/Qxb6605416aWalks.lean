import Derived.Test.Qxb6605416aRows
import Derived.Test.Qxb6605416aPlain
import Derived.Test.Qxb6605416aKit
import Derived.WalkKit
import Derived.ProofKit
import Derived.Below
import Derived.Deep.QuietTactic
import Derived.BigQuiet
import Derived.Laws.CopyOwn
import Derived.WalkSpells
import Derived.WalkLawsBesides
namespace Go.Proofs.Qxb6605416a
open Go.RowKit
set_option linter.unusedVariables false

set_option maxHeartbeats 400000 in
theorem folds_any (c d : Int) (w : World) (hc0 : 0 ≤ c) (hc : c ≤ 255) (hd0 : 0 ≤ d) (hd : d ≤ 255) :
    Calls Try.prog 29 #[.int .u8 c, .int .u8 d] w fun e w' => e = .returned (.bool (Pl.foldB c d)) ∧ w' = w := by
  go_enter Try.func29, Try.ntmps29
  go_wp2
  all_goals
    go_ret
    refine ⟨ret_bool ?_, rfl⟩
    rw [Bool.eq_iff_iff]
    unfold Pl.foldB Pl.low
    split <;> simp <;> omega

set_option maxHeartbeats 400000 in
theorem is_any (a : Option Addr) (len cap : Nat) (zs : List Int) (v : Value) (s : ByteArray) (w : World) (hr : Row w a len zs) (hs : s.size ≤ maxLen) (hl : len ≤ maxLen) :
    Calls Try.prog 28 #[.agg #[.slice a len cap, v], .string s] w fun e w' => e = .returned (.bool (Pl.isB zs (Pl.bi s))) ∧ Below w.heap.size w w' := by
  unfold maxLen at hs hl
  by_cases hne : len = s.size
  · subst hne
    have hlz : Hid (zs.length = s.size) := hr.hlen
    go_enter Try.func28, Try.ntmps28
    go_wp2
    go_loop [16] (fun i => ∃ k : Nat, k ≤ s.size ∧ i = .int .i64 k ∧ Pl.toB zs s k) (fun i => s.size - (intOf i).toNat)
    case atStart => exact ⟨0, Nat.zero_le _, rfl, Pl.toB_zero _ _⟩
    case round =>
      obtain ⟨k, hk, rfl, hall⟩ := hrel
      by_cases hlt : k < s.size
      · obtain ⟨b, off, rfl, hb, hc⟩ := hr.mem (by omega)
        have hck := hc k hlt
        have hbd := hr.bd k
        obtain ⟨c, hcc⟩ : ∃ c, c = zs.getD k 0 := ⟨_, rfl⟩
        rw [← hcc] at hck hbd
        have HC := hide hcc
        clear hcc hc hr
        go_wp2
        all_goals first
          | (have h := ‹(_ != _) = true›
             rw [bne_iff_ne] at h
             go_ret
             refine ⟨ret_bool (Pl.toB_no hlt hlz.out HC.out ?_), (Below.refl _ _).alloc (Nat.le_refl _) _⟩
             unfold Pl.low; split <;> omega)
          | (have h := ‹(_ != _) = false›
             rw [bne_eq_false_iff_eq] at h
             go_round
             case rel => exact ⟨k + 1, by omega, by go_num, Pl.toB_succ hlt HC.out (by unfold Pl.low; split <;> omega) hall⟩
             case measure => simp [intOf]; omega)
      · go_wp2
        go_ret
        exact ⟨ret_bool (Pl.toB_all hlt hlz.out hall), (Below.refl _ _).alloc (Nat.le_refl _) _⟩
  · go_enter Try.func28, Try.ntmps28
    go_wp2
    go_ret
    refine ⟨ret_bool ?_, (Below.refl _ _).alloc (Nat.le_refl _) _⟩
    exact (Pl.isB_len (by rw [Pl.length_bi, hr.hlen]; exact hne)).symm

set_option maxHeartbeats 400000 in
theorem zzis_any (a : Option Addr) (len cap : Nat) (zs : List Int) (a1 : Option Addr) (len1 cap1 : Nat) (s : ByteArray) (w : World) (hr : Row w a len zs) (hs : s.size ≤ maxLen) (hl : len ≤ maxLen) :
    Calls Try.prog 15 #[.slice a len cap, .slice a1 len1 cap1, .string s] w fun e w' => e = .returned (.bool (Pl.isB zs (Pl.bi s))) ∧ Below w.heap.size w w' := by
  go_enter Try.func15, Try.ntmps15
  go_wp2_with (go_at_call 28; refine (is_any _ _ _ zs _ _ _ hr hs hl).mono ?_; rintro e w' ⟨rfl, hb⟩)
  go_ret
  exact ⟨rfl, hb⟩

set_option maxHeartbeats 400000 in
theorem matches_any (a : Option Addr) (len cap : Nat) (zs : List Int) (s : ByteArray) (w : World) (hr : Row w a len zs) (hs : s.size ≤ maxLen) (hl : len ≤ maxLen) :
    Calls Try.prog 16 #[.slice a len cap, .string s] w fun e w' => e = .returned (.bool (Pl.isB zs (Pl.bi s))) ∧ Below w.heap.size w w' := by
  unfold maxLen at hs hl
  by_cases hne : len = s.size
  · subst hne
    have hlz : Hid (zs.length = s.size) := hr.hlen
    go_enter Try.func16, Try.ntmps16
    go_wp2
    go_loopw [5] (fun i wr => ∃ k : Nat, k ≤ s.size ∧ i = .int .i64 k ∧ Pl.toB zs s k ∧ Below w.heap.size w wr) (fun i _ => s.size - (intOf i).toNat)
    case atStart => exact ⟨0, Nat.zero_le _, rfl, Pl.toB_zero _ _, Below.refl _ _⟩
    case round =>
      obtain ⟨k, hk, rfl, hall, hbel⟩ := hrel
      by_cases hlt : k < s.size
      · obtain ⟨b, off, rfl, hb, hc⟩ := (hr.below hbel).mem (by omega)
        have hck := hc k hlt
        have hbd := hr.bd k
        obtain ⟨c, hcc⟩ : ∃ c, c = zs.getD k 0 := ⟨_, rfl⟩
        rw [← hcc] at hck hbd
        have HC := hide hcc
        clear hcc hc hr
        have hsb := byte_le s[k]
        go_wp2
        go_quiet ((go_at_call 29; exact Calls.quiet_of_same (folds_any _ _ _ hbd.1 hbd.2 (by omega) hsb)))
        go_wp2
        · have h := ‹(!Pl.foldB c _) = true›
          go_ret
          exact ⟨ret_bool (Pl.toB_no hlt hlz.out HC.out (by simpa [Pl.foldB] using h)), below_drews hbel _⟩
        · have h := ‹(!Pl.foldB c _) = false›
          go_roundw
          case rel => exact ⟨k + 1, by omega, by go_num, Pl.toB_succ hlt HC.out (by simpa [Pl.foldB] using h) hall, below_drews hbel _⟩
          case measure => simp [intOf]; omega
      · go_wp2
        go_ret
        exact ⟨ret_bool (Pl.toB_all hlt hlz.out hall), hbel⟩
  · go_enter Try.func16, Try.ntmps16
    go_wp2
    go_ret
    refine ⟨ret_bool ?_, (Below.refl _ _)⟩
    exact (Pl.isB_len (by rw [Pl.length_bi, hr.hlen]; exact hne)).symm

set_option maxHeartbeats 400000 in
theorem bytes_any (a0 : Option Addr) (len0 cap0 : Nat) (a1 : Option Addr) (len1 cap1 : Nat) (s : ByteArray) (w : World) (h0 : len0 ≤ maxLen) (h1 : len1 ≤ maxLen) (hs : s.size ≤ maxLen) :
    Calls Try.prog 14 #[.slice a0 len0 cap0, .slice a1 len1 cap1, .string s] w fun e w' => (∃ b : Bool, e = .returned (.bool b)) ∧ w' = w := by
  unfold maxLen at h0 h1 hs
  go_enter Try.func14, Try.ntmps14
  go_wp2
  all_goals (go_ret; exact ⟨⟨_, rfl⟩, rfl⟩)

set_option maxHeartbeats 400000 in
theorem bytes_any' (a0 : Option Addr) (len0 cap0 : Nat) (a1 : Option Addr) (len1 cap1 : Nat) (s : ByteArray) (w : World) (h0 : len0 ≤ maxLen) (h1 : len1 ≤ maxLen) (hs : s.size ≤ maxLen) :
    Calls Try.prog 17 #[.slice a0 len0 cap0, .slice a1 len1 cap1, .string s] w fun e w' => (∃ b : Bool, e = .returned (.bool b)) ∧ w' = w := by
  unfold maxLen at h0 h1 hs
  go_enter Try.func17, Try.ntmps17
  go_wp2
  all_goals (go_ret; exact ⟨⟨_, rfl⟩, rfl⟩)
end Go.Proofs.Qxb6605416a
