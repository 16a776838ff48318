import Derived.Test.Qxb6605416aWalks
namespace Go.Proofs.Qxb6605416a
open Go.RowKit
set_option linter.unusedVariables false

theorem info5 : (Try.prog.info? 5).map (fun i => (i.zero, i.size, i.bytes)) = some (some (.int .u8 0), 1, 1) := by kernel_rfl
theorem size5 : (Try.prog.info? 5).map (·.size) = some 1 := by kernel_rfl

set_option maxHeartbeats 1000000 in
theorem law1_any (a0 : Option Addr) (len0 cap0 : Nat) (y0 : List Int) (a1 : Option Addr) (len1 cap1 : Nat) (y1 : List Int) (a2 : ByteArray) (w : World) (m0 : len0 ≤ maxLen) (m1 : len1 ≤ maxLen) (w2 : a2.size ≤ maxLen)
    (r0 : Row w a0 len0 y0) (r1 : Row w a1 len1 y1) :
    Calls Try.prog 5 #[.slice a0 len0 cap0, .slice a1 len1 cap1, .string a2] w fun e w' => e = .returned (.bool true) ∧ Below w.heap.size w w' := by
  have n0 := m0
  have n1 := m1
  have n2 := w2
  unfold maxLen at n0 n1 n2
  cases a0 with
  | none =>
    cases a1 with
    | none =>
      go_enter Try.func5, Try.ntmps5
      go_wp2_with (first
        | (go_at_call 14; refine (bytes_any _ _ _ _ _ _ _ _ m0 m1 w2).mono ?_; rintro e w' ⟨⟨b, rfl⟩, rfl⟩)
        | (go_at_call 15; refine (zzis_any _ _ _ y0 _ _ _ _ _ r0 w2 m0).mono ?_; rintro e w3 ⟨rfl, hb3⟩)
        | (go_at_call 16; refine (matches_any _ _ _ y0 _ _ (r0.below hb3) w2 m0).mono ?_; rintro e w4 ⟨rfl, hb4⟩))
      all_goals go_ret
      iterate 4 (· exact ⟨rfl, Below.refl _ _⟩)
      exact ⟨ret_bool (by simp), hb3.trans (hb4.mono hb3.size)⟩
    | some x1 =>
      go_enter Try.func5, Try.ntmps5
      go_wp2_with (first
        | (go_at_call 14; refine (bytes_any _ _ _ _ _ _ _ _ m0 m1 w2).mono ?_; rintro e w' ⟨⟨b, rfl⟩, rfl⟩)
        | (at_make; refine wpList_mk _ rfl (.tmp 35) (.tmp 35) 22 rfl 5 (.int .u8 0) 1 Try.underlying22 info5 rfl .i64 .i64 len1 rfl rfl (by omega) (by omega) ?_; intro g1 v1 HG1 hk1 hb1)
        | (with_reducible show wpList _ _ _ (⟨_, Op.call ⟨Callee.builtin Builtin.copy, _, _⟩, _, _, _, _⟩ :: _) _ _; refine wpList_cp _ rfl (.tmp 37) (.tmp 38) 22 22 rfl 5 Try.underlying22 size5 g1 len1 cap1 _ rfl rfl (.int .u8 0) hk1 y1 (r1.below hb1) ?_; intro v2 hk2 hb2)
        | (go_at_call 15; refine (zzis_any _ _ _ y0 _ _ _ _ _ (r0.below (hb1.trans (hb2.mono (Nat.le_of_eq HG1.out.symm)))) w2 m0).mono ?_; rintro e w3 ⟨rfl, hb3⟩)
        | (go_at_call 16; refine (matches_any _ _ _ y0 _ _ ((r0.below (hb1.trans (hb2.mono (Nat.le_of_eq HG1.out.symm)))).below hb3) w2 m0).mono ?_; rintro e w4 ⟨rfl, hb4⟩))
      all_goals go_ret
      iterate 4 (· exact ⟨rfl, Below.refl _ _⟩)
      have hB := hb1.trans (hb2.mono (Nat.le_of_eq HG1.out.symm))
      have hB2 := hb3.trans (hb4.mono hb3.size)
      exact ⟨ret_bool (by simp), hB.trans (hB2.mono hB.size)⟩
  | some x0 =>
    cases a1 with
    | none =>
      go_enter Try.func5, Try.ntmps5
      go_wp2_with (first
        | (go_at_call 14; refine (bytes_any _ _ _ _ _ _ _ _ m0 m1 w2).mono ?_; rintro e w' ⟨⟨b, rfl⟩, rfl⟩)
        | (at_make; refine wpList_mk _ rfl (.tmp 26) (.tmp 26) 22 rfl 5 (.int .u8 0) 1 Try.underlying22 info5 rfl .i64 .i64 len0 rfl rfl (by omega) (by omega) ?_; intro g0 v1 HG0 hk1 hb1)
        | (with_reducible show wpList _ _ _ (⟨_, Op.call ⟨Callee.builtin Builtin.copy, _, _⟩, _, _, _, _⟩ :: _) _ _; refine wpList_cp _ rfl (.tmp 28) (.tmp 29) 22 22 rfl 5 Try.underlying22 size5 g0 len0 cap0 _ rfl rfl (.int .u8 0) hk1 y0 (r0.below hb1) ?_; intro v2 hk2 hb2)
        | (go_at_call 15; refine (zzis_any _ _ _ y0 _ _ _ _ _ (Row.of_blk hk2 r0.hlen r0.bd) w2 m0).mono ?_; rintro e w3 ⟨rfl, hb3⟩)
        | (go_at_call 16; refine (matches_any _ _ _ y0 _ _ ((Row.of_blk hk2 r0.hlen r0.bd).below hb3) w2 m0).mono ?_; rintro e w4 ⟨rfl, hb4⟩))
      all_goals go_ret
      iterate 4 (· exact ⟨rfl, Below.refl _ _⟩)
      have hB := hb1.trans (hb2.mono (Nat.le_of_eq HG0.out.symm))
      have hB2 := hb3.trans (hb4.mono hb3.size)
      exact ⟨ret_bool (by simp), hB.trans (hB2.mono hB.size)⟩
    | some x1 =>
      go_enter Try.func5, Try.ntmps5
      go_wp2_with (first
        | (go_at_call 14; refine (bytes_any _ _ _ _ _ _ _ _ m0 m1 w2).mono ?_; rintro e w' ⟨⟨b, rfl⟩, rfl⟩)
        | (at_make; refine wpList_mk _ rfl (.tmp 26) (.tmp 26) 22 rfl 5 (.int .u8 0) 1 Try.underlying22 info5 rfl .i64 .i64 len0 rfl rfl (by omega) (by omega) ?_; intro g0 v1 HG0 hk1 hb1)
        | (with_reducible show wpList _ _ _ (⟨_, Op.call ⟨Callee.builtin Builtin.copy, _, _⟩, _, _, _, _⟩ :: _) _ _; refine wpList_cp _ rfl (.tmp 28) (.tmp 29) 22 22 rfl 5 Try.underlying22 size5 g0 len0 cap0 _ rfl rfl (.int .u8 0) hk1 y0 (r0.below hb1) ?_; intro v2 hk2 hb2)
        | (at_make; refine wpList_mk _ rfl (.tmp 35) (.tmp 35) 22 rfl 5 (.int .u8 0) 1 Try.underlying22 info5 rfl .i64 .i64 len1 rfl rfl (by omega) (by omega) ?_; intro g1 v3 HG1 hk3 hb3)
        | (with_reducible show wpList _ _ _ (⟨_, Op.call ⟨Callee.builtin Builtin.copy, _, _⟩, _, _, _, _⟩ :: _) _ _; refine wpList_cp _ rfl (.tmp 37) (.tmp 38) 22 22 rfl 5 Try.underlying22 size5 g1 len1 cap1 _ rfl rfl (.int .u8 0) hk3 y1 ((r1.below (hb1.trans (hb2.mono (Nat.le_of_eq HG0.out.symm)))).below hb3) ?_; intro v4 hk4 hb4)
        | (go_at_call 15; refine (zzis_any _ _ _ y0 _ _ _ _ _ ((Row.of_blk hk2 r0.hlen r0.bd).below (hb3.trans (hb4.mono (Nat.le_of_eq HG1.out.symm)))) w2 m0).mono ?_; rintro e w3 ⟨rfl, hb5⟩)
        | (go_at_call 16; refine (matches_any _ _ _ y0 _ _ (((Row.of_blk hk2 r0.hlen r0.bd).below (hb3.trans (hb4.mono (Nat.le_of_eq HG1.out.symm)))).below hb5) w2 m0).mono ?_; rintro e w4 ⟨rfl, hb6⟩))
      all_goals go_ret
      iterate 4 (· exact ⟨rfl, Below.refl _ _⟩)
      have hB := hb1.trans (hb2.mono (Nat.le_of_eq HG0.out.symm))
      have hB1 := hb3.trans (hb4.mono (Nat.le_of_eq HG1.out.symm))
      have hB2 := hb5.trans (hb6.mono hb5.size)
      have hB3 := hB.trans (hB1.mono hB.size)
      exact ⟨ret_bool (by simp), hB3.trans (hB2.mono hB3.size)⟩

end Go.Proofs.Qxb6605416a
