import Derived.Test.Qxb6605550aEsc
namespace Go.Proofs.Qxb6605550a
open Go.RowKit
set_option linter.unusedVariables false

theorem long_bd (r : Int) : ∀ i, 0 ≤ (Pl.long r).getD i 0 ∧ (Pl.long r).getD i 0 ≤ 255 := by
  intro i
  unfold Pl.long
  match i with
  | 0 => exact ⟨by simp, by simp⟩
  | 1 => exact ⟨by simp, by simp⟩
  | 2 => exact Pl.hx_bd _ (by omega) (by omega)
  | 3 => exact Pl.hx_bd _ (by omega) (by omega)
  | 4 => exact Pl.hx_bd _ (by omega) (by omega)
  | 5 => exact Pl.hx_bd _ (by omega) (by omega)
  | n + 6 => exact ⟨by simp, by simp⟩

theorem index_digs (k : Int) (h0 : 0 ≤ k) (h1 : k < 16) (w : World) : (Instr.index 9 (.string ⟨#[48, 49, 50, 51, 52, 53, 54, 55, 56, 57, 97, 98, 99, 100, 101, 102]⟩) (.int .i32 k)).run Try.prog w = .ok (.int .u8 (Pl.hx k)) w := by
  obtain ⟨j, rfl⟩ := Int.eq_ofNat_of_zero_le h0
  have hj : j < Pl.digs.size := by show j < 16; omega
  have e := Pl.digs_at j hj
  have hu : Try.prog.underlying 9 = some .string := Try.underlying9
  rw [← e]
  show (Instr.index 9 (.string Pl.digs) (.int .i32 j)).run Try.prog w = _
  simp [go_sem, hu, hj]
/-- r has no short escape -/
def NoShort (r : Int) : Prop := (r == 34) = false ∧ (r == 92) = false ∧ (r == 8) = false ∧ (r == 12) = false ∧ (r == 10) = false ∧ (r == 13) = false ∧ (r == 9) = false

set_option maxHeartbeats 2000000 in
set_option maxRecDepth 100000 in
theorem esc_long (base : Nat) (v : Value) (n : Nat) (zs : List Int) (r : Int) (w : World) (hown : w.ownsRow base 5 1 v n (zs.map (Value.int .u8))) (hn : zs.length = n) (hbd : ∀ i, 0 ≤ zs.getD i 0 ∧ zs.getD i 0 ≤ 255) (h20 : n ≤ 1048576) (hbw : base ≤ w.heap.size) (hs : NoShort r) :
    Calls Try.prog 24 #[v, .int .i32 r] w fun e w' => ∃ v', e = .returned v' ∧ Out w' v' (zs ++ Pl.long r) ∧ Below base w w' := by
  obtain ⟨i0, hi, hz0, hz1, hz2⟩ := info_parts info5
  have HN := hide hn
  have HB := hide hbd
  clear hn hbd
  obtain ⟨q1, q2, q3, q4, q5, q6, q7⟩ := hs
  have hand : ∀ x : Int, bits .and .i32 x 15 = x % 16 := Pl.i32_and15
  have x3 := index_digs (r / 4096 % 16) (by omega) (by omega)
  have x2 := index_digs (r / 256 % 16) (by omega) (by omega)
  have x1 := index_digs (r / 16 % 16) (by omega) (by omega)
  have x0 := index_digs (r % 16) (by omega) (by omega)
  go_enter Try.func24, Try.ntmps24
  go_wp2
  go_region_held3 (fun w' => True) (trivial)
    ((refine step_append_lies _ (by rfl) (.tmp 39) (.tmp 55) 22 (by rfl) base 5 i0 (.int .u8 0) 1 1 Try.underlying22 hi hz0 hz1 hz2 rfl (by decide) v n _ (by rfl) (by exact hown.alloc _) ⟨w.heap.size, 0, none⟩ 6 6 ((Pl.long r).map (Value.int .u8)) (by rfl) rfl (by exact news_of w _) (ints_one _) (by decide) (by unfold maxLen; omega) (by omega) (by simp; omega) _ rfl ?_; intro g cap w1 hown1 hgrow hat hlt))
  all_goals
    clear x3 x2 x1 x0 hand
    go_wp2
    go_ret
    exact ⟨_, rfl, out_of (es := Pl.long r) hown1 HN.out rfl HB.out (long_bd r), (((Below.refl base w).alloc hbw _).drew).grown hgrow (by simp; omega) (fun k hk => (hown.lt k hk).1)⟩
end Go.Proofs.Qxb6605550a
