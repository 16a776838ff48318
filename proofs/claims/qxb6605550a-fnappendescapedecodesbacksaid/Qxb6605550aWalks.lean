import Derived.Test.Qxb6605550aRows
import Derived.Test.Qxb6605550aPlain
import Derived.Test.Qxb6605550aKit
import Derived.WalkSpells
import Derived.WalkLawsBesides
import Derived.Deep.QuietTactic
import Derived.BigQuiet
import Derived.Deep.RegionHeld3
import Derived.Deep.AppendLies
namespace Go.Proofs.Qxb6605550a
open Go.RowKit
set_option linter.unusedVariables false

theorem ret_int {k : IntKind} {a b : Int} (h : a = b) : Ending.returned (.int k a) = .returned (.int k b) := by rw [h]
theorem info5 : (Try.prog.info? 5).map (fun i => (i.zero, i.size, i.bytes)) = some (some (.int .u8 0), 1, 1) := by kernel_rfl

/-- a row of bytes being filled: the first k are done, the rest is zero -/
def mix (zs : List Int) (k : Nat) : List Int := zs.take k ++ List.replicate (zs.length - k) 0
theorem length_mix (zs : List Int) (k : Nat) (h : k ≤ zs.length) : (mix zs k).length = zs.length := by simp [mix]; omega
theorem mix_zero (zs : List Int) : mix zs 0 = List.replicate zs.length 0 := by simp [mix]
theorem mix_all (zs : List Int) (k : Nat) (h : ¬ k < zs.length) : mix zs k = zs := by
  unfold mix; rw [List.take_of_length_le (by omega), show zs.length - k = 0 by omega]; simp
theorem mix_set (zs : List Int) (k : Nat) (h : k < zs.length) : (mix zs k).set k (zs.getD k 0) = mix zs (k + 1) := by
  unfold mix
  rw [List.set_append_right _ _ (by simp; omega), List.take_succ_eq_append_getElem h, List.append_assoc]
  congr 1
  have e1 : zs.length - k = (zs.length - (k + 1)) + 1 := by omega
  have e2 : min k zs.length = k := by omega
  rw [e1]
  simp [e2, List.replicate_succ, List.getD, h]
theorem Blk.fill {w : World} {g : Nat} {e : TypeId} {zs : List Int} {k : Nat} {c : Int} (h : Blk w g e ((mix zs k).map (Value.int .u8))) (hk : k < zs.length) (hc : c = zs.getD k 0) :
    Blk (w.setCell ⟨g, k, none⟩ (.int .u8 c)) g e ((mix zs (k + 1)).map (Value.int .u8)) := by
  have := h.setCell k (.int .u8 c)
  rw [← List.map_set, hc, mix_set zs k hk] at this
  rw [hc]; exact this

theorem Blk.owns {w : World} {g base : Nat} {zs : List Int} {len : Nat} (h : Blk w g 5 (zs.map (Value.int .u8))) (hl : zs.length = len) (hb : base ≤ g) (hm : len ≤ maxLen) :
    w.ownsRow base 5 1 (.slice (some ⟨g, 0, none⟩) len len) len (zs.map (Value.int .u8)) := by
  refine ⟨by simp [hl], .inr ⟨g, len, _, rfl, hb, h, Nat.le_refl _, hm, by simp [hl], ?_⟩⟩
  show (zs.map (Value.int .u8)).take (len * 1) = _
  rw [List.take_of_length_le (by simp [hl])]

/-- WHAT A CLONE IS: a slice that reads as zs and lies in a row of the call's own (from base on), or is nil. -/
structure Cl (base : Nat) (w : World) (v : Value) (len : Nat) (zs : List Int) : Prop where
  form : ∃ a cap, v = .slice a len cap ∧ Row w a len zs
  owns : w.ownsRow base 5 1 v len (zs.map (Value.int .u8))

set_option maxHeartbeats 400000 in
theorem clone_any (a : Option Addr) (len cap : Nat) (zs : List Int) (w : World) (hr : Row w a len zs) (h20 : len ≤ 1048576) :
    Calls Try.prog 9 #[.slice a len cap] w fun e w' => ∃ v, e = .returned v ∧ Cl w.heap.size w' v len zs ∧ Below w.heap.size w w' := by
  have hlz : Hid (zs.length = len) := hr.hlen
  have hq : ∀ (w : World) (a : Option Addr) (n c : Nat), (binOp .eql 22 (.slice a n c) (.slice none 0 0)).run Try.prog w = .ok (.bool a.isNone) w := fun w a n c => Lib.run_eql_slice_nil w _ _ a n c 0 0 Try.underlying22
  cases a with
  | none =>
    have h0 : len = 0 := by
      rcases Nat.eq_zero_or_pos len with h | h
      · exact h
      · obtain ⟨b, off, h2, _⟩ := hr.mem h; cases h2
    have hzs : zs = [] := List.eq_nil_of_length_eq_zero (by rw [hlz.out, h0])
    have HZ := hide hzs
    clear hzs
    go_enter Try.func9, Try.ntmps9
    go_wp2
    go_ret
    refine ⟨_, rfl, ⟨⟨none, 0, by rw [h0]; rfl, hr⟩, ?_⟩, Below.refl _ _⟩
    rw [HZ.out, h0]
    exact World.ownsRow_nil _ _ _ _
  | some x =>
    have HR := hide hr
    go_enter Try.func9, Try.ntmps9
    go_wp2_with (at_make; refine wpList_mk _ rfl (.tmp 8) (.tmp 8) 22 rfl 5 (.int .u8 0) 1 Try.underlying22 info5 rfl .i64 .i64 len rfl rfl (by omega) (by omega) ?_; intro g w1 HG hk1 hb1)
    go_loopw [4] (fun i wr => ∃ k : Nat, k ≤ len ∧ i = .int .i64 k ∧ Blk wr g 5 ((mix zs k).map (Value.int .u8)) ∧ Below w.heap.size w wr) (fun i _ => len - (intOf i).toNat)
    case atStart => exact ⟨0, Nat.zero_le _, rfl, by rw [mix_zero, hlz.out, List.map_replicate]; exact hk1, hb1⟩
    case round =>
      obtain ⟨k, hk, rfl, hblk, hbel⟩ := hrel
      clear hk1 hb1
      by_cases hlt : k < len
      · obtain ⟨b, off, e, hb, hc⟩ := (hr.below hbel).mem (by omega)
        obtain rfl : x = ⟨b, off, none⟩ := by cases e; rfl
        have hck := hc k hlt
        obtain ⟨c, hcc⟩ : ∃ c, c = zs.getD k 0 := ⟨_, rfl⟩
        rw [← hcc] at hck
        have HC := hide hcc
        have hcg := hblk.cell k (by rw [List.length_map, length_mix _ _ (by rw [hlz.out]; exact hk), hlz.out]; exact hlt)
        have hfg := hblk.frozen k
        generalize ((mix zs k).map (Value.int .u8))[k]'_ = old at hcg
        clear hcc hc hr e
        go_wp2
        go_roundw
        case rel => exact ⟨k + 1, by omega, by go_num, hblk.fill (by rw [hlz.out]; exact hlt) HC.out, hbel.setCell (Nat.le_of_eq HG.out.symm) _⟩
        case measure => simp [intOf]; omega
      · go_wp2
        go_ret
        rw [mix_all _ _ (by rw [hlz.out]; exact hlt)] at hblk
        exact ⟨_, rfl, ⟨⟨_, _, rfl, Row.of_blk hblk hlz.out HR.out.bd⟩, hblk.owns hlz.out (Nat.le_of_eq HG.out.symm) (by unfold maxLen; omega)⟩, hbel⟩

set_option maxHeartbeats 400000 in
theorem hex_any (c : Int) (w : World) (h0 : 0 ≤ c) (h1 : c ≤ 255) : Calls Try.prog 16 #[.int .u8 c] w fun e w' => e = .returned (.int .i64 (Pl.hv c)) ∧ w' = w := by
  go_enter Try.func16, Try.ntmps16
  go_wp2
  all_goals
    go_ret
    refine ⟨ret_int ?_, rfl⟩
    unfold Pl.hv
    first
      | (rw [if_pos (by omega)])
      | (rw [if_neg (by omega), if_pos (by omega)]; omega)
      | (rw [if_neg (by omega), if_neg (by omega)])

set_option maxHeartbeats 400000 in
theorem bytes_any (a : Option Addr) (len cap : Nat) (r : Int) (w : World) (hl : len ≤ maxLen) :
    Calls Try.prog 14 #[.slice a len cap, .int .i32 r] w fun e w' => (∃ b : Bool, e = .returned (.bool b)) ∧ w' = w := by
  unfold maxLen at hl
  go_enter Try.func14, Try.ntmps14
  go_wp2
  all_goals (go_ret; exact ⟨⟨_, rfl⟩, rfl⟩)
end Go.Proofs.Qxb6605550a
