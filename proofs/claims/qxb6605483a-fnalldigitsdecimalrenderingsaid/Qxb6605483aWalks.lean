import Derived.Test.Qxb6605483aRows
import Derived.Test.Qxb6605483aPlain
import Derived.Test.Qxb6605483aKit
import Derived.WalkSpells
import Derived.WalkLawsBesides
namespace Go.Proofs.Qxb6605483a
open Go.RowKit
set_option linter.unusedVariables false

theorem dat_len (s : ByteArray) : s.data.toList.length = s.size := by rw [Array.length_toList]; rfl
theorem dat_get (s : ByteArray) (k : Nat) (h : k < s.size) : (s.data.toList)[k]'(by rw [dat_len]; exact h) = s[k]'h := rfl

set_option maxHeartbeats 400000 in
theorem digits_any (s : ByteArray) (w : World) (hs : s.size ≤ maxLen) :
    Calls Try.prog 7 #[.string s] w fun e w' => e = .returned (.bool (Pl.okL s.data.toList)) ∧ w' = w := by
  unfold maxLen at hs
  rcases Bool.eq_false_or_eq_true s.toList.isEmpty with h0 | h0
  · have hz : Hid (s.data.toList = []) := by rw [ByteArray.toList_eq] at h0; exact hide (List.isEmpty_iff.1 h0)
    go_enter Try.func7, Try.ntmps7
    go_wp2
    go_ret
    exact ⟨ret_bool (by rw [hz.out]; rfl), rfl⟩
  · have hz : Hid (s.data.toList.isEmpty = false) := by rw [ByteArray.toList_eq] at h0; exact hide h0
    go_enter Try.func7, Try.ntmps7
    go_wp2
    go_loop [3] (fun i => ∃ k : Nat, k ≤ s.size ∧ i = .int .i64 k ∧ Pl.upTo s.data.toList k) (fun i => s.size - (intOf i).toNat)
    case atStart => exact ⟨0, Nat.zero_le _, rfl, Pl.upTo_zero _⟩
    case round =>
      obtain ⟨k, hk, rfl, hup⟩ := hrel
      by_cases hlt : k < s.size
      · have hsb := byte_le s[k]
        go_wp2
        all_goals first
          | (go_ret
             exact ⟨ret_bool (Pl.upTo_no (k := k) (by rw [dat_len]; exact hlt) (by rw [dat_get s k hlt]; omega)), rfl⟩)
          | (go_round
             case rel => exact ⟨k + 1, by omega, by go_num, Pl.upTo_succ (by rw [dat_len]; exact hlt) (by rw [dat_get s k hlt]; omega) (by rw [dat_get s k hlt]; omega) hup⟩
             case measure => simp [intOf]; omega)
      · go_wp2
        go_ret
        exact ⟨ret_bool (Pl.upTo_all hz.out (by rw [dat_len]; exact hlt) hup), rfl⟩

set_option maxHeartbeats 400000 in
theorem zz_any (s : ByteArray) (w : World) (hs : s.size ≤ maxLen) :
    Calls Try.prog 6 #[.string s] w fun e w' => e = .returned (.bool (Pl.okL s.data.toList)) ∧ w' = w := by
  go_enter Try.func6, Try.ntmps6
  go_wp2_with (go_at_call 7; refine (digits_any _ _ hs).mono ?_; rintro e w' ⟨rfl, rfl⟩)
  go_ret
  exact ⟨rfl, rfl⟩

set_option maxHeartbeats 400000 in
theorem bytes_any (n c : Int) (s : ByteArray) (w : World) (hs : s.size ≤ maxLen) :
    Calls Try.prog 4 #[.int .u64 n, .int .u8 c, .string s] w fun e w' => (∃ b : Bool, e = .returned (.bool b)) ∧ w' = w := by
  unfold maxLen at hs
  go_enter Try.func4, Try.ntmps4
  go_wp2
  all_goals (go_ret; exact ⟨⟨_, rfl⟩, rfl⟩)

theorem slice20 (g k : Nat) (hk : k < 20) (w : World) : (Instr.sliceAt 27 (.pointer (some ⟨g, 0, none⟩)) (some (.int .i64 (k : Int))) none none).run Try.prog w = .ok (.slice (some ⟨g, k, none⟩) (20 - k) (20 - k)) w := by
  have e1 : Try.prog.arrayLen 27 = 20 := by kernel_rfl
  have e2 : Try.prog.elem 27 = 5 := by kernel_rfl
  have e3 : ∀ w, (sizeOf 5).run Try.prog w = .ok 1 w := fun w => by kernel_rfl
  have ht : Try.prog.underlying 27 = some (.array (Try.prog.arrayLen 27) (Try.prog.elem 27)) := by kernel_rfl
  rw [run_sliceAt_array_l w 27 ⟨g, 0, none⟩ ht .i64 k (by omega) (by rw [e1]; omega), e1, e2, e3]
  simp only [Result.andThen, slicedAt, Int.toNat_natCast, Nat.mul_one]
  rw [if_neg (by omega)]
  have e4 : (⟨g, 0, none⟩ : Addr).add k = ⟨g, k, none⟩ := by unfold Addr.add; split <;> simp_all
  rw [e4]

theorem set_getD (L : List Int) (k j : Nat) (x : Int) (hk : k < L.length) : (L.set k x).getD j 0 = if j = k then x else L.getD j 0 := by
  by_cases e : j = k
  · subst e; simp [List.getD, hk]
  · simp [List.getD, e, Ne.symm e]

/-- the digits from k on, as the conversion gives them -/
theorem conv20 {w : World} {g : Nat} {L : List Int} (h : Blk w g 27 (L.map (Value.int .u8))) (hL : L.length = 20) (k : Nat) (hk : k < 20) :
    (convert 25 9 (.slice (some ⟨g, k, none⟩) (20 - k) (20 - k))).run Try.prog w = .ok (.string (strOfNums (L.drop k))) w := by
  refine run_convert_bytes_arg w 25 5 Try.underlying25 Try.underlying5 g k (20 - k) (20 - k) (L.drop k) (by simp [hL]) (fun i hi => ?_) 9 Try.underlying9
  rw [h.cell (k + i) (by simp [hL]; omega)]
  simp [List.getD, (show k + i < L.length by omega)]

theorem okL_of {L : List Int} {k : Nat} (hL : L.length = 20) (hk : k < 20) (hd : ∀ j, k ≤ j → j < 20 → 48 ≤ L.getD j 0 ∧ L.getD j 0 ≤ 57) : Pl.okL (strOfNums (L.drop k)).data.toList = true := by
  rw [strOfNums_data]
  unfold Pl.okL
  rw [Bool.and_eq_true]
  constructor
  · have : (L.drop k) ≠ [] := by intro e; have := congrArg List.length e; simp [hL] at this; omega
    cases hq : L.drop k with
    | nil => exact absurd hq this
    | cons a t => rfl
  · rw [List.all_eq_true]
    intro x hx
    obtain ⟨z, hz, rfl⟩ := List.mem_map.1 hx
    obtain ⟨i, hi, rfl⟩ := List.getElem_of_mem hz
    simp at hi
    have := hd (k + i) (by omega) (by omega)
    simp [List.getD, (show k + i < L.length by omega)] at this
    unfold Pl.dg
    simp
    omega

set_option maxHeartbeats 400000 in
theorem itoa_any (n : Int) (w : World) (h0 : 0 ≤ n) (h1 : n ≤ 18446744073709551615) :
    Calls Try.prog 5 #[.int .u64 n] w fun e w' => ∃ d : ByteArray, e = .returned (.string d) ∧ Pl.okL d.data.toList = true ∧ d.size ≤ 20 ∧ Below w.heap.size w w' := by
  go_enter Try.func5, Try.ntmps5
  go_wp2
  go_loopw [0, 4] (fun nn i wr => ∃ (m : Int) (k : Nat) (L : List Int), 0 ≤ m ∧ m ≤ 18446744073709551615 ∧ Hid (m < (10 : Int) ^ (k + 1)) ∧ k < 20 ∧ nn = .int .u64 m ∧ i = .int .i64 ((k : Int) + 1) ∧
      Blk wr w.heap.size 27 (L.map (Value.int .u8)) ∧ Hid (L.length = 20) ∧ (∀ j, k + 1 ≤ j → j < 20 → 48 ≤ L.getD j 0 ∧ L.getD j 0 ≤ 57) ∧ Below w.heap.size w wr) (fun nn _ _ => (intOf nn).toNat)
  case atStart => exact ⟨n, 19, List.replicate 20 0, h0, h1, Pl.top_bound h1, by decide, rfl, rfl, Blk.new _ _ _, hide rfl, fun j h2 h3 => absurd h3 (by omega), (Below.refl _ _).alloc (Nat.le_refl _) _⟩
  case round =>
    obtain ⟨m, k, L, hm0, hm1, HM, hk, rfl, rfl, hblk, HL, hdig, hbel⟩ := hrel
    have hcg := hblk.cell k (by rw [List.length_map, HL.out]; exact hk)
    have hfg := hblk.frozen k
    have HD := hide hdig
    have hB2 := hblk.setCell k (.int .u8 (48 + m % 10))
    rw [← List.map_set] at hB2
    have HD2 : Hid (∀ j, k ≤ j → j < 20 → 48 ≤ (L.set k (48 + m % 10)).getD j 0 ∧ (L.set k (48 + m % 10)).getD j 0 ≤ 57) := by
      refine hide fun j h2 h3 => ?_
      rw [set_getD _ _ _ _ (by rw [HL.out]; exact hk)]
      split
      · omega
      · exact hdig j (by omega) h3
    have HL2 : Hid ((L.set k (48 + m % 10)).length = 20) := hide (by rw [List.length_set]; exact HL.out)
    generalize (L.map (Value.int .u8))[k]'_ = old at hcg
    generalize L.set k (48 + m % 10) = L2 at hB2 HD2 HL2
    have hB3 := hbel.setCell (p := ⟨w.heap.size, k, none⟩) (Nat.le_refl _) (.int .u8 (48 + m % 10))
    clear hdig HD HL hblk
    rcases Bool.eq_false_or_eq_true (m / 10 == 0) with h10 | h10
    · have hcv := conv20 hB2 HL2.out k hk
      have hsl := slice20 w.heap.size k hk
      go_wp2
      go_ret
      exact ⟨_, rfl, okL_of HL2.out hk HD2.out, by rw [strOfNums_size]; simp [HL2.out], hB3⟩
    · have hpos : 0 < m / 10 := by rw [beq_eq_false_iff_ne] at h10; omega
      have hk0 := Pl.pos_of_bound hpos (Pl.step_bound hm0 HM.out)
      obtain ⟨k', rfl⟩ : ∃ k', k = k' + 1 := ⟨k - 1, by omega⟩
      go_wp2
      go_roundw
      case rel => exact ⟨m / 10, k', L2, by omega, by omega, hide (Pl.step_bound hm0 HM.out), by omega, rfl, by go_num, hB2, HL2, HD2.out, hB3⟩
      case measure => simp [intOf]; omega
end Go.Proofs.Qxb6605483a
