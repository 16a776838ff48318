import Derived.Test.Qxb6605416aLaw1
namespace Go.Proofs.Qxb6605416a
open Go.RowKit
set_option linter.unusedVariables false

/-- a row of bytes being filled: the first k are done, the rest is zero -/
def mix (f : Int → Int) (zs : List Int) (k : Nat) : List Int := (zs.take k).map f ++ List.replicate (zs.length - k) 0
theorem length_mix (f : Int → Int) (zs : List Int) (k : Nat) (h : k ≤ zs.length) : (mix f zs k).length = zs.length := by simp [mix]; omega
theorem mix_zero (f : Int → Int) (zs : List Int) : mix f zs 0 = List.replicate zs.length 0 := by simp [mix]
theorem mix_all (f : Int → Int) (zs : List Int) (k : Nat) (h : ¬ k < zs.length) : mix f zs k = zs.map f := by
  unfold mix; rw [List.take_of_length_le (by omega), show zs.length - k = 0 by omega]; simp
theorem mix_set (f : Int → Int) (zs : List Int) (k : Nat) (h : k < zs.length) : (mix f zs k).set k (f (zs.getD k 0)) = mix f zs (k + 1) := by
  unfold mix
  rw [List.set_append_right _ _ (by simp; omega)]
  rw [List.take_succ_eq_append_getElem h, List.map_append, List.append_assoc]
  congr 1
  have e1 : zs.length - k = (zs.length - (k + 1)) + 1 := by omega
  have e2 : min k zs.length = k := by omega
  rw [e1]
  simp [e2, List.replicate_succ, List.getD, h]

theorem Blk.fill {w : World} {g : Nat} {e : TypeId} {f : Int → Int} {zs : List Int} {k : Nat} {c x : Int} (h : Blk w g e ((mix f zs k).map (Value.int .u8))) (hk : k < zs.length) (hc : c = zs.getD k 0) (hx : f c = x) :
    Blk (w.setCell ⟨g, k, none⟩ (.int .u8 x)) g e ((mix f zs (k + 1)).map (Value.int .u8)) := by
  have := h.setCell k (.int .u8 x)
  rw [← List.map_set, ← hx, hc, mix_set f zs k hk] at this
  rw [← hx, hc]; exact this

set_option maxHeartbeats 400000 in
theorem lower_any (a : Option Addr) (len cap : Nat) (zs : List Int) (w : World) (hr : Row w a len zs) (hl : len ≤ maxLen) (h18 : len ≤ 262144) :
    Calls Try.prog 18 #[.slice a len cap] w fun e w' => ∃ g, e = .returned (.slice (some ⟨g, 0, none⟩) len len) ∧ w.heap.size ≤ g ∧ Blk w' g 5 ((zs.map Pl.low).map (Value.int .u8)) ∧ Below w.heap.size w w' := by
  have hlz : Hid (zs.length = len) := hr.hlen
  go_enter Try.func18, Try.ntmps18
  go_wp2_with (at_make; refine wpList_mk _ rfl (.tmp 7) (.tmp 7) 22 rfl 5 (.int .u8 0) 1 Try.underlying22 info5 rfl .i64 .i64 len rfl rfl (by omega) (by omega) ?_; intro g w1 HG hk1 hb1)
  go_loopw [4] (fun i wr => ∃ k : Nat, k ≤ len ∧ i = .int .i64 k ∧ Blk wr g 5 ((mix Pl.low zs k).map (Value.int .u8)) ∧ Below w.heap.size w wr) (fun i _ => len - (intOf i).toNat)
  case atStart => exact ⟨0, Nat.zero_le _, rfl, by rw [mix_zero, hlz.out, List.map_replicate]; exact hk1, hb1⟩
  case round =>
    obtain ⟨k, hk, rfl, hblk, hbel⟩ := hrel
    clear hk1 hb1
    by_cases hlt : k < len
    · obtain ⟨b, off, rfl, hb, hc⟩ := (hr.below hbel).mem (by omega)
      have hck := hc k hlt
      have hbd := hr.bd k
      obtain ⟨c, hcc⟩ : ∃ c, c = zs.getD k 0 := ⟨_, rfl⟩
      rw [← hcc] at hck hbd
      have HC := hide hcc
      have hcg := hblk.cell k (by rw [List.length_map, length_mix _ _ _ (by rw [hlz.out]; exact hk), hlz.out]; exact hlt)
      have hfg := hblk.frozen k
      generalize ((mix Pl.low zs k).map (Value.int .u8))[k]'_ = old at hcg
      clear hcc hc hr
      go_wp2
      all_goals
        go_roundw
        case rel => exact ⟨k + 1, by omega, by go_num, hblk.fill (by rw [hlz.out]; exact hlt) HC.out (by unfold Pl.low; split <;> omega), hbel.setCell (Nat.le_of_eq HG.out.symm) _⟩
        case measure => simp [intOf]; omega
    · go_wp2
      go_ret
      rw [mix_all _ _ _ (by rw [hlz.out]; exact hlt)] at hblk
      exact ⟨g, rfl, Nat.le_of_eq HG.out.symm, hblk, hbel⟩

set_option maxHeartbeats 400000 in
theorem swap_any (a : Option Addr) (len cap : Nat) (zs : List Int) (w : World) (hr : Row w a len zs) (hl : len ≤ maxLen) (h18 : len ≤ 262144) :
    Calls Try.prog 19 #[.slice a len cap] w fun e w' => ∃ g, e = .returned (.slice (some ⟨g, 0, none⟩) len len) ∧ w.heap.size ≤ g ∧ Blk w' g 5 ((zs.map Pl.swp).map (Value.int .u8)) ∧ Below w.heap.size w w' := by
  have hlz : Hid (zs.length = len) := hr.hlen
  go_enter Try.func19, Try.ntmps19
  go_wp2_with (at_make; refine wpList_mk _ rfl (.tmp 7) (.tmp 7) 22 rfl 5 (.int .u8 0) 1 Try.underlying22 info5 rfl .i64 .i64 len rfl rfl (by omega) (by omega) ?_; intro g w1 HG hk1 hb1)
  go_loopw [4] (fun i wr => ∃ k : Nat, k ≤ len ∧ i = .int .i64 k ∧ Blk wr g 5 ((mix Pl.swp zs k).map (Value.int .u8)) ∧ Below w.heap.size w wr) (fun i _ => len - (intOf i).toNat)
  case atStart => exact ⟨0, Nat.zero_le _, rfl, by rw [mix_zero, hlz.out, List.map_replicate]; exact hk1, hb1⟩
  case round =>
    obtain ⟨k, hk, rfl, hblk, hbel⟩ := hrel
    clear hk1 hb1
    by_cases hlt : k < len
    · obtain ⟨b, off, rfl, hb, hc⟩ := (hr.below hbel).mem (by omega)
      have hck := hc k hlt
      have hbd := hr.bd k
      obtain ⟨c, hcc⟩ : ∃ c, c = zs.getD k 0 := ⟨_, rfl⟩
      rw [← hcc] at hck hbd
      have HC := hide hcc
      have hcg := hblk.cell k (by rw [List.length_map, length_mix _ _ _ (by rw [hlz.out]; exact hk), hlz.out]; exact hlt)
      have hfg := hblk.frozen k
      generalize ((mix Pl.swp zs k).map (Value.int .u8))[k]'_ = old at hcg
      clear hcc hc hr
      go_wp2
      all_goals
        go_roundw
        case rel => exact ⟨k + 1, by omega, by go_num, hblk.fill (by rw [hlz.out]; exact hlt) HC.out (by unfold Pl.swp; split <;> (try split) <;> omega), hbel.setCell (Nat.le_of_eq HG.out.symm) _⟩
        case measure => simp [intOf]; omega
    · go_wp2
      go_ret
      rw [mix_all _ _ _ (by rw [hlz.out]; exact hlt)] at hblk
      exact ⟨g, rfl, Nat.le_of_eq HG.out.symm, hblk, hbel⟩

set_option maxHeartbeats 400000 in
theorem upString_any (s : ByteArray) (w : World) (hs : s.size ≤ maxLen) :
    Calls Try.prog 20 #[.string s] w fun e w' => e = .returned (.bool (Pl.hasUp (Pl.bi s))) ∧ w' = w := by
  unfold maxLen at hs
  go_enter Try.func20, Try.ntmps20
  go_wp2
  go_loop [3] (fun i => ∃ k : Nat, k ≤ s.size ∧ i = .int .i64 k ∧ Pl.noUp (Pl.bi s) k) (fun i => s.size - (intOf i).toNat)
  case atStart => exact ⟨0, Nat.zero_le _, rfl, Pl.noUp_zero _⟩
  case round =>
    obtain ⟨k, hk, rfl, hno⟩ := hrel
    by_cases hlt : k < s.size
    · have HC := hide (Pl.bi_getD s k hlt)
      have hsb := byte_le s[k]
      go_wp2
      · go_ret
        exact ⟨ret_bool (Pl.noUp_hit (by rw [Pl.length_bi]; exact hlt) HC.out (by omega)), rfl⟩
      all_goals
        go_round
        case rel => exact ⟨k + 1, by omega, by go_num, Pl.noUp_succ HC.out (by omega) hno⟩
        case measure => simp [intOf]; omega
    · go_wp2
      go_ret
      exact ⟨ret_bool (Pl.noUp_all (by rw [Pl.length_bi]; exact hlt) hno), rfl⟩

set_option maxHeartbeats 400000 in
theorem upBytes_any (a : Option Addr) (len cap : Nat) (zs : List Int) (w : World) (hr : Row w a len zs) (hl : len ≤ maxLen) :
    Calls Try.prog 21 #[.slice a len cap] w fun e w' => e = .returned (.bool (Pl.hasUp zs)) ∧ w' = w := by
  unfold maxLen at hl
  have hlz : Hid (zs.length = len) := hr.hlen
  go_enter Try.func21, Try.ntmps21
  go_wp2
  go_loop [3] (fun i => ∃ k : Nat, k ≤ len ∧ i = .int .i64 k ∧ Pl.noUp zs k) (fun i => len - (intOf i).toNat)
  case atStart => exact ⟨0, Nat.zero_le _, rfl, Pl.noUp_zero _⟩
  case round =>
    obtain ⟨k, hk, rfl, hno⟩ := hrel
    by_cases hlt : k < len
    · obtain ⟨b, off, rfl, hb, hc⟩ := hr.mem (by omega)
      have hck := hc k hlt
      have hbd := hr.bd k
      obtain ⟨c, hcc⟩ : ∃ c, c = zs.getD k 0 := ⟨_, rfl⟩
      rw [← hcc] at hck hbd
      have HC := hide hcc
      clear hcc hc hr
      go_wp2
      · go_ret
        exact ⟨ret_bool (Pl.noUp_hit (by rw [hlz.out]; exact hlt) HC.out (by omega)), rfl⟩
      all_goals
        go_round
        case rel => exact ⟨k + 1, by omega, by go_num, Pl.noUp_succ HC.out (by omega) hno⟩
        case measure => simp [intOf]; omega
    · go_wp2
      go_ret
      exact ⟨ret_bool (Pl.noUp_all (by rw [hlz.out]; exact hlt) hno), rfl⟩

/-- the string of a row of bytes, as the conversion makes it -/
theorem bi_strOfNums {zs : List Int} (h : ∀ i, 0 ≤ zs.getD i 0 ∧ zs.getD i 0 ≤ 255) : Pl.bi (strOfNums zs) = zs := by
  unfold Pl.bi
  rw [strOfNums_data, List.map_map]
  apply List.ext_getElem
  · simp
  · intro i h1 h2
    have := h i
    simp [List.getD, h2] at this
    simp
    rw [Int.max_eq_left this.1]
    omega

theorem Row.conv {w : World} {a : Option Addr} {len cap : Nat} {zs : List Int} (hr : Row w a len zs) (ha : a = none ∨ ∃ b off, a = some ⟨b, off, none⟩) :
    (convert 22 9 (.slice a len cap)).run Try.prog w = .ok (.string (strOfNums zs)) w := by
  rcases ha with rfl | ⟨b, off, rfl⟩
  · have h0 : len = 0 := by
      rcases Nat.eq_zero_or_pos len with h | h
      · exact h
      · obtain ⟨b, off, h2, _⟩ := hr.mem h; cases h2
    have h1 : zs = [] := List.eq_nil_of_length_eq_zero (by rw [hr.hlen, h0])
    rw [run_convert_bytes_nil w 22 5 Try.underlying22 Try.underlying5 len cap 9 Try.underlying9, h1]
    rfl
  · refine run_convert_bytes_arg w 22 5 Try.underlying22 Try.underlying5 b off len cap zs hr.hlen (fun i hi => ?_) 9 Try.underlying9
    obtain ⟨b', off', h2, _, hc⟩ := hr.mem (by omega)
    cases h2
    exact hc i hi
end Go.Proofs.Qxb6605416a
