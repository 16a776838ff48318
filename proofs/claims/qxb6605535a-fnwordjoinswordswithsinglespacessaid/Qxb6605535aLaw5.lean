import Derived.Test.Qxb6605535aJoin
namespace Go.Proofs.Qxb6605535a
open Go.RowKit
open Lib (byteCells strCells)
set_option linter.unusedVariables false

theorem info9 : (Try.prog.info? 9).map (fun i => (i.zero, i.size, i.bytes)) = some (some (.string ⟨#[]⟩), 1, 16) := by kernel_rfl

/-- a row of strings being filled -/
def mixS (ss : List ByteArray) (k : Nat) : List ByteArray := ss.take k ++ List.replicate (ss.length - k) ⟨#[]⟩
theorem length_mixS (ss : List ByteArray) (k : Nat) (h : k ≤ ss.length) : (mixS ss k).length = ss.length := by simp [mixS]; omega
theorem mixS_zero (ss : List ByteArray) : mixS ss 0 = List.replicate ss.length ⟨#[]⟩ := by simp [mixS]
theorem mixS_all (ss : List ByteArray) (k : Nat) (h : ¬ k < ss.length) : mixS ss k = ss := by
  unfold mixS; rw [List.take_of_length_le (by omega), show ss.length - k = 0 by omega]; simp
theorem mixS_set (ss : List ByteArray) (k : Nat) (h : k < ss.length) : (mixS ss k).set k (wordAt ss k) = mixS ss (k + 1) := by
  unfold mixS
  rw [List.set_append_right _ _ (by simp; omega), take_next ss k h, List.append_assoc]
  congr 1
  have e1 : ss.length - k = (ss.length - (k + 1)) + 1 := by omega
  have e2 : min k ss.length = k := by omega
  rw [e1]
  simp [e2, List.replicate_succ]
theorem Blk.fillS {w : World} {g : Nat} {ss : List ByteArray} {k : Nat} {s : ByteArray} (h : Blk w g 9 ((mixS ss k).map Value.string)) (hk : k < ss.length) (hs : wordAt ss k = s) :
    Blk (w.setCell ⟨g, k, none⟩ (.string s)) g 9 ((mixS ss (k + 1)).map Value.string) := by
  have := h.setCell k (.string s)
  rw [← List.map_set, ← hs, mixS_set ss k hk] at this
  rw [← hs]; exact this

set_option maxHeartbeats 2000000 in
theorem law5_pos (b0 off0 len cap : Nat) (ss : List ByteArray) (f : Bool) (fb : Int) (w : World) (hr : RowS w (some ⟨b0, off0, none⟩) len ss) (hpos : 0 < len) (hle : len ≤ 131072) :
    Calls Try.prog 5 #[.slice (some ⟨b0, off0, none⟩) len cap, .bool f, .int .i64 fb] w fun e w' => e = .returned (.bool true) ∧ Below w.heap.size w w' := by
  have HL := hide hr.hlen
  have hl : len ≤ maxLen := by unfold maxLen; omega
  have HR := hide hr
  obtain ⟨b1, off1, e1, hb0, hc⟩ := hr.mem hpos
  cases e1
  have HC := hide hc
  clear hc hr
  go_enter Try.func5, Try.ntmps5
  go_wp2_with (go_at_call 11; refine (bytes11_any _ _ _ ss _ _ _ HR.out hl).mono ?_; rintro e w' ⟨⟨bb, rfl, hbb⟩, hw⟩; subst hw; have HBB := hide hbb; clear hbb)
  · go_ret
    exact ⟨rfl, Below.refl _ _⟩
  have HSH : Hid (∀ j, j < len → (wordAt ss j).size ≤ 1048576) := hide (HBB.out (by have := ‹(!bb) = false›; simpa using this))
  clear HBB
  go_loop [7, 8] (fun t i => ∃ k : Nat, k ≤ len ∧ i = .int .i64 k ∧ t = .int .i64 (8 * (len : Int) + (sm (ss.take k) : Int)) ∧ 8 * (len : Int) + (sm (ss.take k) : Int) ≤ 1048576) (fun _ i => len - (intOf i).toNat)
  case atStart => exact ⟨0, Nat.zero_le _, rfl, by simp [sm], by simp [sm]; omega⟩
  case round =>
    obtain ⟨k, hk, rfl, rfl, hsum⟩ := hrel
    by_cases hlt : k < len
    · have hck := HC.out k hlt
      have HSN := hide (sm_next ss k (by rw [HL.out]; exact hlt))
      have hsz := HSH.out k hlt
      generalize hs : wordAt ss k = s at hck hsz HSN
      clear hs
      go_wp2
      · go_ret
        exact ⟨rfl, Below.refl _ _⟩
      · go_round
        case rel => exact ⟨k + 1, by omega, by go_num, by rw [HSN.out]; go_num, by rw [HSN.out]; omega⟩
        case measure => simp [intOf]; omega
    · obtain rfl : len = k := by omega
      have hsm : sm ss + 8 * len ≤ 1048576 := by
        rw [List.take_of_length_le (by rw [HL.out]; exact Nat.le_refl _)] at hsum
        omega
      clear hsum
      go_wp2_with (at_make; refine wpList_mk _ rfl (.tmp 45) (.tmp 45) 27 rfl 9 (.string ⟨#[]⟩) 16 Try.underlying27 info9 rfl .i64 .i64 len rfl rfl (by omega) (by omega) ?_; intro g w1 HG hk1 hb1)
      go_loopw [10] (fun i wr => ∃ k : Nat, k ≤ len ∧ i = .int .i64 k ∧ Blk wr g 9 ((mixS ss k).map Value.string) ∧ Below w'.heap.size w' wr) (fun i _ => len - (intOf i).toNat)
      case atStart => exact ⟨0, Nat.zero_le _, rfl, by rw [mixS_zero, HL.out, List.map_replicate]; exact hk1, hb1⟩
      case round =>
        obtain ⟨k, hk, rfl, hblk, hbel⟩ := hrel
        clear hk1 hb1
        by_cases hlt : k < len
        · have hck : wr.cell? ⟨b0, off0 + k, none⟩ = some (.string (wordAt ss k)) := (hbel.cell (p := ⟨b0, off0 + k, none⟩) hb0).trans (HC.out k hlt)
          have hcg := hblk.cell k (by rw [List.length_map, length_mixS _ _ (by rw [HL.out]; exact hk), HL.out]; exact hlt)
          have hfg := hblk.frozen k
          generalize ((mixS ss k).map Value.string)[k]'_ = old at hcg
          generalize hs : wordAt ss k = s at hck
          have HS := hide hs
          clear hs
          have HNB := hide (hblk.fillS (by rw [HL.out]; exact hlt) HS.out)
          go_wp2
          go_roundw
          case rel => exact ⟨k + 1, by omega, by go_num, HNB.out, hbel.setCell (Nat.le_of_eq HG.out.symm) _⟩
          case measure => simp [intOf]; omega
        · rw [mixS_all _ _ (by rw [HL.out]; exact hlt)] at hblk
          have hrow := RowS.of_blk hblk HL.out HR.out.sz
          have HROW := hide hrow
          obtain ⟨b2, off2, e2, hgW, hcW⟩ := hrow.mem hpos
          cases e2
          have HCW := hide hcW
          clear hcW hrow hblk
          have HB1 := hide hbel
          clear hbel
          obtain ⟨W1, rfl⟩ : ∃ W, W = wr := ⟨wr, rfl⟩
          go_wp2_with (go_at_call 12; refine (new_any _ _ _).mono ?_; rintro e w2 ⟨tb, rfl, htw, hb2⟩)
          go_loopw [12] (fun i wz => ∃ (k : Nat) (sp : Bool) (br : Int), k ≤ len ∧ i = .int .i64 k ∧ TW W1.heap.size tb (.pointer (some ⟨tb, 0, none⟩)) (tx (ss.take k)) sp br wz ∧ Hid ((k = 0 ∧ sp = f ∧ br = fb) ∨ (0 < k ∧ sp = false ∧ br = 0)) ∧ Below W1.heap.size W1 wz) (fun i _ => len - (intOf i).toNat)
          case atStart => exact ⟨0, f, fb, Nat.zero_le _, rfl, htw, hide (.inl ⟨rfl, rfl, rfl⟩), hb2⟩
          case round =>
            obtain ⟨n, sp, br, hn, rfl, ht, HST, hbz⟩ := hrel
            clear htw hb2
            by_cases hnl : n < len
            · have hcn : wr.cell? ⟨g, n, none⟩ = some (.string (wordAt ss n)) := (hbz.cell (p := ⟨g, n, none⟩) hgW).trans (by have := HCW.out n hnl; rwa [Nat.zero_add] at this)
              have HNX := hide (tx_next ss n (by rw [HL.out]; exact hnl))
              have hq1 := tx_len ss n (by rw [HL.out]; exact hn)
              have hq2 := sm_at ss n (by rw [HL.out]; exact hnl)
              have hq3 : (tx (ss.take n)).length + (wordAt ss n).size ≤ 2097152 := by omega
              have HZ := hide hbz.size
              clear hq1 hq2
              generalize hs : wordAt ss n = s at hcn hq3 HNX
              have HS := hide hs
              clear hs
              by_cases hn0 : 0 < n
              · go_wp2_with (first
                  | (go_at_call 13; refine (setGap_any W1.heap.size tb _ _ sp br _ ht true 0).mono ?_; rintro e w3 ⟨rfl, ht3, hb3⟩; have hcn3 : w3.cell? ⟨g, n, none⟩ = some (.string s) := by rw [hb3.cell (p := ⟨g, n, none⟩) hgW]; exact hcn)
                  | (go_at_call 14; refine (word_any W1.heap.size tb _ _ true 0 s _ ht3 (.inr ⟨rfl, rfl⟩) (.inr rfl) hq3 (Nat.le_trans HZ.out hb3.size)).mono ?_; rintro e w4 ⟨rfl, ht4, hb4⟩))
                go_roundw
                case rel => exact ⟨n + 1, false, 0, by omega, by go_num, by rw [HNX.out]; exact ht4, hide (.inr ⟨by omega, rfl, rfl⟩), (hbz.trans hb3).trans hb4⟩
                case measure => simp [intOf]; omega
              · obtain rfl : n = 0 := by omega
                go_wp2_with (first
                  | (go_at_call 14; refine (word_any W1.heap.size tb _ _ sp br s _ ht (.inl rfl) (.inr rfl) hq3 HZ.out).mono ?_; rintro e w4 ⟨rfl, ht4, hb4⟩))
                go_roundw
                case rel => exact ⟨0 + 1, false, 0, by omega, by go_num, by rw [HNX.out]; exact ht4, hide (.inr ⟨by omega, rfl, rfl⟩), hbz.trans hb4⟩
                case measure => simp [intOf]; omega
            · obtain ⟨_, rfl, rfl⟩ : 0 < n ∧ sp = false ∧ br = 0 := by
                rcases HST.out with h | h
                · omega
                · exact h
              have hTX : tx (ss.take n) = tx ss := by rw [List.take_of_length_le (by rw [HL.out]; omega)]
              rw [hTX] at ht
              have HBZ := hide hbz
              clear hTX hbz
              go_wp2_with (first
                | (go_at_call 15; refine (state_any W1.heap.size tb _ _ _ _ _ ht).mono ?_; rintro e w5 ⟨rfl, hb5⟩)
                | (go_at_call 16; refine (join_any _ _ _ ss _ (HROW.out.below (HBZ.out.trans hb5)) (by omega)).mono ?_; rintro e w6 ⟨rfl, hb6⟩))
              go_ret
              have hF := HB1.out.trans ((HBZ.out.trans hb5).mono HB1.out.size)
              exact ⟨ret_bool (by simp), hF.trans (hb6.mono hF.size)⟩

set_option maxHeartbeats 2000000 in
theorem law5_big (a : Option Addr) (len cap : Nat) (ss : List ByteArray) (f : Bool) (fb : Int) (w : World) (hr : RowS w a len ss) (hl : len ≤ maxLen) (hbig : 131072 < len) :
    Calls Try.prog 5 #[.slice a len cap, .bool f, .int .i64 fb] w fun e w' => e = .returned (.bool true) ∧ Below w.heap.size w w' := by
  have hl' := hl
  unfold maxLen at hl'
  have HR := hide hr
  clear hr
  go_enter Try.func5, Try.ntmps5
  go_wp2_with (go_at_call 11; refine (bytes11_any _ _ _ ss _ _ _ HR.out hl).mono ?_; rintro e w' ⟨⟨bb, rfl, hbb⟩, hw⟩; subst hw; have HBB := hide hbb; clear hbb)
  all_goals (go_ret; exact ⟨rfl, Below.refl _ _⟩)

set_option maxHeartbeats 2000000 in
theorem law5_nil (cap : Nat) (ss : List ByteArray) (f : Bool) (fb : Int) (w : World) (hr : RowS w none 0 ss) :
    Calls Try.prog 5 #[.slice none 0 cap, .bool f, .int .i64 fb] w fun e w' => e = .returned (.bool true) ∧ Below w.heap.size w w' := by
  have HR := hide hr
  clear hr
  go_enter Try.func5, Try.ntmps5
  go_wp2_with (go_at_call 11; refine (bytes11_any _ _ _ ss _ _ _ HR.out (Nat.zero_le _)).mono ?_; rintro e w' ⟨⟨bb, rfl, hbb⟩, hw⟩; subst hw; have HBB := hide hbb; clear hbb)
  · go_ret
    exact ⟨rfl, Below.refl _ _⟩
  go_loop [7, 8] (fun t i => t = .int .i64 0 ∧ i = .int .i64 0) (fun _ _ => 0)
  case atStart => exact ⟨rfl, rfl⟩
  case round =>
    obtain ⟨rfl, rfl⟩ := hrel
    go_wp2_with (go_at_call 12; refine (new_any _ _ _).mono ?_; rintro e w2 ⟨tb, rfl, htw, hb2⟩)
    go_loop [12] (fun i => i = .int .i64 0) (fun _ => 0)
    case atStart => exact rfl
    case round =>
      obtain rfl := hrel
      go_wp2_with (go_at_call 15; refine (state_any _ tb _ _ _ _ _ htw).mono ?_; rintro e w5 ⟨rfl, hb5⟩)
      go_ret
      exact ⟨ret_bool (by simp), hb2.trans hb5⟩

set_option maxHeartbeats 2000000 in
theorem law5_zero (x : Addr) (cap : Nat) (ss : List ByteArray) (f : Bool) (fb : Int) (w : World) (hr : RowS w (some x) 0 ss) :
    Calls Try.prog 5 #[.slice (some x) 0 cap, .bool f, .int .i64 fb] w fun e w' => e = .returned (.bool true) ∧ Below w.heap.size w w' := by
  have HR := hide hr
  clear hr
  go_enter Try.func5, Try.ntmps5
  go_wp2_with (go_at_call 11; refine (bytes11_any _ _ _ ss _ _ _ HR.out (Nat.zero_le _)).mono ?_; rintro e w' ⟨⟨bb, rfl, hbb⟩, hw⟩; subst hw; have HBB := hide hbb; clear hbb)
  · go_ret
    exact ⟨rfl, Below.refl _ _⟩
  go_loop [7, 8] (fun t i => t = .int .i64 0 ∧ i = .int .i64 0) (fun _ _ => 0)
  case atStart => exact ⟨rfl, rfl⟩
  case round =>
    obtain ⟨rfl, rfl⟩ := hrel
    go_wp2_with (at_make; refine wpList_mk _ rfl (.tmp 45) (.tmp 45) 27 rfl 9 (.string ⟨#[]⟩) 16 Try.underlying27 info9 rfl .i64 .i64 0 rfl rfl (by omega) (by omega) ?_; intro g w1 HG hk1 hb1)
    go_loop [10] (fun i => i = .int .i64 0) (fun _ => 0)
    case atStart => exact rfl
    case round =>
      obtain rfl := hrel
      go_wp2_with (go_at_call 12; refine (new_any _ _ _).mono ?_; rintro e w2 ⟨tb, rfl, htw, hb2⟩)
      go_loop [12] (fun i => i = .int .i64 0) (fun _ => 0)
      case atStart => exact rfl
      case round =>
        obtain rfl := hrel
        go_wp2_with (go_at_call 15; refine (state_any _ tb _ _ _ _ _ htw).mono ?_; rintro e w5 ⟨rfl, hb5⟩)
        go_ret
        exact ⟨ret_bool (by simp), hb1.trans ((hb2.trans hb5).mono hb1.size)⟩

theorem law5_any (a : Option Addr) (len cap : Nat) (ss : List ByteArray) (f : Bool) (fb : Int) (w : World) (hr : RowS w a len ss) (hl : len ≤ maxLen) :
    Calls Try.prog 5 #[.slice a len cap, .bool f, .int .i64 fb] w fun e w' => e = .returned (.bool true) ∧ Below w.heap.size w w' := by
  by_cases h0 : len = 0
  · subst h0
    cases a with
    | none => exact law5_nil cap ss f fb w hr
    | some x => exact law5_zero x cap ss f fb w hr
  · by_cases hb : 131072 < len
    · exact law5_big a len cap ss f fb w hr hl hb
    · obtain ⟨b, off, rfl, _⟩ := hr.mem (by omega)
      exact law5_pos b off len cap ss f fb w hr (by omega) (by omega)
end Go.Proofs.Qxb6605535a
