import Derived.Test.Qxb6605483aWalks
import Derived.Lib.SmallJoins
namespace Go.Proofs.Qxb6605483a
open Go.RowKit
set_option linter.unusedVariables false

theorem conv_one (w : World) (c : Int) (g : Nat) (hg : g = w.heap.size) : (convert 25 9 (.slice (some ⟨g, 0, none⟩) 1 1)).run Try.prog (w.alloc (.cells #[.int .u8 c] 5)) = .ok (.string (strOfNums [c])) (w.alloc (.cells #[.int .u8 c] 5)) := by
  subst hg
  refine run_convert_bytes_arg _ 25 5 Try.underlying25 Try.underlying5 w.heap.size 0 1 1 [c] rfl (fun i hi => ?_) 9 Try.underlying9
  obtain rfl : i = 0 := by omega
  have := (Blk.new w 5 [.int .u8 c]).cell 0 (Nat.zero_lt_one)
  exact this

theorem zz_is (s : ByteArray) (b : Bool) (w : World) (h : Pl.okL s.data.toList = b) (hs : s.size ≤ maxLen) : Calls Try.prog 6 #[.string s] w fun e w' => e = .returned (.bool b) ∧ w' = w := by
  subst h; exact zz_any s w hs

theorem app_data (a b : ByteArray) : (a ++ b).data.toList = a.data.toList ++ b.data.toList := Go.Joins.data_append a b
theorem app_size (a b : ByteArray) : (a ++ b).size = a.size + b.size := ByteArray.size_append
theorem ok_sign (x : UInt8) (hx : Pl.dg x = false) (d : ByteArray) : Pl.okL ((⟨#[x]⟩ : ByteArray) ++ d).data.toList = false := by
  rw [app_data]
  show Pl.okL (x :: d.data.toList) = false
  unfold Pl.okL
  simp [hx]
theorem sign_size (x : UInt8) {d : ByteArray} (h : d.size ≤ 20) : ((⟨#[x]⟩ : ByteArray) ++ d).size ≤ maxLen := by
  rw [app_size]; show 1 + d.size ≤ maxLen; unfold maxLen; omega
theorem dg_ofInt {c : Int} (h0 : 0 ≤ c) (h1 : c ≤ 255) : Pl.dg (UInt8.ofNat c.toNat) = decide (48 ≤ c ∧ c ≤ 57) := by
  unfold Pl.dg
  rw [Bool.eq_iff_iff]
  simp
  omega
theorem ok_tail {d : ByteArray} (h : Pl.okL d.data.toList = true) {c : Int} (h0 : 0 ≤ c) (h1 : c ≤ 255) : Pl.okL (d ++ strOfNums [c]).data.toList = decide (48 ≤ c ∧ c ≤ 57) := by
  rw [app_data, Pl.okL_app_right h, strOfNums_data, ← dg_ofInt h0 h1]
  show (false || Pl.okL [UInt8.ofNat c.toNat]) = _
  rw [Pl.okL_one]; rfl
theorem ok_head {d : ByteArray} (h : Pl.okL d.data.toList = true) {c : Int} (h0 : 0 ≤ c) (h1 : c ≤ 255) : Pl.okL (strOfNums [c] ++ d).data.toList = decide (48 ≤ c ∧ c ≤ 57) := by
  rw [app_data, Pl.okL_app_left h, strOfNums_data, ← dg_ofInt h0 h1]
  show (false || Pl.okL [UInt8.ofNat c.toNat]) = _
  rw [Pl.okL_one]; rfl
theorem ok_behind {d : ByteArray} (h : Pl.okL d.data.toList = true) (s : ByteArray) : Pl.okL (d ++ s).data.toList = (s.toList.isEmpty || Pl.okL s.data.toList) := by
  rw [app_data, Pl.okL_app_right h, ByteArray.toList_eq]
theorem ok_ahead {d : ByteArray} (h : Pl.okL d.data.toList = true) (s : ByteArray) : Pl.okL (s ++ d).data.toList = (s.toList.isEmpty || Pl.okL s.data.toList) := by
  rw [app_data, Pl.okL_app_left h, ByteArray.toList_eq]

set_option maxHeartbeats 1000000 in
theorem law_empty (n c : Int) (s : ByteArray) (w : World) (hn0 : 0 ≤ n) (hn1 : n ≤ 18446744073709551615) (hc0 : 0 ≤ c) (hc1 : c ≤ 255) (hs : s.size ≤ maxLen) (hE : s.toList.isEmpty = true)
    (D : Bool) (HDG : Hid (decide (48 ≤ c ∧ c ≤ 57) = D)) (hC : ((48 ≤ c ∧ c ≤ 57) ∧ D = true) ∨ (c < 48 ∧ D = false) ∨ ((48 ≤ c ∧ 57 < c) ∧ D = false)) :
    Calls Try.prog 3 #[.int .u64 n, .int .u8 c, .string s] w fun e w' => e = .returned (.bool true) ∧ Below w.heap.size w w' := by
  have n2 := hs
  unfold maxLen at n2
  have HSE : Hid ((s.toList.isEmpty || Pl.okL s.data.toList) = true) := hide (by rw [hE]; rfl)
  rcases hC with ⟨hC, hD⟩ | ⟨hC, hD⟩ | ⟨hC, hD⟩ <;> subst hD
  all_goals
    go_enter Try.func3, Try.ntmps3
    go_wp2_with (first
      | (go_at_call 4; refine (bytes_any _ _ _ _ hs).mono ?_; rintro e w' ⟨⟨b, rfl⟩, rfl⟩)
      | (go_at_call 5; refine (itoa_any _ _ hn0 hn1).mono ?_; rintro e w1 ⟨d, rfl, hd, hds, hb1⟩; have HD := hide hd; clear hd; have hcv := conv_one w1 c _ rfl))
    iterate 2 (· go_ret; exact ⟨rfl, Below.refl _ _⟩)
    clear hcv
    have hcs : (strOfNums [c]).size = 1 := strOfNums_size [c]
    refine (zz_is _ true _ HD.out (by unfold maxLen; omega)).mono ?_
    rintro e w2 ⟨rfl, hw⟩
    subst hw
    go_wp2_with fail
    refine (zz_is _ false _ rfl (by unfold maxLen; decide)).mono ?_
    rintro e w2 ⟨rfl, hw⟩
    subst hw
    go_wp2_with fail
    refine (zz_is _ false _ (ok_sign _ (by decide) _) (sign_size _ hds)).mono ?_
    rintro e w2 ⟨rfl, hw⟩
    subst hw
    go_wp2_with fail
    refine (zz_is _ false _ (ok_sign _ (by decide) _) (sign_size _ hds)).mono ?_
    rintro e w2 ⟨rfl, hw⟩
    subst hw
    go_wp2_with fail
    refine (zz_is _ _ _ ((ok_tail HD.out hc0 hc1).trans HDG.out) (by unfold maxLen; rw [app_size, strOfNums_size]; simp; omega)).mono ?_
    rintro e w2 ⟨rfl, hw⟩
    subst hw
    go_wp2_with fail
    refine (zz_is _ _ _ ((ok_head HD.out hc0 hc1).trans HDG.out) (by unfold maxLen; rw [app_size, strOfNums_size]; simp; omega)).mono ?_
    rintro e w2 ⟨rfl, hw⟩
    subst hw
    go_wp2_with fail
    refine (zz_is _ true _ ((ok_behind HD.out s).trans HSE.out) (by unfold maxLen; rw [app_size]; omega)).mono ?_
    rintro e w2 ⟨rfl, hw⟩
    subst hw
    go_wp2_with fail
    refine (zz_is _ true _ ((ok_ahead HD.out s).trans HSE.out) (by unfold maxLen; rw [app_size]; omega)).mono ?_
    rintro e w2 ⟨rfl, hw⟩
    subst hw
    go_wp2_with fail
    go_ret
    exact ⟨ret_bool (by first | (simp; done) | (simp; omega)), hb1.alloc hb1.size _⟩

set_option maxHeartbeats 1000000 in
theorem law_more (n c : Int) (s : ByteArray) (w : World) (hn0 : 0 ≤ n) (hn1 : n ≤ 18446744073709551615) (hc0 : 0 ≤ c) (hc1 : c ≤ 255) (hs : s.size ≤ maxLen) (hE : s.toList.isEmpty = false) (S : Bool) (HS : Hid (Pl.okL s.data.toList = S))
    (D : Bool) (HDG : Hid (decide (48 ≤ c ∧ c ≤ 57) = D)) (hC : ((48 ≤ c ∧ c ≤ 57) ∧ D = true) ∨ (c < 48 ∧ D = false) ∨ ((48 ≤ c ∧ 57 < c) ∧ D = false)) :
    Calls Try.prog 3 #[.int .u64 n, .int .u8 c, .string s] w fun e w' => e = .returned (.bool true) ∧ Below w.heap.size w w' := by
  have n2 := hs
  unfold maxLen at n2
  have HSE : Hid ((s.toList.isEmpty || Pl.okL s.data.toList) = S) := hide (by rw [hE, HS.out]; rfl)
  rcases hC with ⟨hC, hD⟩ | ⟨hC, hD⟩ | ⟨hC, hD⟩ <;> subst hD
  all_goals
    go_enter Try.func3, Try.ntmps3
    go_wp2_with (first
      | (go_at_call 4; refine (bytes_any _ _ _ _ hs).mono ?_; rintro e w' ⟨⟨b, rfl⟩, rfl⟩)
      | (go_at_call 5; refine (itoa_any _ _ hn0 hn1).mono ?_; rintro e w1 ⟨d, rfl, hd, hds, hb1⟩; have HD := hide hd; clear hd; have hcv := conv_one w1 c _ rfl))
    iterate 2 (· go_ret; exact ⟨rfl, Below.refl _ _⟩)
    clear hcv
    have hcs : (strOfNums [c]).size = 1 := strOfNums_size [c]
    refine (zz_is _ S _ HS.out hs).mono ?_
    rintro e w2 ⟨rfl, hw⟩
    subst hw
    go_wp2_with fail
    refine (zz_is _ true _ HD.out (by unfold maxLen; omega)).mono ?_
    rintro e w2 ⟨rfl, hw⟩
    subst hw
    go_wp2_with fail
    refine (zz_is _ false _ rfl (by unfold maxLen; decide)).mono ?_
    rintro e w2 ⟨rfl, hw⟩
    subst hw
    go_wp2_with fail
    refine (zz_is _ false _ (ok_sign _ (by decide) _) (sign_size _ hds)).mono ?_
    rintro e w2 ⟨rfl, hw⟩
    subst hw
    go_wp2_with fail
    refine (zz_is _ false _ (ok_sign _ (by decide) _) (sign_size _ hds)).mono ?_
    rintro e w2 ⟨rfl, hw⟩
    subst hw
    go_wp2_with fail
    refine (zz_is _ _ _ ((ok_tail HD.out hc0 hc1).trans HDG.out) (by unfold maxLen; rw [app_size, strOfNums_size]; simp; omega)).mono ?_
    rintro e w2 ⟨rfl, hw⟩
    subst hw
    go_wp2_with fail
    refine (zz_is _ _ _ ((ok_head HD.out hc0 hc1).trans HDG.out) (by unfold maxLen; rw [app_size, strOfNums_size]; simp; omega)).mono ?_
    rintro e w2 ⟨rfl, hw⟩
    subst hw
    go_wp2_with fail
    refine (zz_is _ S _ ((ok_behind HD.out s).trans HSE.out) (by unfold maxLen; rw [app_size]; omega)).mono ?_
    rintro e w2 ⟨rfl, hw⟩
    subst hw
    go_wp2_with fail
    refine (zz_is _ S _ ((ok_ahead HD.out s).trans HSE.out) (by unfold maxLen; rw [app_size]; omega)).mono ?_
    rintro e w2 ⟨rfl, hw⟩
    subst hw
    go_wp2_with fail
    go_ret
    exact ⟨ret_bool (by first | (simp; done) | (simp; omega)), hb1.alloc hb1.size _⟩

theorem law_any (n c : Int) (s : ByteArray) (w : World) (hn0 : 0 ≤ n) (hn1 : n ≤ 18446744073709551615) (hc0 : 0 ≤ c) (hc1 : c ≤ 255) (hs : s.size ≤ maxLen) :
    Calls Try.prog 3 #[.int .u64 n, .int .u8 c, .string s] w fun e w' => e = .returned (.bool true) ∧ Below w.heap.size w w' := by
  have hC : ((48 ≤ c ∧ c ≤ 57) ∧ decide (48 ≤ c ∧ c ≤ 57) = true) ∨ (c < 48 ∧ decide (48 ≤ c ∧ c ≤ 57) = false) ∨ ((48 ≤ c ∧ 57 < c) ∧ decide (48 ≤ c ∧ c ≤ 57) = false) := by
    simp only [decide_eq_true_eq, decide_eq_false_iff_not]; omega
  rcases Bool.eq_false_or_eq_true s.toList.isEmpty with hE | hE
  · exact law_empty n c s w hn0 hn1 hc0 hc1 hs hE _ (hide rfl) hC
  · exact law_more n c s w hn0 hn1 hc0 hc1 hs hE _ (hide rfl) _ (hide rfl) hC
end Go.Proofs.Qxb6605483a
