import Derived.Test.Qxb6605550aLaw
namespace Go.Proofs.Qxb6605550a
open Go.RowKit
set_option linter.unusedVariables false

/-- the four-bit groups of r's low half, the highest first; and the value read so far -/
def nib (r : Int) : Nat → Int
  | 0 => r / 4096 % 16
  | 1 => r / 256 % 16
  | 2 => r / 16 % 16
  | _ => r % 16
def vl (r : Int) : Nat → Int
  | 0 => 0
  | j + 1 => vl r j * 16 + nib r j
theorem nib_bd (r : Int) (j : Nat) : 0 ≤ nib r j ∧ nib r j < 16 := by
  match j with
  | 0 => simp only [nib]; omega
  | 1 => simp only [nib]; omega
  | 2 => simp only [nib]; omega
  | n + 3 => simp only [nib]; omega
theorem vl_four (r : Int) : vl r 4 = r % 65536 := by
  simp only [vl, nib]; omega
theorem vl_bd (r : Int) (j : Nat) (h : j ≤ 4) : 0 ≤ vl r j ∧ vl r j ≤ 65535 := by
  match j, h with
  | 0, _ => simp [vl]
  | 1, _ => simp only [vl, nib]; omega
  | 2, _ => simp only [vl, nib]; omega
  | 3, _ => simp only [vl, nib]; omega
  | 4, _ => rw [vl_four]; omega
theorem long_at (r : Int) (j : Nat) (h : j < 4) : (Pl.long r).getD (2 + j) 0 = Pl.hx (nib r j) := by
  match j, h with
  | 0, _ => rfl
  | 1, _ => rfl
  | 2, _ => rfl
  | 3, _ => rfl

theorem fin_eq (r : Int) : (r % 65536 == wrap64 (bits .and .u32 (r % 4294967296) 65535)) = true := by
  have h := Pl.u32_and65535 r
  rw [IntKind.wrap_u32'] at h
  rw [h, beq_iff_eq]
  unfold wrap64
  omega

set_option maxHeartbeats 2000000 in
set_option maxRecDepth 100000 in
theorem law_long (a : Option Addr) (len cap : Nat) (zs : List Int) (r : Int) (w : World) (hr : Row w a len zs) (h20 : len ≤ 1048576) (hs : NoShort r) :
    Calls Try.prog 5 #[.slice a len cap, .int .i32 r] w fun e w' => e = .returned (.bool true) ∧ Below w.heap.size w w' := by
  have HS := hide hs
  have HL := hide hr.hlen
  have HB := hide hr.bd
  have hm : len ≤ maxLen := by unfold maxLen; omega
  have HLE : Hid ((zs ++ Pl.long r).length = len + 6) := hide (by rw [List.length_append, HL.out]; rfl)
  obtain ⟨q1, q2, q3, q4, q5, q6, q7⟩ := hs
  go_enter Try.func5, Try.ntmps5
  go_wp2_with (go_at_call 14; refine (bytes_any _ _ _ _ _ hm).mono ?_; rintro e w' ⟨⟨b, rfl⟩, rfl⟩)
  · go_ret
    exact ⟨rfl, Below.refl _ _⟩
  refine (clone_any a len cap zs _ hr h20).mono ?_
  rintro e w1 ⟨v1, rfl, hc1, b1⟩
  obtain ⟨⟨a1, cap1, rfl, r1⟩, o1⟩ := hc1
  clear o1
  go_wp2_with fail
  refine (clone_any a1 len cap1 zs _ r1 h20).mono ?_
  rintro e w2 ⟨v2, rfl, hc2, b2⟩
  have o2 := hc2.owns
  clear hc2
  go_wp2_with fail
  refine (zz_long w1.heap.size v2 len zs _ _ o2 HL.out HB.out h20 b2.size HS.out).mono ?_
  rintro e w3 ⟨v3, rfl, ho, b3⟩
  obtain ⟨g, cp, hv, r3⟩ := ho
  rw [HLE.out] at hv r3
  subst hv
  have rd := r1.below (b2.trans b3)
  have BT := hide (b1.trans ((b2.trans b3).mono b1.size))
  obtain ⟨gg, oo, e3, hg3, hc3⟩ := r3.mem (by omega)
  cases e3
  have HC3 := hide hc3
  clear o2 hc3 r3 r1 b1 b2 b3 hr
  go_wp2
  go_loopw [8] (fun i wr => ∃ k : Nat, k ≤ len ∧ i = .int .i64 k ∧ Below w3.heap.size w3 wr) (fun i _ => len - (intOf i).toNat)
  case atStart => exact ⟨0, Nat.zero_le _, rfl, Below.refl _ _⟩
  case round =>
    obtain ⟨k, hk, rfl, hbel⟩ := hrel
    have hcell : ∀ i, i < len + 6 → wr.cell? ⟨g, i, none⟩ = some (.int .u8 ((zs ++ Pl.long r).getD i 0)) := fun i hi => (hbel.cell (p := ⟨g, i, none⟩) hg3).trans (by have := HC3.out i hi; rwa [Nat.zero_add] at this)
    have HCELL := hide hcell
    clear hcell
    by_cases hlt : k < len
    · obtain ⟨bd, od, rfl, hbd, hcd⟩ := (rd.below hbel).mem (by omega)
      have hck := hcd k hlt
      have hok := HCELL.out k (by omega)
      rw [read_old (by rw [HL.out]; exact hlt)] at hok
      generalize zs.getD k 0 = c at hck hok
      have hki : (k : Int) < (len : Int) := by omega
      have hki2 : (k : Int) < (len : Int) + 6 := by omega
      clear hcd
      go_wp2
      go_quiet (fail)
      go_wp2
      go_roundw
      case rel => exact ⟨k + 1, by omega, by go_num, below_drews hbel _⟩
      case measure => simp [intOf]; omega
    · have e0 := HCELL.out len (by omega)
      have e1 := HCELL.out (len + 1) (by omega)
      rw [show len = len + 0 from rfl, read_new HL.out] at e0
      rw [read_new HL.out] at e1
      simp only [Pl.long, List.getD_cons_zero, List.getD_cons_succ, Nat.add_zero] at e0 e1
      have hcell2 : ∀ j, j < 4 → wr.cell? ⟨g, len + 2 + j, none⟩ = some (.int .u8 (Pl.hx (nib r j))) := fun j hj => by
        have := HCELL.out (len + 2 + j) (by omega)
        rw [Nat.add_assoc, read_new HL.out, long_at r j hj] at this
        rw [Nat.add_assoc]; exact this
      have HC2 := hide hcell2
      clear hcell2
      go_wp2
      go_loop [12, 13] (fun v i => ∃ j : Nat, j ≤ 4 ∧ i = .int .i64 ((len : Int) + 2 + (j : Int)) ∧ v = .int .i64 (vl r j)) (fun _ i => (((len : Int) + 6) - intOf i).toNat)
      case atStart => exact ⟨0, Nat.zero_le _, by simp, rfl⟩
      case round =>
        obtain ⟨j, hj, rfl, rfl⟩ := hrel
        have hvb := vl_bd r j hj
        by_cases hj4 : j < 4
        · have hcj := HC2.out j hj4
          have hnb := nib_bd r j
          have hxb := Pl.hx_bd _ hnb.1 hnb.2
          have HV := hide (Pl.hv_hx _ hnb.1 hnb.2)
          have HVN : Hid (vl r (j + 1) = vl r j * 16 + nib r j) := hide rfl
          go_wp2_with (go_at_call 16; refine (hex_any _ _ hxb.1 hxb.2).mono ?_; rintro e w5 ⟨he, hw⟩; subst hw; rw [HV.out] at he; subst he)
          go_round
          case rel => exact ⟨j + 1, by omega, by go_num, by rw [HVN.out]⟩
          case measure => simp [intOf]; omega
        · obtain rfl : j = 4 := by omega
          have HVF := hide (vl_four r)
          go_wp2
          go_ret
          refine ⟨ret_bool ?_, BT.out.trans (hbel.mono BT.out.size)⟩
          rw [HVF.out]
          exact fin_eq r

theorem law_big (a : Option Addr) (len cap : Nat) (r : Int) (w : World) (hm : len ≤ maxLen) (h20 : 1048576 < len) :
    Calls Try.prog 5 #[.slice a len cap, .int .i32 r] w fun e w' => e = .returned (.bool true) ∧ Below w.heap.size w w' := by
  have hm' := hm
  unfold maxLen at hm'
  go_enter Try.func5, Try.ntmps5
  go_wp2_with (go_at_call 14; refine (bytes_any _ _ _ _ _ hm).mono ?_; rintro e w' ⟨⟨b, rfl⟩, rfl⟩)
  all_goals (go_ret; exact ⟨rfl, Below.refl _ _⟩)

theorem law_any (a : Option Addr) (len cap : Nat) (zs : List Int) (r : Int) (w : World) (hr : Row w a len zs) (hm : len ≤ maxLen) :
    Calls Try.prog 5 #[.slice a len cap, .int .i32 r] w fun e w' => e = .returned (.bool true) ∧ Below w.heap.size w w' := by
  by_cases h20 : len ≤ 1048576
  · by_cases h1 : r = 34
    · exact law_short a len cap zs r 34 w hr h20 (.inl ⟨h1, rfl⟩)
    by_cases h2 : r = 92
    · exact law_short a len cap zs r 92 w hr h20 (.inr (.inl ⟨h2, rfl⟩))
    by_cases h3 : r = 8
    · exact law_short a len cap zs r 98 w hr h20 (.inr (.inr (.inl ⟨h3, rfl⟩)))
    by_cases h4 : r = 12
    · exact law_short a len cap zs r 102 w hr h20 (.inr (.inr (.inr (.inl ⟨h4, rfl⟩))))
    by_cases h5 : r = 10
    · exact law_short a len cap zs r 110 w hr h20 (.inr (.inr (.inr (.inr (.inl ⟨h5, rfl⟩)))))
    by_cases h6 : r = 13
    · exact law_short a len cap zs r 114 w hr h20 (.inr (.inr (.inr (.inr (.inr (.inl ⟨h6, rfl⟩))))))
    by_cases h7 : r = 9
    · exact law_short a len cap zs r 116 w hr h20 (.inr (.inr (.inr (.inr (.inr (.inr ⟨h7, rfl⟩))))))
    exact law_long a len cap zs r w hr h20 ⟨beq_eq_false_iff_ne.2 h1, beq_eq_false_iff_ne.2 h2, beq_eq_false_iff_ne.2 h3, beq_eq_false_iff_ne.2 h4, beq_eq_false_iff_ne.2 h5, beq_eq_false_iff_ne.2 h6, beq_eq_false_iff_ne.2 h7⟩
  · exact law_big a len cap r w hm (by omega)
end Go.Proofs.Qxb6605550a
