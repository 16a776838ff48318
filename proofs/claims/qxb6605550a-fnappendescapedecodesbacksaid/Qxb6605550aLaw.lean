import Derived.Test.Qxb6605550aLong
namespace Go.Proofs.Qxb6605550a
open Go.RowKit
set_option linter.unusedVariables false

set_option maxHeartbeats 400000 in
theorem zz_short (base : Nat) (v : Value) (n : Nat) (zs : List Int) (r x : Int) (w : World) (hown : w.ownsRow base 5 1 v n (zs.map (Value.int .u8))) (hn : zs.length = n) (hbd : ∀ i, 0 ≤ zs.getD i 0 ∧ zs.getD i 0 ≤ 255) (h20 : n ≤ 1048576) (hbw : base ≤ w.heap.size) (hs : ShortOf r x) :
    Calls Try.prog 13 #[v, .int .i32 r] w fun e w' => ∃ v', e = .returned v' ∧ Out w' v' (zs ++ [92, x]) ∧ Below base w w' := by
  have H := esc_short base v n zs r x w hown hn hbd h20 hbw hs
  have HH := hide H
  clear H hs hbd hn
  go_enter Try.func13, Try.ntmps13
  go_wp2_with (go_at_call 24; refine HH.out.mono ?_; rintro e w' ⟨v', rfl, ho, hb⟩)
  go_ret
  exact ⟨_, rfl, ho, hb⟩

set_option maxHeartbeats 400000 in
theorem zz_long (base : Nat) (v : Value) (n : Nat) (zs : List Int) (r : Int) (w : World) (hown : w.ownsRow base 5 1 v n (zs.map (Value.int .u8))) (hn : zs.length = n) (hbd : ∀ i, 0 ≤ zs.getD i 0 ∧ zs.getD i 0 ≤ 255) (h20 : n ≤ 1048576) (hbw : base ≤ w.heap.size) (hs : NoShort r) :
    Calls Try.prog 13 #[v, .int .i32 r] w fun e w' => ∃ v', e = .returned v' ∧ Out w' v' (zs ++ Pl.long r) ∧ Below base w w' := by
  have H := esc_long base v n zs r w hown hn hbd h20 hbw hs
  have HH := hide H
  clear H hs hbd hn
  go_enter Try.func13, Try.ntmps13
  go_wp2_with (go_at_call 24; refine HH.out.mono ?_; rintro e w' ⟨v', rfl, ho, hb⟩)
  go_ret
  exact ⟨_, rfl, ho, hb⟩

set_option maxHeartbeats 400000 in
theorem decode_any (r x : Int) (w : World) (hs : ShortOf r x) : Calls Try.prog 15 #[.int .u8 x] w fun e w' => e = .returned (.tuple #[.int .i32 r, .bool true]) ∧ w' = w := by
  rcases hs with ⟨rfl, rfl⟩ | ⟨rfl, rfl⟩ | ⟨rfl, rfl⟩ | ⟨rfl, rfl⟩ | ⟨rfl, rfl⟩ | ⟨rfl, rfl⟩ | ⟨rfl, rfl⟩
  all_goals
    go_enter Try.func15, Try.ntmps15
    go_wp2
    go_ret2
    exact ⟨rfl, rfl⟩

/-- what an appended row reads: the old, then the new -/
theorem read_old {zs es : List Int} {k : Nat} (h : k < zs.length) : (zs ++ es).getD k 0 = zs.getD k 0 := by simp [List.getD, List.getElem?_append_left h]
theorem read_new {zs es : List Int} {n : Nat} (hn : zs.length = n) (j : Nat) : (zs ++ es).getD (n + j) 0 = es.getD j 0 := by
  subst hn
  simp [List.getD, List.getElem?_append_right (Nat.le_add_right zs.length j)]

set_option maxHeartbeats 2000000 in
set_option maxRecDepth 100000 in
theorem law_short (a : Option Addr) (len cap : Nat) (zs : List Int) (r x : Int) (w : World) (hr : Row w a len zs) (h20 : len ≤ 1048576) (hs : ShortOf r x) :
    Calls Try.prog 5 #[.slice a len cap, .int .i32 r] w fun e w' => e = .returned (.bool true) ∧ Below w.heap.size w w' := by
  have HS := hide hs
  have HL := hide hr.hlen
  have HB := hide hr.bd
  have hm : len ≤ maxLen := by unfold maxLen; omega
  have HLE : Hid ((zs ++ [92, x]).length = len + 2) := hide (by rw [List.length_append, HL.out]; rfl)
  obtain ⟨xx, hxx⟩ : ∃ xx, xx = x := ⟨_, rfl⟩
  rw [← hxx] at HS HLE
  have HXX := hide hxx
  clear hxx
  rcases hs with ⟨rfl, _⟩ | ⟨rfl, _⟩ | ⟨rfl, _⟩ | ⟨rfl, _⟩ | ⟨rfl, _⟩ | ⟨rfl, _⟩ | ⟨rfl, _⟩
  all_goals
    go_enter Try.func5, Try.ntmps5
    go_wp2_with (go_at_call 14; refine (bytes_any _ _ _ _ _ hm).mono ?_; rintro e w' ⟨⟨b, rfl⟩, rfl⟩)
    · go_ret
      exact ⟨rfl, Below.refl _ _⟩
    refine (clone_any a len cap zs _ hr h20).mono ?_
    rintro e w1 ⟨v1, rfl, hc1, b1⟩
    obtain ⟨⟨a1, cap1, rfl, r1⟩, o1⟩ := hc1
    clear o1
    go_wp2_with fail
    refine (clone_any a1 len cap1 zs _ r1 h20).mono ?_
    rintro e w2 ⟨v2, rfl, hc2, b2⟩
    have o2 := hc2.owns
    clear hc2
    go_wp2_with fail
    refine (zz_short w1.heap.size v2 len zs _ _ _ o2 HL.out HB.out h20 b2.size HS.out).mono ?_
    rintro e w3 ⟨v3, rfl, ho, b3⟩
    obtain ⟨g, cp, hv, r3⟩ := ho
    rw [HLE.out] at hv r3
    subst hv
    have rd := r1.below (b2.trans b3)
    have BT := hide (b1.trans ((b2.trans b3).mono b1.size))
    obtain ⟨gg, oo, e3, hg3, hc3⟩ := r3.mem (by omega)
    cases e3
    have HC3 := hide hc3
    clear o2 hc3 r3 r1 b1 b2 b3 hr
    go_wp2
    go_loopw [8] (fun i wr => ∃ k : Nat, k ≤ len ∧ i = .int .i64 k ∧ Below w3.heap.size w3 wr) (fun i _ => len - (intOf i).toNat)
    case atStart => exact ⟨0, Nat.zero_le _, rfl, Below.refl _ _⟩
    case round =>
      obtain ⟨k, hk, rfl, hbel⟩ := hrel
      have hcell : ∀ i, i < len + 2 → wr.cell? ⟨g, i, none⟩ = some (.int .u8 ((zs ++ [92, xx]).getD i 0)) := fun i hi => (hbel.cell (p := ⟨g, i, none⟩) hg3).trans (by have := HC3.out i hi; rwa [Nat.zero_add] at this)
      have HCELL := hide hcell
      clear hcell
      by_cases hlt : k < len
      · obtain ⟨bd, od, rfl, hbd, hcd⟩ := (rd.below hbel).mem (by omega)
        have hck := hcd k hlt
        have hok := HCELL.out k (by omega)
        rw [read_old (by rw [HL.out]; exact hlt)] at hok
        generalize zs.getD k 0 = c at hck hok
        have hki : (k : Int) < (len : Int) := by omega
        have hki2 : (k : Int) < (len : Int) + 2 := by omega
        clear hcd
        go_wp2
        go_quiet (fail)
        go_wp2
        go_roundw
        case rel => exact ⟨k + 1, by omega, by go_num, below_drews hbel _⟩
        case measure => simp [intOf]; omega
      · have e0 := HCELL.out len (by omega)
        have e1 := HCELL.out (len + 1) (by omega)
        rw [show len = len + 0 from rfl, read_new HL.out] at e0
        rw [read_new HL.out] at e1
        simp only [List.getD_cons_zero, List.getD_cons_succ, Nat.add_zero] at e0 e1
        go_wp2_with (go_at_call 15; refine (decode_any _ _ _ HS.out).mono ?_; rintro e w5 ⟨rfl, hw⟩; subst hw)
        go_ret
        exact ⟨ret_bool (by simp), BT.out.trans (hbel.mono BT.out.size)⟩
end Go.Proofs.Qxb6605550a
