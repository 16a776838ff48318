import Derived.Test.Qxb6605416aWalks2
namespace Go.Proofs.Qxb6605416a
open Go.RowKit
set_option linter.unusedVariables false

/-- WHAT STANDS BEHIND THE COPIES: what each call answers. -/
theorem said_low {y : List Int} (h : ∀ i, 0 ≤ y.getD i 0 ∧ y.getD i 0 ≤ 255) : Pl.isB y (Pl.bi (strOfNums (y.map Pl.low))) = true := by
  rw [bi_strOfNums (bd_map Pl.low_bd h)]; exact Pl.isB_low y
theorem said_self {y : List Int} (h : ∀ i, 0 ≤ y.getD i 0 ∧ y.getD i 0 ≤ 255) : Pl.isB y (Pl.bi (strOfNums y)) = !Pl.hasUp y := by
  rw [bi_strOfNums h]; exact Pl.isB_self y

theorem Row.of_map {w0 w : World} {a : Option Addr} {len g : Nat} {zs : List Int} {f : Int → Int} (hr : Row w0 a len zs) (hf : ∀ c, 0 ≤ c → c ≤ 255 → 0 ≤ f c ∧ f c ≤ 255) (h : Blk w g 5 ((zs.map f).map (Value.int .u8))) : Row w (some ⟨g, 0, none⟩) len (zs.map f) :=
  Row.of_blk h (by rw [List.length_map, hr.hlen]) (bd_map hf hr.bd)


set_option maxHeartbeats 1000000 in
theorem law2_nn (len0 cap0 : Nat) (y0 : List Int) (len1 cap1 : Nat) (y1 : List Int) (a2 : ByteArray) (w : World) (m0 : len0 ≤ maxLen) (m1 : len1 ≤ maxLen) (w2 : a2.size ≤ maxLen)
    (r0 : Row w none len0 y0) (r1 : Row w none len1 y1) (R U : Bool) (HR : Hid (Pl.isB y0 (Pl.bi a2) = R)) (HU : Hid (Pl.hasUp (Pl.bi a2) = U)) (hUR : U = false ∨ R = false) :
    Calls Try.prog 6 #[.slice none len0 cap0, .slice none len1 cap1, .string a2] w fun e w' => e = .returned (.bool true) ∧ Below w.heap.size w w' := by
  have n0 := m0
  have n1 := m1
  have n2 := w2
  unfold maxLen at n0 n1 n2
  rcases Bool.eq_false_or_eq_true U with hU | hU <;> rcases Bool.eq_false_or_eq_true R with hR | hR <;> subst hU <;> subst hR
  · exact absurd hUR (by decide)
  all_goals
    clear hUR
    go_enter Try.func6, Try.ntmps6
    go_wp2_with (first
      | (go_at_call 17; refine (bytes_any' _ _ _ _ _ _ _ _ m0 m1 w2).mono ?_; rintro e w' ⟨⟨b, rfl⟩, rfl⟩))
    iterate 4 (· go_ret; exact ⟨rfl, Below.refl _ _⟩)
    refine (lower_any _ _ _ y0 _ r0 m0 (by omega)).mono ?_
    rintro e w1 ⟨gl, rfl, hgl, kl, bl⟩
    have cvl := (r0.of_map Pl.low_bd kl).conv (cap := len0) (.inr ⟨_, _, rfl⟩)
    go_wp2_with fail
    refine (swap_any _ _ _ y0 _ (r0.below bl) m0 (by omega)).mono ?_
    rintro e w3 ⟨gs, rfl, hgs, ks, bs⟩
    have B3 := bl.trans (bs.mono bl.size)
    clear cvl
    go_wp2_with fail
    refine (zzis_any _ _ _ y0 _ _ _ _ _ (r0.below B3) w2 m0).mono ?_
    rintro e w4 ⟨he, b4⟩
    rw [HR.out] at he
    subst he
    have B4 := B3.trans (b4.mono B3.size)
    go_wp2_with fail
    refine (zzis_any _ _ _ y0 _ _ _ _ _ (r0.below B4) (by rw [strOfNums_size, List.length_map, r0.hlen]; exact m0) m0).mono ?_
    rintro e w5 ⟨he, b5⟩
    rw [said_low r0.bd] at he
    subst he
    have B5 := B4.trans (b5.mono B4.size)
    have C5 := b4.trans (b5.mono b4.size)
    go_wp2_with fail
    refine (zzis_any _ _ _ (y0.map Pl.swp) _ _ _ _ _ ((r0.of_map Pl.swp_bd ks).below C5) w2 m0).mono ?_
    rintro e w6 ⟨he, b6⟩
    rw [Pl.isB_swp, HR.out] at he
    subst he
    have B6 := B5.trans (b6.mono B5.size)
    go_wp2_with fail
    refine (upString_any _ _ w2).mono ?_
    rintro e w7 ⟨he, hw7⟩
    rw [HU.out] at he
    subst he
    subst hw7
    have cv2 := (r0.below B6).conv (cap := cap0) (.inl rfl)
    go_wp2_with fail
    refine (zzis_any _ _ _ y0 _ _ _ _ _ (r0.below B6) (by rw [strOfNums_size, r0.hlen]; exact m0) m0).mono ?_
    rintro e w8 ⟨he, b8⟩
    rw [said_self r0.bd] at he
    subst he
    have B8 := B6.trans (b8.mono B6.size)
    clear cv2
    go_wp2_with fail
    refine (upBytes_any _ _ _ y0 _ (r0.below B8) m0).mono ?_
    rintro e w9 ⟨he, hw9⟩
    subst he
    subst hw9
    go_wp2_with fail
    go_ret
    exact ⟨ret_bool (by simp), B8⟩

set_option maxHeartbeats 1000000 in
theorem law2_ns (x1 : Addr) (len0 cap0 : Nat) (y0 : List Int) (len1 cap1 : Nat) (y1 : List Int) (a2 : ByteArray) (w : World) (m0 : len0 ≤ maxLen) (m1 : len1 ≤ maxLen) (w2 : a2.size ≤ maxLen)
    (r0 : Row w none len0 y0) (r1 : Row w (some x1) len1 y1) (R U : Bool) (HR : Hid (Pl.isB y0 (Pl.bi a2) = R)) (HU : Hid (Pl.hasUp (Pl.bi a2) = U)) (hUR : U = false ∨ R = false) :
    Calls Try.prog 6 #[.slice none len0 cap0, .slice (some x1) len1 cap1, .string a2] w fun e w' => e = .returned (.bool true) ∧ Below w.heap.size w w' := by
  have n0 := m0
  have n1 := m1
  have n2 := w2
  unfold maxLen at n0 n1 n2
  rcases Bool.eq_false_or_eq_true U with hU | hU <;> rcases Bool.eq_false_or_eq_true R with hR | hR <;> subst hU <;> subst hR
  · exact absurd hUR (by decide)
  all_goals
    clear hUR
    go_enter Try.func6, Try.ntmps6
    go_wp2_with (first
      | (go_at_call 17; refine (bytes_any' _ _ _ _ _ _ _ _ m0 m1 w2).mono ?_; rintro e w' ⟨⟨b, rfl⟩, rfl⟩)
      | (at_make; refine wpList_mk _ rfl (.tmp 38) (.tmp 38) 22 rfl 5 (.int .u8 0) 1 Try.underlying22 info5 rfl .i64 .i64 len1 rfl rfl (by omega) (by omega) ?_; intro g1 v3 HG1 hk3 hb3)
      | (with_reducible show wpList _ _ _ (⟨_, Op.call ⟨Callee.builtin Builtin.copy, _, _⟩, _, _, _, _⟩ :: _) _ _; refine wpList_cp _ rfl (.tmp 40) (.tmp 41) 22 22 rfl 5 Try.underlying22 size5 g1 len1 cap1 _ rfl rfl (.int .u8 0) hk3 y1 (r1.below hb3) ?_; intro v4 hk4 hb4))
    iterate 4 (· go_ret; exact ⟨rfl, Below.refl _ _⟩)
    have hB1 := hb3.trans (hb4.mono (Nat.le_of_eq HG1.out.symm))
    have rA := r0.below hB1
    clear hk3 hk4
    refine (lower_any _ _ _ y0 _ rA m0 (by omega)).mono ?_
    rintro e w1 ⟨gl, rfl, hgl, kl, bl⟩
    have cvl := (rA.of_map Pl.low_bd kl).conv (cap := len0) (.inr ⟨_, _, rfl⟩)
    go_wp2_with fail
    refine (swap_any _ _ _ y0 _ (rA.below bl) m0 (by omega)).mono ?_
    rintro e w3 ⟨gs, rfl, hgs, ks, bs⟩
    have B3 := bl.trans (bs.mono bl.size)
    clear cvl
    go_wp2_with fail
    refine (zzis_any _ _ _ y0 _ _ _ _ _ (rA.below B3) w2 m0).mono ?_
    rintro e w4 ⟨he, b4⟩
    rw [HR.out] at he
    subst he
    have B4 := B3.trans (b4.mono B3.size)
    go_wp2_with fail
    refine (zzis_any _ _ _ y0 _ _ _ _ _ (rA.below B4) (by rw [strOfNums_size, List.length_map, rA.hlen]; exact m0) m0).mono ?_
    rintro e w5 ⟨he, b5⟩
    rw [said_low rA.bd] at he
    subst he
    have B5 := B4.trans (b5.mono B4.size)
    have C5 := b4.trans (b5.mono b4.size)
    go_wp2_with fail
    refine (zzis_any _ _ _ (y0.map Pl.swp) _ _ _ _ _ ((rA.of_map Pl.swp_bd ks).below C5) w2 m0).mono ?_
    rintro e w6 ⟨he, b6⟩
    rw [Pl.isB_swp, HR.out] at he
    subst he
    have B6 := B5.trans (b6.mono B5.size)
    go_wp2_with fail
    refine (upString_any _ _ w2).mono ?_
    rintro e w7 ⟨he, hw7⟩
    rw [HU.out] at he
    subst he
    subst hw7
    have cv2 := (rA.below B6).conv (cap := cap0) (.inl rfl)
    go_wp2_with fail
    refine (zzis_any _ _ _ y0 _ _ _ _ _ (rA.below B6) (by rw [strOfNums_size, rA.hlen]; exact m0) m0).mono ?_
    rintro e w8 ⟨he, b8⟩
    rw [said_self rA.bd] at he
    subst he
    have B8 := B6.trans (b8.mono B6.size)
    clear cv2
    go_wp2_with fail
    refine (upBytes_any _ _ _ y0 _ (rA.below B8) m0).mono ?_
    rintro e w9 ⟨he, hw9⟩
    subst he
    subst hw9
    go_wp2_with fail
    go_ret
    exact ⟨ret_bool (by simp), hB1.trans (B8.mono hB1.size)⟩

set_option maxHeartbeats 1000000 in
theorem law2_sn (x0 : Addr) (len0 cap0 : Nat) (y0 : List Int) (len1 cap1 : Nat) (y1 : List Int) (a2 : ByteArray) (w : World) (m0 : len0 ≤ maxLen) (m1 : len1 ≤ maxLen) (w2 : a2.size ≤ maxLen)
    (r0 : Row w (some x0) len0 y0) (r1 : Row w none len1 y1) (R U : Bool) (HR : Hid (Pl.isB y0 (Pl.bi a2) = R)) (HU : Hid (Pl.hasUp (Pl.bi a2) = U)) (hUR : U = false ∨ R = false) :
    Calls Try.prog 6 #[.slice (some x0) len0 cap0, .slice none len1 cap1, .string a2] w fun e w' => e = .returned (.bool true) ∧ Below w.heap.size w w' := by
  have n0 := m0
  have n1 := m1
  have n2 := w2
  unfold maxLen at n0 n1 n2
  rcases Bool.eq_false_or_eq_true U with hU | hU <;> rcases Bool.eq_false_or_eq_true R with hR | hR <;> subst hU <;> subst hR
  · exact absurd hUR (by decide)
  all_goals
    clear hUR
    go_enter Try.func6, Try.ntmps6
    go_wp2_with (first
      | (go_at_call 17; refine (bytes_any' _ _ _ _ _ _ _ _ m0 m1 w2).mono ?_; rintro e w' ⟨⟨b, rfl⟩, rfl⟩)
      | (at_make; refine wpList_mk _ rfl (.tmp 29) (.tmp 29) 22 rfl 5 (.int .u8 0) 1 Try.underlying22 info5 rfl .i64 .i64 len0 rfl rfl (by omega) (by omega) ?_; intro g0 v1 HG0 hk1 hb1)
      | (with_reducible show wpList _ _ _ (⟨_, Op.call ⟨Callee.builtin Builtin.copy, _, _⟩, _, _, _, _⟩ :: _) _ _; refine wpList_cp _ rfl (.tmp 31) (.tmp 32) 22 22 rfl 5 Try.underlying22 size5 g0 len0 cap0 _ rfl rfl (.int .u8 0) hk1 y0 (r0.below hb1) ?_; intro v2 hk2 hb2))
    iterate 4 (· go_ret; exact ⟨rfl, Below.refl _ _⟩)
    have hB0 := hb1.trans (hb2.mono (Nat.le_of_eq HG0.out.symm))
    have rA := Row.of_blk hk2 r0.hlen r0.bd
    clear hk1 hk2
    refine (lower_any _ _ _ y0 _ rA m0 (by omega)).mono ?_
    rintro e w1 ⟨gl, rfl, hgl, kl, bl⟩
    have cvl := (rA.of_map Pl.low_bd kl).conv (cap := len0) (.inr ⟨_, _, rfl⟩)
    go_wp2_with fail
    refine (swap_any _ _ _ y0 _ (rA.below bl) m0 (by omega)).mono ?_
    rintro e w3 ⟨gs, rfl, hgs, ks, bs⟩
    have B3 := bl.trans (bs.mono bl.size)
    clear cvl
    go_wp2_with fail
    refine (zzis_any _ _ _ y0 _ _ _ _ _ (rA.below B3) w2 m0).mono ?_
    rintro e w4 ⟨he, b4⟩
    rw [HR.out] at he
    subst he
    have B4 := B3.trans (b4.mono B3.size)
    go_wp2_with fail
    refine (zzis_any _ _ _ y0 _ _ _ _ _ (rA.below B4) (by rw [strOfNums_size, List.length_map, rA.hlen]; exact m0) m0).mono ?_
    rintro e w5 ⟨he, b5⟩
    rw [said_low rA.bd] at he
    subst he
    have B5 := B4.trans (b5.mono B4.size)
    have C5 := b4.trans (b5.mono b4.size)
    go_wp2_with fail
    refine (zzis_any _ _ _ (y0.map Pl.swp) _ _ _ _ _ ((rA.of_map Pl.swp_bd ks).below C5) w2 m0).mono ?_
    rintro e w6 ⟨he, b6⟩
    rw [Pl.isB_swp, HR.out] at he
    subst he
    have B6 := B5.trans (b6.mono B5.size)
    go_wp2_with fail
    refine (upString_any _ _ w2).mono ?_
    rintro e w7 ⟨he, hw7⟩
    rw [HU.out] at he
    subst he
    subst hw7
    have cv2 := (rA.below B6).conv (cap := len0) (.inr ⟨_, _, rfl⟩)
    go_wp2_with fail
    refine (zzis_any _ _ _ y0 _ _ _ _ _ (rA.below B6) (by rw [strOfNums_size, rA.hlen]; exact m0) m0).mono ?_
    rintro e w8 ⟨he, b8⟩
    rw [said_self rA.bd] at he
    subst he
    have B8 := B6.trans (b8.mono B6.size)
    clear cv2
    go_wp2_with fail
    refine (upBytes_any _ _ _ y0 _ (rA.below B8) m0).mono ?_
    rintro e w9 ⟨he, hw9⟩
    subst he
    subst hw9
    go_wp2_with fail
    go_ret
    exact ⟨ret_bool (by simp), hB0.trans (B8.mono hB0.size)⟩

set_option maxHeartbeats 1000000 in
theorem law2_ss (x0 x1 : Addr) (len0 cap0 : Nat) (y0 : List Int) (len1 cap1 : Nat) (y1 : List Int) (a2 : ByteArray) (w : World) (m0 : len0 ≤ maxLen) (m1 : len1 ≤ maxLen) (w2 : a2.size ≤ maxLen)
    (r0 : Row w (some x0) len0 y0) (r1 : Row w (some x1) len1 y1) (R U : Bool) (HR : Hid (Pl.isB y0 (Pl.bi a2) = R)) (HU : Hid (Pl.hasUp (Pl.bi a2) = U)) (hUR : U = false ∨ R = false) :
    Calls Try.prog 6 #[.slice (some x0) len0 cap0, .slice (some x1) len1 cap1, .string a2] w fun e w' => e = .returned (.bool true) ∧ Below w.heap.size w w' := by
  have n0 := m0
  have n1 := m1
  have n2 := w2
  unfold maxLen at n0 n1 n2
  rcases Bool.eq_false_or_eq_true U with hU | hU <;> rcases Bool.eq_false_or_eq_true R with hR | hR <;> subst hU <;> subst hR
  · exact absurd hUR (by decide)
  all_goals
    clear hUR
    go_enter Try.func6, Try.ntmps6
    go_wp2_with (first
      | (go_at_call 17; refine (bytes_any' _ _ _ _ _ _ _ _ m0 m1 w2).mono ?_; rintro e w' ⟨⟨b, rfl⟩, rfl⟩)
      | (at_make; refine wpList_mk _ rfl (.tmp 29) (.tmp 29) 22 rfl 5 (.int .u8 0) 1 Try.underlying22 info5 rfl .i64 .i64 len0 rfl rfl (by omega) (by omega) ?_; intro g0 v1 HG0 hk1 hb1)
      | (with_reducible show wpList _ _ _ (⟨_, Op.call ⟨Callee.builtin Builtin.copy, _, _⟩, _, _, _, _⟩ :: _) _ _; refine wpList_cp _ rfl (.tmp 31) (.tmp 32) 22 22 rfl 5 Try.underlying22 size5 g0 len0 cap0 _ rfl rfl (.int .u8 0) hk1 y0 (r0.below hb1) ?_; intro v2 hk2 hb2)
      | (at_make; refine wpList_mk _ rfl (.tmp 38) (.tmp 38) 22 rfl 5 (.int .u8 0) 1 Try.underlying22 info5 rfl .i64 .i64 len1 rfl rfl (by omega) (by omega) ?_; intro g1 v3 HG1 hk3 hb3)
      | (with_reducible show wpList _ _ _ (⟨_, Op.call ⟨Callee.builtin Builtin.copy, _, _⟩, _, _, _, _⟩ :: _) _ _; refine wpList_cp _ rfl (.tmp 40) (.tmp 41) 22 22 rfl 5 Try.underlying22 size5 g1 len1 cap1 _ rfl rfl (.int .u8 0) hk3 y1 ((r1.below (hb1.trans (hb2.mono (Nat.le_of_eq HG0.out.symm)))).below hb3) ?_; intro v4 hk4 hb4))
    iterate 4 (· go_ret; exact ⟨rfl, Below.refl _ _⟩)
    have hB0 := hb1.trans (hb2.mono (Nat.le_of_eq HG0.out.symm))
    have hB1 := hb3.trans (hb4.mono (Nat.le_of_eq HG1.out.symm))
    have hB2 := hB0.trans (hB1.mono hB0.size)
    have rA := (Row.of_blk hk2 r0.hlen r0.bd).below hB1
    clear hk1 hk2 hk3 hk4
    refine (lower_any _ _ _ y0 _ rA m0 (by omega)).mono ?_
    rintro e w1 ⟨gl, rfl, hgl, kl, bl⟩
    have cvl := (rA.of_map Pl.low_bd kl).conv (cap := len0) (.inr ⟨_, _, rfl⟩)
    go_wp2_with fail
    refine (swap_any _ _ _ y0 _ (rA.below bl) m0 (by omega)).mono ?_
    rintro e w3 ⟨gs, rfl, hgs, ks, bs⟩
    have B3 := bl.trans (bs.mono bl.size)
    clear cvl
    go_wp2_with fail
    refine (zzis_any _ _ _ y0 _ _ _ _ _ (rA.below B3) w2 m0).mono ?_
    rintro e w4 ⟨he, b4⟩
    rw [HR.out] at he
    subst he
    have B4 := B3.trans (b4.mono B3.size)
    go_wp2_with fail
    refine (zzis_any _ _ _ y0 _ _ _ _ _ (rA.below B4) (by rw [strOfNums_size, List.length_map, rA.hlen]; exact m0) m0).mono ?_
    rintro e w5 ⟨he, b5⟩
    rw [said_low rA.bd] at he
    subst he
    have B5 := B4.trans (b5.mono B4.size)
    have C5 := b4.trans (b5.mono b4.size)
    go_wp2_with fail
    refine (zzis_any _ _ _ (y0.map Pl.swp) _ _ _ _ _ ((rA.of_map Pl.swp_bd ks).below C5) w2 m0).mono ?_
    rintro e w6 ⟨he, b6⟩
    rw [Pl.isB_swp, HR.out] at he
    subst he
    have B6 := B5.trans (b6.mono B5.size)
    go_wp2_with fail
    refine (upString_any _ _ w2).mono ?_
    rintro e w7 ⟨he, hw7⟩
    rw [HU.out] at he
    subst he
    subst hw7
    have cv2 := (rA.below B6).conv (cap := len0) (.inr ⟨_, _, rfl⟩)
    go_wp2_with fail
    refine (zzis_any _ _ _ y0 _ _ _ _ _ (rA.below B6) (by rw [strOfNums_size, rA.hlen]; exact m0) m0).mono ?_
    rintro e w8 ⟨he, b8⟩
    rw [said_self rA.bd] at he
    subst he
    have B8 := B6.trans (b8.mono B6.size)
    clear cv2
    go_wp2_with fail
    refine (upBytes_any _ _ _ y0 _ (rA.below B8) m0).mono ?_
    rintro e w9 ⟨he, hw9⟩
    subst he
    subst hw9
    go_wp2_with fail
    go_ret
    exact ⟨ret_bool (by simp), hB2.trans (B8.mono hB2.size)⟩

theorem law2_any (a0 : Option Addr) (len0 cap0 : Nat) (y0 : List Int) (a1 : Option Addr) (len1 cap1 : Nat) (y1 : List Int) (a2 : ByteArray) (w : World) (m0 : len0 ≤ maxLen) (m1 : len1 ≤ maxLen) (w2 : a2.size ≤ maxLen)
    (r0 : Row w a0 len0 y0) (r1 : Row w a1 len1 y1) :
    Calls Try.prog 6 #[.slice a0 len0 cap0, .slice a1 len1 cap1, .string a2] w fun e w' => e = .returned (.bool true) ∧ Below w.heap.size w w' := by
  have hUR : Pl.hasUp (Pl.bi a2) = false ∨ Pl.isB y0 (Pl.bi a2) = false := by
    rcases Bool.eq_false_or_eq_true (Pl.hasUp (Pl.bi a2)) with h | h
    · exact .inr (Pl.isB_up _ _ h)
    · exact .inl h
  cases a0 with
  | none =>
    cases a1 with
    | none => exact law2_nn len0 cap0 y0 len1 cap1 y1 a2 w m0 m1 w2 r0 r1 _ _ (hide rfl) (hide rfl) hUR
    | some x1 => exact law2_ns x1 len0 cap0 y0 len1 cap1 y1 a2 w m0 m1 w2 r0 r1 _ _ (hide rfl) (hide rfl) hUR
  | some x0 =>
    cases a1 with
    | none => exact law2_sn x0 len0 cap0 y0 len1 cap1 y1 a2 w m0 m1 w2 r0 r1 _ _ (hide rfl) (hide rfl) hUR
    | some x1 => exact law2_ss x0 x1 len0 cap0 y0 len1 cap1 y1 a2 w m0 m1 w2 r0 r1 _ _ (hide rfl) (hide rfl) hUR

end Go.Proofs.Qxb6605416a
