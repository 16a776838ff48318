/-
  Plain facts on UTF-8's widths, on the characters' places in a string, and on a cut after so many characters. No Go text.
-/
import Derived.Laws.RangeAny
import Derived.Lib.Strings
namespace Go.Proofs.Qxb6605535a.Pl
set_option linter.unusedVariables false

/-- the width of the character at i, as the model of Go decodes it -/
def wd (s : ByteArray) (i : Nat) : Nat := (Utf8.decode s i).2
/-- a continuation byte -/
def contB (c : Int) : Bool := decide (128 ≤ c ∧ c ≤ 191)
/-- the byte at k (0 beyond the end) -/
def by8 (s : ByteArray) (k : Nat) : Nat := (s.get! k).toNat
theorem by8_lt (s : ByteArray) (k : Nat) : by8 s k < 256 := (s.get! k).toNat_lt
theorem by8_of (s : ByteArray) (k : Nat) (h : k < s.size) : by8 s k = (s[k]'h).toNat := by
  unfold by8
  simp [ByteArray.get!, getElem!_pos, h]
  rfl

/-- the width off four bytes and three flags (is there such a byte, and is it a continuation?) -/
def wdB (b0 b1 b2 b3 : Nat) (c1 c2 c3 : Bool) : Nat :=
  if b0 < 0x80 then 1
  else if b0 / 32 == 6 && c1 then (if (b0 % 32) * 64 + b1 % 64 ≥ 0x80 then 2 else 1)
  else if b0 / 16 == 14 && c1 && c2 then
    (if ((b0 % 16) * 4096 + (b1 % 64) * 64 + b2 % 64 ≥ 0x800 && Utf8.valid ((b0 % 16) * 4096 + (b1 % 64) * 64 + b2 % 64 : Nat)) then 3 else 1)
  else if b0 / 8 == 30 && c1 && c2 && c3 then
    (if ((b0 % 8) * 262144 + (b1 % 64) * 4096 + (b2 % 64) * 64 + b3 % 64 ≥ 0x10000 && Utf8.valid ((b0 % 8) * 262144 + (b1 % 64) * 4096 + (b2 % 64) * 64 + b3 % 64 : Nat)) then 4 else 1)
  else 1

/-- is byte k there, and is it a continuation? -/
def flag (s : ByteArray) (k : Nat) : Bool := decide (k < s.size) && by8 s k / 64 == 2
theorem wd_wdB (s : ByteArray) (i : Nat) : wd s i = wdB (by8 s i) (by8 s (i + 1)) (by8 s (i + 2)) (by8 s (i + 3)) (flag s (i + 1)) (flag s (i + 2)) (flag s (i + 3)) := by
  unfold wd Utf8.decode wdB flag by8
  simp only [Nat.add_zero]
  repeat' split
  all_goals first | rfl | contradiction

/-- the width as the law's own table has it -/
def tbl (b0 b1 : Nat) (c1 c2 c3 : Bool) : Nat :=
  if b0 < 128 then 1
  else if 194 ≤ b0 ∧ b0 ≤ 223 then (if c1 then 2 else 1)
  else if b0 = 224 then (if c1 && decide (160 ≤ b1) && c2 then 3 else 1)
  else if b0 = 237 then (if c1 && decide (b1 ≤ 159) && c2 then 3 else 1)
  else if 225 ≤ b0 ∧ b0 ≤ 239 then (if c1 && c2 then 3 else 1)
  else if b0 = 240 then (if c1 && decide (144 ≤ b1) && c2 && c3 then 4 else 1)
  else if 241 ≤ b0 ∧ b0 ≤ 243 then (if c1 && c2 && c3 then 4 else 1)
  else if b0 = 244 then (if c1 && decide (b1 ≤ 143) && c2 && c3 then 4 else 1)
  else 1

theorem tbl_two {b0 b1 : Nat} {c1 c2 c3 : Bool} (h : 194 ≤ b0 ∧ b0 ≤ 223) : tbl b0 b1 c1 c2 c3 = if c1 then 2 else 1 := by
  unfold tbl; rw [if_neg (by omega), if_pos h]
theorem tbl_e0 {b1 : Nat} {c1 c2 c3 : Bool} : tbl 224 b1 c1 c2 c3 = if c1 && decide (160 ≤ b1) && c2 then 3 else 1 := rfl
theorem tbl_ed {b1 : Nat} {c1 c2 c3 : Bool} : tbl 237 b1 c1 c2 c3 = if c1 && decide (b1 ≤ 159) && c2 then 3 else 1 := rfl
theorem tbl_e {b0 b1 : Nat} {c1 c2 c3 : Bool} (h : 225 ≤ b0 ∧ b0 ≤ 239) (hd : b0 ≠ 237) : tbl b0 b1 c1 c2 c3 = if c1 && c2 then 3 else 1 := by
  unfold tbl; rw [if_neg (by omega), if_neg (by omega), if_neg (by omega), if_neg hd, if_pos h]
theorem tbl_f0 {b1 : Nat} {c1 c2 c3 : Bool} : tbl 240 b1 c1 c2 c3 = if c1 && decide (144 ≤ b1) && c2 && c3 then 4 else 1 := rfl
theorem tbl_f {b0 b1 : Nat} {c1 c2 c3 : Bool} (h : 241 ≤ b0 ∧ b0 ≤ 243) : tbl b0 b1 c1 c2 c3 = if c1 && c2 && c3 then 4 else 1 := by
  unfold tbl; rw [if_neg (by omega), if_neg (by omega), if_neg (by omega), if_neg (by omega), if_neg (by omega), if_neg (by omega), if_pos h]
theorem tbl_f4 {b1 : Nat} {c1 c2 c3 : Bool} : tbl 244 b1 c1 c2 c3 = if c1 && decide (b1 ≤ 143) && c2 && c3 then 4 else 1 := rfl
theorem tbl_one {b0 b1 : Nat} {c1 c2 c3 : Bool} (h : b0 < 194 ∨ 245 ≤ b0) : tbl b0 b1 c1 c2 c3 = 1 := by
  unfold tbl
  by_cases h1 : b0 < 128
  · rw [if_pos h1]
  · rw [if_neg h1, if_neg (by omega), if_neg (by omega), if_neg (by omega), if_neg (by omega), if_neg (by omega), if_neg (by omega), if_neg (by omega)]

theorem wdB_lo {b0 b1 b2 b3 : Nat} {c1 c2 c3 : Bool} (h : b0 < 128) : wdB b0 b1 b2 b3 c1 c2 c3 = 1 := by unfold wdB; rw [if_pos h]
theorem wdB_two {b0 b1 b2 b3 : Nat} {c1 c2 c3 : Bool} (h : 192 ≤ b0 ∧ b0 ≤ 223) (h1 : c1 = true → 128 ≤ b1 ∧ b1 ≤ 191) : wdB b0 b1 b2 b3 c1 c2 c3 = if c1 && decide (194 ≤ b0) then 2 else 1 := by
  unfold wdB
  have e1 : (b0 / 32 == 6) = true := by simp; omega
  have e2 : (b0 / 16 == 14) = false := by simp; omega
  have e3 : (b0 / 8 == 30) = false := by simp; omega
  rw [if_neg (by omega), e1, e2, e3]
  cases c1
  · simp
  · have := h1 rfl
    simp only [Bool.and_self, Bool.true_and, if_true, decide_eq_true_eq]
    by_cases h2 : 194 ≤ b0
    · rw [if_pos h2, if_pos (by omega)]
    · rw [if_neg h2, if_neg (by omega)]
theorem valid_of {c : Nat} : Utf8.valid (c : Int) = decide (c < 55296 ∨ (57344 ≤ c ∧ c ≤ 1114111)) := by
  unfold Utf8.valid
  rw [Bool.eq_iff_iff]
  simp
  omega
theorem wdB_three {b0 b1 b2 b3 : Nat} {c1 c2 c3 : Bool} (h : 224 ≤ b0 ∧ b0 ≤ 239) (h1 : c1 = true → 128 ≤ b1 ∧ b1 ≤ 191) (h2 : c2 = true → 128 ≤ b2 ∧ b2 ≤ 191) :
    wdB b0 b1 b2 b3 c1 c2 c3 = if c1 && c2 && decide (b0 = 224 → 160 ≤ b1) && decide (b0 = 237 → b1 ≤ 159) then 3 else 1 := by
  unfold wdB
  have e1 : (b0 / 32 == 6) = false := by simp; omega
  have e2 : (b0 / 16 == 14) = true := by simp; omega
  have e3 : (b0 / 8 == 30) = false := by simp; omega
  rw [if_neg (by omega), e1, e2, e3, valid_of]
  cases c1
  · simp
  · cases c2
    · simp
    · have := h1 rfl
      have := h2 rfl
      simp only [Bool.and_self, Bool.true_and, if_true, Bool.false_and, Bool.and_eq_true, decide_eq_true_eq]
      by_cases h3 : (b0 = 224 → 160 ≤ b1) ∧ (b0 = 237 → b1 ≤ 159)
      · rw [if_pos h3, if_neg (by simp), if_pos (by omega)]
      · rw [if_neg h3, if_neg (by simp), if_neg (by omega)]
theorem wdB_four {b0 b1 b2 b3 : Nat} {c1 c2 c3 : Bool} (h : 240 ≤ b0 ∧ b0 ≤ 247) (h1 : c1 = true → 128 ≤ b1 ∧ b1 ≤ 191) (h2 : c2 = true → 128 ≤ b2 ∧ b2 ≤ 191) (h3 : c3 = true → 128 ≤ b3 ∧ b3 ≤ 191) :
    wdB b0 b1 b2 b3 c1 c2 c3 = if c1 && c2 && c3 && decide ((b0 = 240 → 144 ≤ b1) ∧ (b0 = 244 → b1 ≤ 143) ∧ b0 ≤ 244) then 4 else 1 := by
  unfold wdB
  have e1 : (b0 / 32 == 6) = false := by simp; omega
  have e2 : (b0 / 16 == 14) = false := by simp; omega
  have e3 : (b0 / 8 == 30) = true := by simp; omega
  rw [if_neg (by omega), e1, e2, e3, valid_of, valid_of]
  cases c1
  · simp
  · cases c2
    · simp
    · cases c3
      · simp
      · have := h1 rfl
        have := h2 rfl
        have := h3 rfl
        simp only [Bool.and_self, Bool.true_and, if_true, Bool.false_and, Bool.and_eq_true, decide_eq_true_eq]
        by_cases h3 : (b0 = 240 → 144 ≤ b1) ∧ (b0 = 244 → b1 ≤ 143) ∧ b0 ≤ 244
        · rw [if_pos h3, if_neg (by simp), if_neg (by simp), if_pos (by omega)]
        · rw [if_neg h3, if_neg (by simp), if_neg (by simp), if_neg (by omega)]
theorem wdB_hi {b0 b1 b2 b3 : Nat} {c1 c2 c3 : Bool} (h : (128 ≤ b0 ∧ b0 < 192) ∨ 248 ≤ b0) (h0 : b0 < 256) : wdB b0 b1 b2 b3 c1 c2 c3 = 1 := by
  unfold wdB
  have e1 : (b0 / 32 == 6) = false := by simp; omega
  have e2 : (b0 / 16 == 14) = false := by simp; omega
  have e3 : (b0 / 8 == 30) = false := by simp; omega
  rw [if_neg (by omega), e1, e2, e3]
  simp

theorem wdB_tbl (b0 b1 b2 b3 : Nat) (c1 c2 c3 : Bool) (h0 : b0 < 256) (h1 : c1 = true → 128 ≤ b1 ∧ b1 ≤ 191) (h2 : c2 = true → 128 ≤ b2 ∧ b2 ≤ 191) (h3 : c3 = true → 128 ≤ b3 ∧ b3 ≤ 191) :
    wdB b0 b1 b2 b3 c1 c2 c3 = tbl b0 b1 c1 c2 c3 := by
  by_cases g1 : b0 < 128
  · rw [wdB_lo g1, tbl_one (by omega)]
  by_cases g2 : b0 < 192 ∨ 248 ≤ b0
  · rw [wdB_hi (by omega) h0, tbl_one (by omega)]
  by_cases g3 : b0 ≤ 223
  · rw [wdB_two (by omega) h1]
    by_cases g4 : 194 ≤ b0
    · rw [tbl_two ⟨g4, g3⟩]; simp [g4]
    · rw [tbl_one (by omega)]; simp [g4]
  by_cases g5 : b0 ≤ 239
  · rw [wdB_three (by omega) h1 h2]
    by_cases g6 : b0 = 224
    · subst g6; rw [tbl_e0]; cases c1 <;> cases c2 <;> simp
    by_cases g7 : b0 = 237
    · subst g7; rw [tbl_ed]; cases c1 <;> cases c2 <;> simp
    rw [tbl_e (by omega) g7]
    cases c1 <;> cases c2 <;> simp [g6, g7]
  rw [wdB_four (by omega) h1 h2 h3]
  by_cases g6 : b0 = 240
  · subst g6; rw [tbl_f0]; cases c1 <;> cases c2 <;> cases c3 <;> simp
  by_cases g7 : b0 = 244
  · subst g7; rw [tbl_f4]; cases c1 <;> cases c2 <;> cases c3 <;> simp
  by_cases g8 : b0 ≤ 243
  · rw [tbl_f (by omega)]; cases c1 <;> cases c2 <;> cases c3 <;> simp [g6, g7]; omega
  · rw [tbl_one (by omega)]; cases c1 <;> cases c2 <;> cases c3 <;> simp [g6, g7]; omega

theorem flag_bd {s : ByteArray} {k : Nat} (h : flag s k = true) : 128 ≤ by8 s k ∧ by8 s k ≤ 191 := by
  unfold flag at h
  simp at h
  omega
theorem wd_tbl (s : ByteArray) (i : Nat) : wd s i = tbl (by8 s i) (by8 s (i + 1)) (flag s (i + 1)) (flag s (i + 2)) (flag s (i + 3)) := by
  rw [wd_wdB]; exact wdB_tbl _ _ _ _ _ _ _ (by8_lt _ _) flag_bd flag_bd flag_bd
theorem flag_of {s : ByteArray} {k : Nat} (h : k < s.size) : flag s k = contB (by8 s k) := by
  unfold flag contB
  rw [Bool.eq_iff_iff]
  simp [h]
  omega
theorem flag_no {s : ByteArray} {k : Nat} (h : ¬ k < s.size) : flag s k = false := by
  unfold flag; simp [h]

theorem W_two (s : ByteArray) (i : Nat) (hn : i + 1 < s.size) (h : (194 ≤ (by8 s i : Int) ∧ (by8 s i : Int) ≤ 223)) : (wd s i : Int) = if (contB (by8 s (i + 1) : Int) = true) then 2 else 1 := by
  rw [wd_tbl, tbl_two (by omega)]
  rw [flag_of (show i + 1 < s.size by omega)]
  unfold contB
  split <;> first | rfl | (split <;> first | rfl | (simp_all; done) | (simp_all; omega))
theorem W_two_no (s : ByteArray) (i : Nat) (hn : ¬ i + 1 < s.size) (h : (194 ≤ (by8 s i : Int) ∧ (by8 s i : Int) ≤ 223)) : (wd s i : Int) = 1 := by
  rw [wd_tbl, tbl_two (by omega)]
  rw [flag_no hn]
  simp

theorem W_e0 (s : ByteArray) (i : Nat) (hn : i + 2 < s.size) (h : ((by8 s i : Int) = 224)) : (wd s i : Int) = if (160 ≤ (by8 s (i + 1) : Int) ∧ (by8 s (i + 1) : Int) ≤ 191 ∧ contB (by8 s (i + 2) : Int) = true) then 3 else 1 := by
  rw [wd_tbl, show by8 s i = 224 by omega, tbl_e0]
  rw [flag_of (show i + 1 < s.size by omega), flag_of (show i + 2 < s.size by omega)]
  unfold contB
  split <;> first | rfl | (split <;> first | rfl | (simp_all; done) | (simp_all; omega))
theorem W_e0_no (s : ByteArray) (i : Nat) (hn : ¬ i + 2 < s.size) (h : ((by8 s i : Int) = 224)) : (wd s i : Int) = 1 := by
  rw [wd_tbl, show by8 s i = 224 by omega, tbl_e0]
  rw [flag_no hn]
  simp

theorem W_e (s : ByteArray) (i : Nat) (hn : i + 2 < s.size) (h : ((225 ≤ (by8 s i : Int) ∧ (by8 s i : Int) ≤ 236) ∨ (by8 s i : Int) = 238 ∨ (by8 s i : Int) = 239)) : (wd s i : Int) = if (contB (by8 s (i + 1) : Int) = true ∧ contB (by8 s (i + 2) : Int) = true) then 3 else 1 := by
  rw [wd_tbl, tbl_e (by omega) (by omega)]
  rw [flag_of (show i + 1 < s.size by omega), flag_of (show i + 2 < s.size by omega)]
  unfold contB
  split <;> first | rfl | (split <;> first | rfl | (simp_all; done) | (simp_all; omega))
theorem W_e_no (s : ByteArray) (i : Nat) (hn : ¬ i + 2 < s.size) (h : ((225 ≤ (by8 s i : Int) ∧ (by8 s i : Int) ≤ 236) ∨ (by8 s i : Int) = 238 ∨ (by8 s i : Int) = 239)) : (wd s i : Int) = 1 := by
  rw [wd_tbl, tbl_e (by omega) (by omega)]
  rw [flag_no hn]
  simp

theorem W_ed (s : ByteArray) (i : Nat) (hn : i + 2 < s.size) (h : ((by8 s i : Int) = 237)) : (wd s i : Int) = if (128 ≤ (by8 s (i + 1) : Int) ∧ (by8 s (i + 1) : Int) ≤ 159 ∧ contB (by8 s (i + 2) : Int) = true) then 3 else 1 := by
  rw [wd_tbl, show by8 s i = 237 by omega, tbl_ed]
  rw [flag_of (show i + 1 < s.size by omega), flag_of (show i + 2 < s.size by omega)]
  unfold contB
  split <;> first | rfl | (split <;> first | rfl | (simp_all; done) | (simp_all; omega))
theorem W_ed_no (s : ByteArray) (i : Nat) (hn : ¬ i + 2 < s.size) (h : ((by8 s i : Int) = 237)) : (wd s i : Int) = 1 := by
  rw [wd_tbl, show by8 s i = 237 by omega, tbl_ed]
  rw [flag_no hn]
  simp

theorem W_f0 (s : ByteArray) (i : Nat) (hn : i + 3 < s.size) (h : ((by8 s i : Int) = 240)) : (wd s i : Int) = if (144 ≤ (by8 s (i + 1) : Int) ∧ (by8 s (i + 1) : Int) ≤ 191 ∧ contB (by8 s (i + 2) : Int) = true ∧ contB (by8 s (i + 3) : Int) = true) then 4 else 1 := by
  rw [wd_tbl, show by8 s i = 240 by omega, tbl_f0]
  rw [flag_of (show i + 1 < s.size by omega), flag_of (show i + 2 < s.size by omega), flag_of (show i + 3 < s.size by omega)]
  unfold contB
  split <;> first | rfl | (split <;> first | rfl | (simp_all; done) | (simp_all; omega))
theorem W_f0_no (s : ByteArray) (i : Nat) (hn : ¬ i + 3 < s.size) (h : ((by8 s i : Int) = 240)) : (wd s i : Int) = 1 := by
  rw [wd_tbl, show by8 s i = 240 by omega, tbl_f0]
  rw [flag_no hn]
  simp

theorem W_f (s : ByteArray) (i : Nat) (hn : i + 3 < s.size) (h : (241 ≤ (by8 s i : Int) ∧ (by8 s i : Int) ≤ 243)) : (wd s i : Int) = if (contB (by8 s (i + 1) : Int) = true ∧ contB (by8 s (i + 2) : Int) = true ∧ contB (by8 s (i + 3) : Int) = true) then 4 else 1 := by
  rw [wd_tbl, tbl_f (by omega)]
  rw [flag_of (show i + 1 < s.size by omega), flag_of (show i + 2 < s.size by omega), flag_of (show i + 3 < s.size by omega)]
  unfold contB
  split <;> first | rfl | (split <;> first | rfl | (simp_all; done) | (simp_all; omega))
theorem W_f_no (s : ByteArray) (i : Nat) (hn : ¬ i + 3 < s.size) (h : (241 ≤ (by8 s i : Int) ∧ (by8 s i : Int) ≤ 243)) : (wd s i : Int) = 1 := by
  rw [wd_tbl, tbl_f (by omega)]
  rw [flag_no hn]
  simp

theorem W_f4 (s : ByteArray) (i : Nat) (hn : i + 3 < s.size) (h : ((by8 s i : Int) = 244)) : (wd s i : Int) = if (128 ≤ (by8 s (i + 1) : Int) ∧ (by8 s (i + 1) : Int) ≤ 143 ∧ contB (by8 s (i + 2) : Int) = true ∧ contB (by8 s (i + 3) : Int) = true) then 4 else 1 := by
  rw [wd_tbl, show by8 s i = 244 by omega, tbl_f4]
  rw [flag_of (show i + 1 < s.size by omega), flag_of (show i + 2 < s.size by omega), flag_of (show i + 3 < s.size by omega)]
  unfold contB
  split <;> first | rfl | (split <;> first | rfl | (simp_all; done) | (simp_all; omega))
theorem W_f4_no (s : ByteArray) (i : Nat) (hn : ¬ i + 3 < s.size) (h : ((by8 s i : Int) = 244)) : (wd s i : Int) = 1 := by
  rw [wd_tbl, show by8 s i = 244 by omega, tbl_f4]
  rw [flag_no hn]
  simp

theorem W_one (s : ByteArray) (i : Nat) (h : (by8 s i : Int) < 194 ∨ 245 ≤ (by8 s i : Int)) : (wd s i : Int) = 1 := by
  rw [wd_tbl, tbl_one (by omega)]; rfl

end Go.Proofs.Qxb6605535a.Pl
