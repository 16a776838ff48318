/-
  Plain facts: four-bit groups of a 32-bit number, the hexadecimal digits, the escape of a rune.
-/
import Derived.Laws.BitsAllLaws
import Derived.WalkKit
namespace Go.Proofs.Qxb6605550a.Pl
set_option linter.unusedVariables false

theorem ofInt_toNat (x : Int) : (BitVec.ofInt 32 x).toNat = (x % 4294967296).toNat := by
  rw [BitVec.toNat_ofInt]; rfl
theorem i32_and15 (x : Int) : bits .and .i32 x 15 = x % 16 := by
  show IntKind.i32.wrap ((BitVec.ofInt 32 x &&& BitVec.ofInt 32 15).toNat : Int) = _
  rw [BitVec.toNat_and, ofInt_toNat, show (BitVec.ofInt 32 15).toNat = 15 from rfl, nat_mask4]
  simp [IntKind.wrap, IntKind.bits, IntKind.signed]
  omega
theorem u32_and65535 (x : Int) : bits .and .u32 (IntKind.u32.wrap x) 65535 = x % 65536 := by
  rw [IntKind.wrap_u32', u32_and _ _ (by omega) (by omega) (by omega) (by omega)]
  rw [show (65535 : Int).toNat = 65535 from rfl, show (65535 : Nat) = 2 ^ 16 - 1 from rfl, Nat.and_two_pow_sub_one_eq_mod]
  omega

/-- the lower-case hexadecimal digit of k -/
def hx (k : Int) : Int := if k < 10 then 48 + k else 87 + k
theorem hx_bd (k : Int) (h0 : 0 ≤ k) (h1 : k < 16) : 0 ≤ hx k ∧ hx k ≤ 255 := by unfold hx; split <;> omega
/-- the value of a hexadecimal digit -/
def hv (c : Int) : Int := if 48 ≤ c ∧ c ≤ 57 then c - 48 else if 97 ≤ c ∧ c ≤ 102 then c - 87 else -1
theorem hv_hx (k : Int) (h0 : 0 ≤ k) (h1 : k < 16) : hv (hx k) = k := by
  unfold hv hx
  by_cases h : k < 10
  · rw [if_pos h, if_pos (by omega)]; omega
  · rw [if_neg h, if_neg (by omega), if_pos (by omega)]; omega

/-- the digit string, read at k -/
def digs : ByteArray := ⟨#[48, 49, 50, 51, 52, 53, 54, 55, 56, 57, 97, 98, 99, 100, 101, 102]⟩
theorem digs_at (k : Nat) (h : k < digs.size) : (((digs[k]'h).toNat : Int)) = hx k := by
  have h16 : k < 16 := h
  match k, h16 with
  | 0, _ => rfl
  | 1, _ => rfl
  | 2, _ => rfl
  | 3, _ => rfl
  | 4, _ => rfl
  | 5, _ => rfl
  | 6, _ => rfl
  | 7, _ => rfl
  | 8, _ => rfl
  | 9, _ => rfl
  | 10, _ => rfl
  | 11, _ => rfl
  | 12, _ => rfl
  | 13, _ => rfl
  | 14, _ => rfl
  | 15, _ => rfl
  | n + 16, h' => exact absurd h' (by omega)

/-- the long escape of r -/
def long (r : Int) : List Int := [92, 117, hx (r / 4096 % 16), hx (r / 256 % 16), hx (r / 16 % 16), hx (r % 16)]
theorem long_value (r : Int) : ((((0 * 16 + r / 4096 % 16) * 16 + r / 256 % 16) * 16 + r / 16 % 16) * 16 + r % 16) = r % 65536 := by omega

end Go.Proofs.Qxb6605550a.Pl
