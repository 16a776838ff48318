/-
  The words' text, as plain lists; a slice of strings in memory; the law's own join.
-/
import Derived.Test.Qxb6605535aWriter
namespace Go.Proofs.Qxb6605535a
open Go.RowKit
open Lib (byteCells strCells)
set_option linter.unusedVariables false

/-- the text of the words -/
def tx (ss : List ByteArray) : List UInt8 := ss.foldl (fun acc s => stp acc s.data.toList) []
/-- their bytes, counted -/
def sm : List ByteArray → Nat
  | [] => 0
  | s :: r => s.size + sm r
def wordAt (ss : List ByteArray) (k : Nat) : ByteArray := ss.getD k ByteArray.empty

theorem sm_append (a b : List ByteArray) : sm (a ++ b) = sm a + sm b := by
  induction a with
  | nil => simp [sm]
  | cons x r ih => simp [sm, ih]; omega
theorem take_next (ss : List ByteArray) (k : Nat) (h : k < ss.length) : ss.take (k + 1) = ss.take k ++ [wordAt ss k] := by
  rw [List.take_succ_eq_append_getElem h]; simp [wordAt, List.getD, h]
theorem sm_next (ss : List ByteArray) (k : Nat) (h : k < ss.length) : sm (ss.take (k + 1)) = sm (ss.take k) + (wordAt ss k).size := by
  rw [take_next ss k h, sm_append]; simp [sm]
theorem sm_take (ss : List ByteArray) (k : Nat) : sm (ss.take k) ≤ sm ss := by
  have := sm_append (ss.take k) (ss.drop k)
  rw [List.take_append_drop] at this
  omega
theorem sm_at (ss : List ByteArray) (k : Nat) (h : k < ss.length) : sm (ss.take k) + (wordAt ss k).size ≤ sm ss := by
  rw [← sm_next ss k h]; exact sm_take ss _
theorem tx_next (ss : List ByteArray) (k : Nat) (h : k < ss.length) : tx (ss.take (k + 1)) = stp (tx (ss.take k)) (wordAt ss k).data.toList := by
  rw [take_next ss k h]; unfold tx; rw [List.foldl_append]; rfl
theorem stp_len (l s : List UInt8) : (stp l s).length ≤ l.length + 1 + s.length := by
  unfold stp; split
  · omega
  · simp; omega
theorem tx_len (ss : List ByteArray) : ∀ k, k ≤ ss.length → (tx (ss.take k)).length ≤ sm (ss.take k) + k := by
  intro k
  induction k with
  | zero => intro _; simp [tx]
  | succ k ih =>
    intro h
    have h1 := ih (by omega)
    rw [tx_next ss k (by omega), sm_next ss k (by omega)]
    have h2 := stp_len (tx (ss.take k)) (wordAt ss k).data.toList
    rw [dat_len] at h2
    omega
theorem stp_ne {l s : List UInt8} (h : l ≠ [] ∨ s ≠ []) : stp l s ≠ [] := by
  unfold stp; split
  · rcases h with h | h
    · exact absurd ‹_› h
    · exact h
  · simp

/-- WHAT A SLICE OF STRINGS HOLDS -/
structure RowS (w : World) (a : Option Addr) (len : Nat) (ss : List ByteArray) : Prop where
  hlen : ss.length = len
  mem : 0 < len → ∃ b off, a = some ⟨b, off, none⟩ ∧ b < w.heap.size ∧ ∀ i, i < len → w.cell? ⟨b, off + i, none⟩ = some (.string (wordAt ss i))
  sz : ∀ i, (wordAt ss i).size ≤ maxLen

theorem RowS.below {w w' : World} {a : Option Addr} {len : Nat} {ss : List ByteArray} (h : RowS w a len ss) (hb : Below w.heap.size w w') : RowS w' a len ss := by
  refine ⟨h.hlen, fun hl => ?_, h.sz⟩
  obtain ⟨b, off, rfl, hlt, hc⟩ := h.mem hl
  exact ⟨b, off, rfl, Nat.lt_of_lt_of_le hlt hb.size, fun i hi => (hb.cell (p := ⟨b, off + i, none⟩) hlt).trans (hc i hi)⟩

theorem RowS.of_blk {w : World} {g : Nat} {ss : List ByteArray} {len : Nat} (h : Blk w g 9 (ss.map Value.string)) (hl : ss.length = len) (hz : ∀ i, (wordAt ss i).size ≤ maxLen) : RowS w (some ⟨g, 0, none⟩) len ss := by
  refine ⟨hl, fun _ => ⟨g, 0, rfl, h.lt, fun i hi => ?_⟩, hz⟩
  have := h.cell i (by simp; omega)
  rw [Nat.zero_add, this]; simp [wordAt, List.getD, (show i < ss.length by omega)]

theorem empty_iff (s : ByteArray) : s.toList.isEmpty = true ↔ s.data.toList = [] := by
  rw [ByteArray.toList_eq, List.isEmpty_iff]

theorem short_next {ss : List ByteArray} {k : Nat} (h : ∀ j, j < k → (wordAt ss j).size ≤ 1048576) (hk : (wordAt ss k).size ≤ 1048576) : ∀ j, j < k + 1 → (wordAt ss j).size ≤ 1048576 := by
  intro j hj
  by_cases e : j = k
  · subst e; exact hk
  · exact h j (by omega)
/-- what the bound on lengths answers; where it says true each word is short -/
def BytesOk (ss : List ByteArray) (len : Nat) (e : Ending) : Prop := ∃ b : Bool, e = .returned (.bool b) ∧ (b = true → ∀ j, j < len → (wordAt ss j).size ≤ 1048576)
theorem bytesNo (ss : List ByteArray) (len : Nat) : BytesOk ss len (.returned (.bool false)) := ⟨false, rfl, fun h => by cases h⟩
theorem bytesYes {ss : List ByteArray} {len : Nat} (h : ∀ j, j < len → (wordAt ss j).size ≤ 1048576) : BytesOk ss len (.returned (.bool true)) := ⟨true, rfl, fun _ => h⟩

set_option maxHeartbeats 400000 in
theorem bytes11_any (a : Option Addr) (len cap : Nat) (ss : List ByteArray) (f : Bool) (n : Int) (w : World) (hr : RowS w a len ss) (hl : len ≤ maxLen) :
    Calls Try.prog 11 #[.slice a len cap, .bool f, .int .i64 n] w fun e w' => BytesOk ss len e ∧ w' = w := by
  unfold maxLen at hl
  by_cases hbig : 1048576 < (len : Int)
  · go_enter Try.func11, Try.ntmps11
    go_wp2
    all_goals (go_ret; exact ⟨bytesNo _ _, rfl⟩)
  · go_enter Try.func11, Try.ntmps11
    go_wp2
    go_loop [7, 8] (fun z i => ∃ (k : Nat) (t : Int), k ≤ len ∧ i = .int .i64 k ∧ z = .int .i64 t ∧ 0 ≤ t ∧ t ≤ 1048576 ∧ Hid (∀ j, j < k → (wordAt ss j).size ≤ 1048576)) (fun _ i => len - (intOf i).toNat)
    case atStart => exact ⟨0, len, Nat.zero_le _, rfl, rfl, by omega, by omega, hide fun j h => absurd h (Nat.not_lt_zero j)⟩
    case round =>
      obtain ⟨k, t, hk, rfl, rfl, ht0, ht1, HA⟩ := hrel
      by_cases hlt : k < len
      · obtain ⟨b, off, rfl, hb, hc⟩ := hr.mem (by omega)
        have hck := hc k hlt
        have hsz := hr.sz k
        unfold maxLen at hsz
        generalize hs : wordAt ss k = s at hck hsz
        have HS := hide hs
        clear hs
        clear hc hr
        go_wp2
        all_goals first
          | (go_ret; exact ⟨bytesNo _ _, rfl⟩)
          | (go_round
             case rel => exact ⟨k + 1, t + s.size, by omega, by go_num, by go_num, by omega, by omega, hide (short_next HA.out (by rw [HS.out]; omega))⟩
             case measure => simp [intOf]; omega)
      · go_wp2
        go_ret
        exact ⟨bytesYes (fun j hj => HA.out j (by omega)), rfl⟩
end Go.Proofs.Qxb6605535a
