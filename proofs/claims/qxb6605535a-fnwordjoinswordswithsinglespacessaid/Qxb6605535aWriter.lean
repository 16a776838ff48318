import Derived.Test.Qxb6605535aBuild
import Derived.Deep.RegionHeld3
namespace Go.Proofs.Qxb6605535a
open Go.RowKit
open Lib (byteCells strCells)
set_option linter.unusedVariables false

theorem block_freeze (w : World) (a : Addr) (n k : Nat) (h : k ≠ a.block) : (w.freeze a n).heap[k]? = w.heap[k]? := by
  unfold World.freeze
  split
  · rfl
  · simp [Array.getElem?_modify, Ne.symm h]

set_option maxHeartbeats 1000000 in
set_option maxRecDepth 100000 in
theorem string_any (B b : Nat) (p : Value) (l : List UInt8) (sp : Bool) (br : Int) (w : World) (h : TW B b p l sp br w) :
    Calls Try.prog 21 #[.pointer (some ⟨b, 0, none⟩)] w fun e w' => e = .returned (.string ⟨l.toArray⟩) ∧ Below B w w' ∧ w'.heap[b]? = w.heap[b]? := by
  obtain ⟨hB, v, hbk, hown, hne, hnil⟩ := h
  by_cases h0 : l = []
  · have hv := hnil h0
    subst h0
    subst hv
    have c1 : w.drew.cell? ⟨b, 1, none⟩ = some (.slice none 0 0) := by
      have : w.drew.heap[b]? = some (.cells #[p, .slice none 0 0, .bool sp, .int .i64 br] 42 (0, 0)) := hbk
      rw [Lib.cell_of_heap this]; rfl
    have hSD : (Builtin.unsafeSliceData_ #[38] 53 #[.slice none 0 0]).run Try.prog w.drew = .ok (.pointer none) w.drew := Lib.run_unsafeSliceData_nil _ _ _ _ _
    have hUS : (Builtin.unsafeString_ #[53, 3] 9 #[.pointer none, .int .i64 0]).run Try.prog w.drew = .ok (.string .empty) w.drew := Lib.run_unsafeString_none _ _ _ _ _
    clear hown hbk hne hnil
    go_enter Try.func21, Try.ntmps21
    go_wp2
    go_region
    all_goals (go_wp2; go_ret; exact ⟨rfl, Below.drew (Below.refl B w), rfl⟩)
  · have hl0 : l.length ≠ 0 := by simpa using h0
    obtain ⟨g, cap, cur, rfl, hbg, hg, hnc, hcm, hcs, htake⟩ : ∃ g cap cur, v = .slice (some ⟨g, 0, none⟩) l.length cap ∧ B ≤ g ∧ w.heap[g]? = some (.cells cur 5 (0, 0)) ∧ l.length ≤ cap ∧ cap ≤ maxLen ∧ cur.size = cap * 1 ∧ cur.toList.take (l.length * 1) = byteCells l := by
      rcases hown.2 with ⟨_, hz⟩ | ⟨g, cap, cur, hv, r⟩
      · exact absurd hz hl0
      · exact ⟨g, cap, cur, hv, r⟩
    have c1 : w.drew.cell? ⟨b, 1, none⟩ = some (.slice (some ⟨g, 0, none⟩) l.length cap) := by
      have : w.drew.heap[b]? = some (.cells #[p, .slice (some ⟨g, 0, none⟩) l.length cap, .bool sp, .int .i64 br] 42 (0, 0)) := hbk
      rw [Lib.cell_of_heap this]; rfl
    have hSD : (Builtin.unsafeSliceData_ #[38] 53 #[.slice (some ⟨g, 0, none⟩) l.length cap]).run Try.prog w.drew = .ok (.pointer (some ⟨g, 0, none⟩)) w.drew :=
      Lib.run_unsafeSliceData_row _ _ _ _ _ _ (by omega)
    have hUS : (Builtin.unsafeString_ #[53, 3] 9 #[.pointer (some ⟨g, 0, none⟩), .int .i64 l.length]).run Try.prog w.drew = .ok (.string ⟨l.toArray⟩) (w.drew.freeze ⟨g, 0, none⟩ l.length) := by
      refine Lib.run_unsafeString_row w.drew 53 3 9 5 Try.underlying53 cells5 g cur.size (by have hg' : w.drew.heap[g]? = some (.cells cur 5 (0, 0)) := hg; simp [World.shape?, hg']) l h0 (by omega) (by unfold maxLen at hcm; omega) ?_
      intro j x hx
      have := hown.cells (g := g) rfl j (.int .u8 x.toNat) (by simp [byteCells, hx])
      exact this
    have hgb : b ≠ g := fun e => hne (by simp [Value.ownBlock, e])
    clear hown hbk hnil htake hcs hg hne
    go_enter Try.func21, Try.ntmps21
    go_wp2
    go_region
    all_goals (go_wp2; go_ret; exact ⟨rfl, Lib.below_freeze (Below.drew (Below.refl B w)) (p := ⟨g, 0, none⟩) hbg _, block_freeze _ _ _ _ hgb⟩)

set_option maxHeartbeats 1000000 in
theorem setGap_any (B b : Nat) (p : Value) (l : List UInt8) (sp : Bool) (br : Int) (w : World) (h : TW B b p l sp br w) (sp' : Bool) (br' : Int) :
    Calls Try.prog 13 #[.pointer (some ⟨b, 0, none⟩), .bool sp', .int .i64 br'] w fun e w' => e = .returned (.tuple #[]) ∧ TW B b p l sp' br' w' ∧ Below B w w' := by
  have h1 := h.store 2 (.bool sp') (p' := p) (sp' := sp') (br' := br) (fun _ => rfl)
  have h2 := h1.store 3 (.int .i64 br') (p' := p) (sp' := sp') (br' := br') (fun _ => rfl)
  obtain ⟨hB, v, hbk, hown, hne, hnil⟩ := h
  obtain ⟨_, v1, hbk1, _, _, _⟩ := h1
  have c2 : w.cell? ⟨b, 2, none⟩ = some (.bool sp) := by rw [Lib.cell_of_heap hbk]; rfl
  have f2 : w.frozen? ⟨b, 2, none⟩ = false := Lib.frozen_of_heap hbk 2
  have c3 : w.cell? ⟨b, 3, none⟩ = some (.int .i64 br) := by rw [Lib.cell_of_heap hbk]; rfl
  have f3 : w.frozen? ⟨b, 3, none⟩ = false := Lib.frozen_of_heap hbk 3
  have H2 := hide h2
  clear hown hnil hbk hbk1 h2 hne
  go_enter Try.func13, Try.ntmps13
  go_wp2
  go_end0
  exact ⟨rfl, H2.out, ((Below.refl B w).setCell (p := ⟨b, 2, none⟩) hB _).setCell (p := ⟨b, 3, none⟩) hB _⟩

/-- one word more -/
def stp (l s : List UInt8) : List UInt8 := if l = [] then s else l ++ 32 :: s
theorem stp_nil (s : List UInt8) : stp [] s = s := rfl
theorem stp_more {l : List UInt8} (h : l ≠ []) (s : List UInt8) : stp l s = (l ++ [32]) ++ s := by
  unfold stp; rw [if_neg h]; simp

theorem TW.facts {B b : Nat} {p : Value} {l : List UInt8} {sp : Bool} {br : Int} {w : World} (h : TW B b p l sp br w) :
    w.cell? ⟨b, 2, none⟩ = some (.bool sp) ∧ w.frozen? ⟨b, 2, none⟩ = false ∧ w.cell? ⟨b, 3, none⟩ = some (.int .i64 br) ∧ w.frozen? ⟨b, 3, none⟩ = false := by
  obtain ⟨hB, v, hbk, hown, hne, hnil⟩ := h
  exact ⟨by rw [Lib.cell_of_heap hbk]; rfl, Lib.frozen_of_heap hbk 2, by rw [Lib.cell_of_heap hbk]; rfl, Lib.frozen_of_heap hbk 3⟩
theorem TW.reset {B b : Nat} {p : Value} {l : List UInt8} {sp : Bool} {br : Int} {w : World} (h : TW B b p l sp br w) (sp' : Bool) (br' : Int) :
    TW B b p l sp' br' ((w.setCell ⟨b, 2, none⟩ (.bool sp')).setCell ⟨b, 3, none⟩ (.int .i64 br')) :=
  (h.store 2 (.bool sp') (p' := p) (sp' := sp') (br' := br) (fun _ => rfl)).store 3 (.int .i64 br') (p' := p) (sp' := sp') (br' := br') (fun _ => rfl)

set_option maxHeartbeats 1000000 in
theorem word_nil (B b : Nat) (p : Value) (sp : Bool) (br : Int) (s : ByteArray) (w : World) (h : TW B b p [] sp br w) (hp : ptrB b p) (hlen : s.size ≤ 2097152) (hBw : B ≤ w.heap.size) :
    Calls Try.prog 20 #[.pointer (some ⟨b, 0, none⟩), .string s] w fun e w' => e = .returned (.tuple #[]) ∧ TW B b (.pointer (some ⟨b, 0, none⟩)) s.data.toList false 0 w' ∧ Below B w w' := by
  go_enter Try.func20, Try.ntmps20
  go_wp2_with (first
    | (go_at_call 24; refine (len_any B b p [] sp br _ h).mono ?_; rintro e w' ⟨rfl, hw⟩; subst hw)
    | (go_at_call 19; refine (writeString_any B b p [] sp br s _ h hp (by simp; omega) hBw).mono ?_; rintro e w2 ⟨rfl, h2, b2⟩; obtain ⟨c2, f2, c3, f3⟩ := h2.facts))
  go_end0
  exact ⟨rfl, h2.reset false 0, (b2.setCell (p := ⟨b, 2, none⟩) h2.1 _).setCell (p := ⟨b, 3, none⟩) h2.1 _⟩

set_option maxHeartbeats 1000000 in
theorem word_more (B b : Nat) (p : Value) (l : List UInt8) (s : ByteArray) (w : World) (h : TW B b p l true 0 w) (hl : l ≠ []) (hp : ptrB b p) (hlen : l.length + s.size ≤ 2097152) (hBw : B ≤ w.heap.size) :
    Calls Try.prog 20 #[.pointer (some ⟨b, 0, none⟩), .string s] w fun e w' => e = .returned (.tuple #[]) ∧ TW B b (.pointer (some ⟨b, 0, none⟩)) ((l ++ [32]) ++ s.data.toList) false 0 w' ∧ Below B w w' := by
  have hpos : (0 : Int) < (l.length : Int) := by have := List.length_pos_iff.2 hl; omega
  have HL := hide hl
  clear hl
  obtain ⟨c2, f2, c3, f3⟩ := h.facts
  go_enter Try.func20, Try.ntmps20
  go_wp2_with (first
    | (go_at_call 24; refine (len_any B b p l true 0 _ h).mono ?_; rintro e w' ⟨rfl, hw⟩; subst hw)
    | (go_at_call 26; refine (writeByte_any B b p l true 0 32 _ h hp (by omega) hBw).mono ?_; rintro e w1 ⟨rfl, h1, b1⟩; clear c2 f2 c3 f3)
    | (go_at_call 19; refine (writeString_any B b _ (l ++ [32]) true 0 s _ h1 (.inr rfl) (by simp; omega) (Nat.le_trans hBw b1.size)).mono ?_; rintro e w2 ⟨rfl, h2, b2⟩; obtain ⟨c2, f2, c3, f3⟩ := h2.facts))
  go_end0
  exact ⟨rfl, h2.reset false 0, ((b1.trans b2).setCell (p := ⟨b, 2, none⟩) h2.1 _).setCell (p := ⟨b, 3, none⟩) h2.1 _⟩

set_option maxHeartbeats 1000000 in
/-- a word: upon an empty text, or with a space due -/
theorem word_any (B b : Nat) (p : Value) (l : List UInt8) (sp : Bool) (br : Int) (s : ByteArray) (w : World) (h : TW B b p l sp br w) (hc : l = [] ∨ (sp = true ∧ br = 0)) (hp : ptrB b p) (hlen : l.length + s.size ≤ 2097152) (hBw : B ≤ w.heap.size) :
    Calls Try.prog 14 #[.pointer (some ⟨b, 0, none⟩), .string s] w fun e w' => e = .returned (.tuple #[]) ∧ TW B b (.pointer (some ⟨b, 0, none⟩)) (stp l s.data.toList) false 0 w' ∧ Below B w w' := by
  by_cases hl : l = []
  · subst hl
    go_enter Try.func14, Try.ntmps14
    go_wp2_with (go_at_call 20; refine (word_nil B b p sp br s _ h hp (by simp at hlen; omega) hBw).mono ?_; rintro e w2 ⟨rfl, h2, b2⟩)
    go_end0
    exact ⟨rfl, h2, b2⟩
  · obtain ⟨rfl, rfl⟩ : sp = true ∧ br = 0 := by rcases hc with h | h; exact absurd h hl; exact h
    have HS := hide (stp_more hl s.data.toList)
    have HL := hide hl
    clear hl hc
    go_enter Try.func14, Try.ntmps14
    go_wp2_with (go_at_call 20; refine (word_more B b p l s _ h HL.out hp hlen hBw).mono ?_; rintro e w2 ⟨rfl, h2, b2⟩)
    go_end0
    exact ⟨rfl, by rw [HS.out]; exact h2, b2⟩

set_option maxHeartbeats 1000000 in
theorem new_any (sp : Bool) (br : Int) (w : World) :
    Calls Try.prog 12 #[.string ⟨#[]⟩, .bool sp, .int .i64 br] w fun e w' => ∃ b, e = .returned (.pointer (some ⟨b, 0, none⟩)) ∧ TW w.heap.size b (.pointer (some ⟨b, 0, none⟩)) [] sp br w' ∧ Below w.heap.size w w' := by
  have h0 : TW w.heap.size w.heap.size (.pointer none) [] sp br (w.alloc (.cells #[.pointer none, .slice none 0 0, .bool sp, .int .i64 br] 42)) :=
    ⟨Nat.le_refl _, .slice none 0 0, heap_alloc_new w _, World.ownsRow_nil _ _ _ _, by simp [Value.ownBlock], fun _ => rfl⟩
  go_enter Try.func12, Try.ntmps12
  go_wp2_with (go_at_call 19; refine (writeString_any w.heap.size w.heap.size _ [] sp br ⟨#[]⟩ _ h0 (.inl rfl) (by show 0 + 0 ≤ 4194304; decide) (by simp)).mono ?_; rintro e w2 ⟨rfl, h2, b2⟩)
  go_ret
  exact ⟨_, rfl, h2, ((Below.refl _ _).alloc (Nat.le_refl _) _).trans b2⟩

set_option maxHeartbeats 1000000 in
set_option maxRecDepth 100000 in
theorem state_any (B b : Nat) (p : Value) (l : List UInt8) (sp : Bool) (br : Int) (w : World) (h : TW B b p l sp br w) :
    Calls Try.prog 15 #[.pointer (some ⟨b, 0, none⟩)] w fun e w' => e = .returned (.tuple #[.string ⟨l.toArray⟩, .bool sp, .int .i64 br]) ∧ Below B w w' := by
  obtain ⟨c2, f2, c3, f3⟩ := h.facts
  have hk : TW B b p l sp br w.drew := h
  have hlt : b < w.heap.size := by obtain ⟨_, v, hb, _⟩ := h; exact heap_lt hb
  go_enter Try.func15, Try.ntmps15
  go_wp2
  go_region_held3 (fun w' => w'.cell? ⟨b, 2, none⟩ = some (.bool sp) ∧ w'.cell? ⟨b, 3, none⟩ = some (.int .i64 br)) (go_keep)
    (first | (go_at_call 21; refine (string_any B b p l sp br _ hk).mono ?_; rintro e w2 ⟨rfl, b2, hsame⟩; have d2 : w2.cell? ⟨b, 2, none⟩ = some (.bool sp) := (World.cell?_of_block (a := ⟨b, 2, none⟩) hsame).trans c2; have d3 : w2.cell? ⟨b, 3, none⟩ = some (.int .i64 br) := (World.cell?_of_block (a := ⟨b, 3, none⟩) hsame).trans c3))
  go_wp2
  go_ret3
  exact ⟨rfl, ((Below.refl B w).drew).trans b2⟩
end Go.Proofs.Qxb6605535a
