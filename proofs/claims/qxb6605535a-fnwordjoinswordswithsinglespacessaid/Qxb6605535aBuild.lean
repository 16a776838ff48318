/-
  The text writer's memory, and strings.Builder's methods upon its first field: after the guide's own walks of the Builder (a block of its own there; here the head of a struct of four cells).
-/
import Derived.Test.Qxb6605535aRows
import Derived.Test.Qxb6605535aKit
import Derived.WalkSpells
import Derived.WalkLawsBesides
import Derived.Lib.Builder
import Derived.Lib.AppendStr
import Derived.Lib.UnsafeStr
import Derived.RegionTactic
import Derived.BigRegion
namespace Go.Proofs.Qxb6605535a
open Go.RowKit
open Lib (byteCells strCells)
set_option linter.unusedVariables false

theorem info5 : (Try.prog.info? 5).map (fun i => (i.zero, i.size, i.bytes)) = some (some (.int .u8 0), 1, 1) := by kernel_rfl
theorem size40 : (Try.prog.info? 40).map (·.size) = some 2 := by kernel_rfl
theorem lies40 : liesAt Try.prog Try.prog.depth 42 (4 / Try.prog.cellsOf 42) 0 40 1 = true := by kernel_rfl
theorem cells5 : Try.prog.cellsOf 5 = 1 := by kernel_rfl

/-- The text writer in block b, one of the call's own (from B on): its text so far is l, its pending state sp and br; p: what the builder's own pointer holds. -/
def TW (B b : Nat) (p : Value) (l : List UInt8) (sp : Bool) (br : Int) (w : World) : Prop :=
  B ≤ b ∧ ∃ v, w.heap[b]? = some (.cells #[p, v, .bool sp, .int .i64 br] 42 (0, 0)) ∧ w.ownsRow B 5 1 v l.length (byteCells l) ∧ v.ownBlock ≠ some b ∧ (l = [] → v = .slice none 0 0)

theorem strCells_eq (s : ByteArray) : strCells s = byteCells s.data.toList := rfl
theorem byteCells_append (a b : List UInt8) : byteCells (a ++ b) = byteCells a ++ byteCells b := by simp [Lib.byteCells]
theorem dat_len (s : ByteArray) : s.data.toList.length = s.size := by rw [Array.length_toList]; rfl

theorem heap_lt {w : World} {b : Nat} {o : Obj} (h : w.heap[b]? = some o) : b < w.heap.size := (Array.getElem?_eq_some_iff.1 h).1

/-- a cell of the struct is set: the block as it then is -/
theorem set_block {w : World} {b : Nat} {cs : Array Value} {T : TypeId} (h : w.heap[b]? = some (.cells cs T (0, 0))) (j : Nat) (x : Value) :
    (w.setCell ⟨b, j, none⟩ x).heap[b]? = some (.cells (cs.setIfInBounds j x) T (0, 0)) := by
  have hlt : b < w.heap.size := heap_lt h
  have hv : w.heap[b] = .cells cs T (0, 0) := (Array.getElem?_eq_some_iff.1 h).2
  unfold World.setCell
  rw [Array.getElem?_eq_getElem (by simpa using hlt), Array.getElem_modify]
  simp [hv]
theorem grown_set (w : World) (b j : Nat) (x : Value) : w.grownBy (w.setCell ⟨b, j, none⟩ x) (some b) :=
  ⟨rfl, rfl, rfl, by simp [World.setCell], fun k _ hk => Below.heap_setCell _ _ _ _ (fun e => hk (by simp [e]))⟩

/-- any store into the struct that keeps the buffer -/
theorem TW.store {B b : Nat} {p p' : Value} {l : List UInt8} {sp sp' : Bool} {br br' : Int} {w : World} (h : TW B b p l sp br w) (j : Nat) (x : Value)
    (e : ∀ v, (#[p, v, .bool sp, .int .i64 br] : Array Value).setIfInBounds j x = #[p', v, .bool sp', .int .i64 br']) : TW B b p' l sp' br' (w.setCell ⟨b, j, none⟩ x) := by
  obtain ⟨hB, v, hb, hown, hne, hnil⟩ := h
  refine ⟨hB, v, ?_, hown.kept (row := some b) (grown_set _ _ _ _) (Or.inr hne), hne, hnil⟩
  rw [set_block hb, e]

theorem TW.alloc {B b : Nat} {p : Value} {l : List UInt8} {sp : Bool} {br : Int} {w : World} (h : TW B b p l sp br w) (o : Obj) : TW B b p l sp br (w.alloc o) := by
  obtain ⟨hB, v, hb, hown, hne, hnil⟩ := h
  exact ⟨hB, v, by rw [Lib.alloc_old w o b (heap_lt hb)]; exact hb, hown.alloc o, hne, hnil⟩

set_option maxHeartbeats 1000000 in
set_option maxRecDepth 100000 in
theorem check_used (b : Nat) (w : World) (h0 : w.cell? ⟨b, 0, none⟩ = some (.pointer (some ⟨b, 0, none⟩))) :
    Calls Try.prog 23 #[.pointer (some ⟨b, 0, none⟩)] w fun e w' => e = .returned (.tuple #[]) ∧ w' = w := by
  obtain ⟨j, hj, _⟩ := Option.map_eq_some_iff.1 size40
  go_enter Try.func23, Try.ntmps23
  go_wp2
  rw [Lib.run_neq_ptr_same w _ Try.underlying37 hj]
  go_wp2
  go_end0
  exact ⟨rfl, rfl⟩

/-- the builder's address, to Go's untyped pointer and back: the same address -/
theorem conv_out (b : Nat) (w : World) (j : TypeInfo) (hj : Try.prog.info? 40 = some j) (hjs : j.size = 2) (hsh : w.shape? b = some (42, 4)) :
    (convert 37 54 (.pointer (some ⟨b, 0, none⟩))).run Try.prog w = .ok (.pointer (some ⟨b, 0, none⟩)) w := by
  simp [convert, run_underlying Try.underlying37, run_underlying Try.underlying54, Conv.unsafePointer, Conv.seenAt, viewAt, cellsIn, hsh, sizeOf, typeInfo, hj, hjs]
theorem conv_back (b : Nat) (w : World) (j : TypeInfo) (hj : Try.prog.info? 40 = some j) (hsh : w.shape? b = some (42, 4)) :
    (convert 54 37 (.pointer (some ⟨b, 0, none⟩))).run Try.prog w = .ok (.pointer (some ⟨b, 0, none⟩)) w := by
  have hl := lies40
  simp [convert, run_underlying Try.underlying37, run_underlying Try.underlying54, Conv.unsafePointer, Conv.seenAt, viewAt, hsh, variablesAt, hl, sizeOf, typeInfo, hj]

set_option maxHeartbeats 1000000 in
set_option maxRecDepth 100000 in
theorem check_fresh (b : Nat) (w : World) (h0 : w.cell? ⟨b, 0, none⟩ = some (.pointer none)) (hsh : w.shape? b = some (42, 4)) (hfz : w.frozen? ⟨b, 0, none⟩ = false) :
    Calls Try.prog 23 #[.pointer (some ⟨b, 0, none⟩)] w fun e w' => e = .returned (.tuple #[]) ∧ w' = w.setCell ⟨b, 0, none⟩ (.pointer (some ⟨b, 0, none⟩)) := by
  obtain ⟨j, hj, hjs⟩ := Option.map_eq_some_iff.1 size40
  go_enter Try.func23, Try.ntmps23
  go_wp2
  rw [conv_out b w j hj hjs hsh]
  simp only [Result.andThen]
  rw [Oper.upon_value]
  go_wp2
  rw [run_callFunc_extern Try.func27 (by kernel_rfl) (by kernel_rfl) (by kernel_rfl) (e := Extern.AbiNoEscape.same) (by kernel_rfl)]
  rw [Lib.run_noEscape]
  simp only [Result.andThen]
  rw [Oper.upon_value]
  go_wp2
  rw [conv_back b w j hj hsh]
  simp only [Result.andThen]
  rw [Oper.upon_value]
  go_wp2
  go_end0
  exact ⟨rfl, rfl⟩

/-- the builder's own pointer: nil, or to itself -/
def ptrB (b : Nat) (p : Value) : Prop := p = .pointer none ∨ p = .pointer (some ⟨b, 0, none⟩)

theorem check_any (B b : Nat) (p : Value) (l : List UInt8) (sp : Bool) (br : Int) (w : World) (h : TW B b p l sp br w) (hp : ptrB b p) :
    Calls Try.prog 23 #[.pointer (some ⟨b, 0, none⟩)] w fun e w' => e = .returned (.tuple #[]) ∧ TW B b (.pointer (some ⟨b, 0, none⟩)) l sp br w' ∧ Below B w w' := by
  have hk := h
  obtain ⟨hB, v, hb, hown, hne, hnil⟩ := h
  have c0 : w.cell? ⟨b, 0, none⟩ = some p := by rw [Lib.cell_of_heap hb]; rfl
  rcases hp with rfl | rfl
  · refine (check_fresh b w c0 (by unfold World.shape?; rw [hb]; rfl) (Lib.frozen_of_heap hb 0)).mono ?_
    rintro e w' ⟨rfl, hw⟩
    subst hw
    exact ⟨rfl, hk.store 0 _ (fun _ => rfl), (Below.refl B w).setCell (p := ⟨b, 0, none⟩) hB _⟩
  · refine (check_used b w c0).mono ?_
    rintro e w' ⟨rfl, hw⟩
    subst hw
    exact ⟨rfl, hk, Below.refl B _⟩

set_option maxHeartbeats 1000000 in
theorem len_any (B b : Nat) (p : Value) (l : List UInt8) (sp : Bool) (br : Int) (w : World) (h : TW B b p l sp br w) :
    Calls Try.prog 24 #[.pointer (some ⟨b, 0, none⟩)] w fun e w' => e = .returned (.int .i64 l.length) ∧ w' = w := by
  obtain ⟨hB, v, hb, hown, hne, hnil⟩ := h
  obtain ⟨ao, cap, rfl⟩ : ∃ ao cap, v = .slice ao l.length cap := by
    rcases hown.2 with ⟨hv, h0⟩ | ⟨g, cap, cur, hv, _⟩
    · exact ⟨none, 0, by rw [hv, h0]⟩
    · exact ⟨_, _, hv⟩
  have c1 : w.cell? ⟨b, 1, none⟩ = some (.slice ao l.length cap) := by rw [Lib.cell_of_heap hb]; rfl
  clear hnil hown hb hne
  go_enter Try.func24, Try.ntmps24
  go_wp2
  go_ret
  exact ⟨rfl, rfl⟩

/-- a new buffer laid into the second cell -/
theorem TW.put {B b : Nat} {p v v' : Value} {l : List UInt8} {sp : Bool} {br : Int} {w : World} (hB : B ≤ b) (hb : w.heap[b]? = some (.cells #[p, v, .bool sp, .int .i64 br] 42 (0, 0))) (hown : w.ownsRow B 5 1 v' l.length (byteCells l)) (hnil : l = [] → v' = .slice none 0 0) :
    TW B b p l sp br (w.setCell ⟨b, 1, none⟩ v') := by
  have hne := Lib.ownBlock_ne hown hb (by decide)
  refine ⟨hB, v', ?_, hown.kept (row := some b) (grown_set _ _ _ _) (Or.inr hne), hne, hnil⟩
  rw [set_block hb]; rfl

set_option maxHeartbeats 2000000 in
set_option maxRecDepth 100000 in
theorem writeString_any (B b : Nat) (p : Value) (l : List UInt8) (sp : Bool) (br : Int) (s : ByteArray) (w : World) (h : TW B b p l sp br w) (hp : ptrB b p) (hlen : l.length + s.size ≤ 4194304) (hBw : B ≤ w.heap.size) :
    Calls Try.prog 19 #[.pointer (some ⟨b, 0, none⟩), .string s] w fun e w' => e = .returned (.tuple #[.int .i64 s.size, .nilIface]) ∧ TW B b (.pointer (some ⟨b, 0, none⟩)) (l ++ s.data.toList) sp br w' ∧ Below B w w' := by
  obtain ⟨i0, hi, hz0, hz1, hz2⟩ := info_parts info5
  go_enter Try.func19, Try.ntmps19
  go_wp2_with (go_at_call 23; refine (check_any B b p l sp br _ h hp).mono ?_)
  rintro e w1 ⟨rfl, h1, hb1⟩
  obtain ⟨hB, v, hbk, hown, hne, hnil⟩ := h1
  have c0 : w1.cell? ⟨b, 0, none⟩ = some (.pointer (some ⟨b, 0, none⟩)) := by rw [Lib.cell_of_heap hbk]; rfl
  have c1 : w1.cell? ⟨b, 1, none⟩ = some v := by rw [Lib.cell_of_heap hbk]; rfl
  have HN := hide hnil
  have HB := hide hbk
  clear hnil hbk
  go_wp2_with (at_builtin; refine Lib.wpList_append_own_string _ rfl _ _ 38 9 rfl B 5 i0 Try.underlying38 Try.underlying9 hi hz0 hz1 hz2 _ _ _ rfl hown s rfl ?c3 ?c4 ?c5 ?_)
  case c3 => unfold maxLen; omega
  case c4 => omega
  case c5 => have := hb1.size; omega
  intro v' w2 hown' hgrow hvn
  have hlt : b < w1.heap.size := heap_lt HB.out
  have hb2 : w2.heap[b]? = some (.cells #[.pointer (some ⟨b, 0, none⟩), v, .bool sp, .int .i64 br] 42 (0, 0)) := by
    rw [hgrow.block b hlt (fun e => hne e.symm)]
    exact HB.out
  have d0 : w2.cell? ⟨b, 0, none⟩ = some (.pointer (some ⟨b, 0, none⟩)) := by rw [Lib.cell_of_heap hb2]; rfl
  have d1 : w2.cell? ⟨b, 1, none⟩ = some v := by rw [Lib.cell_of_heap hb2]; rfl
  have f1 : w2.frozen? ⟨b, 1, none⟩ = false := Lib.frozen_of_heap hb2 1
  have hown2 : w2.ownsRow B 5 1 v' (l ++ s.data.toList).length (byteCells (l ++ s.data.toList)) := by
    rw [byteCells_append, List.length_append, dat_len, ← strCells_eq]; exact hown'
  have hnil2 : l ++ s.data.toList = [] → v' = .slice none 0 0 := by
    intro e
    have e1 := List.append_eq_nil_iff.1 e
    refine hvn.2 ⟨HN.out e1.1, ?_⟩
    apply ByteArray.ext; rw [Array.toList_eq_nil_iff.1 e1.2]; rfl
  have RES := hide (TW.put hB hb2 hown2 hnil2)
  have BEL := hide ((hb1.grown hgrow (by have := hb1.size; omega) (fun k hk => (hown.lt k hk).1)).setCell (p := ⟨b, 1, none⟩) hB v')
  obtain ⟨ao, n', cap, rfl⟩ : ∃ ao n' cap, v' = .slice ao n' cap := by
    rcases hown'.2 with ⟨hv, _⟩ | ⟨g, cap, cur, hv, _⟩
    · exact ⟨_, _, _, hv⟩
    · exact ⟨_, _, _, hv⟩
  clear hown2 hnil2 hown' hgrow hvn hown hb2
  go_wp2
  go_ret2
  exact ⟨rfl, RES.out, BEL.out⟩

set_option maxHeartbeats 2000000 in
set_option maxRecDepth 100000 in
theorem writeByte_any (B b : Nat) (p : Value) (l : List UInt8) (sp : Bool) (br : Int) (c : UInt8) (w : World) (h : TW B b p l sp br w) (hp : ptrB b p) (hlen : l.length + 1 ≤ 4194304) (hBw : B ≤ w.heap.size) :
    Calls Try.prog 26 #[.pointer (some ⟨b, 0, none⟩), .int .u8 c.toNat] w fun e w' => e = .returned .nilIface ∧ TW B b (.pointer (some ⟨b, 0, none⟩)) (l ++ [c]) sp br w' ∧ Below B w w' := by
  obtain ⟨i0, hi, hz0, hz1, hz2⟩ := info_parts info5
  go_enter Try.func26, Try.ntmps26
  go_wp2_with (go_at_call 23; refine (check_any B b p l sp br _ h hp).mono ?_)
  rintro e w1 ⟨rfl, h1, hb1⟩
  obtain ⟨hB, v, hbk, hown, hne, hnil⟩ := h1
  have c0 : w1.cell? ⟨b, 0, none⟩ = some (.pointer (some ⟨b, 0, none⟩)) := by rw [Lib.cell_of_heap hbk]; rfl
  have c1 : w1.cell? ⟨b, 1, none⟩ = some v := by rw [Lib.cell_of_heap hbk]; rfl
  have HB := hide hbk
  clear hnil hbk
  go_wp2_with (at_builtin; refine wpList_append_own _ rfl _ _ 38 rfl B 5 i0 (.int .u8 0) 1 1 Try.underlying38 hi hz0 hz1 hz2 rfl (by decide) _ _ _ rfl (hown.alloc _) ⟨w1.heap.size, 0, none⟩ 1 1 [.int .u8 c.toNat] rfl rfl ?c1 ?c2 ?c3 ?c4 ?c5 ?_)
  case c1 =>
    intro j u hj
    match j, hj with
    | 0, hj => simp at hj; subst hj; simp [Addr.add]
  case c2 => intro u hu; simp at hu; subst hu; rfl
  case c3 => unfold maxLen; omega
  case c4 => omega
  case c5 => have := hb1.size; simp; omega
  intro v' w2 hown' hgrow _
  have hlt : b < w1.heap.size := heap_lt HB.out
  have hb2 : w2.heap[b]? = some (.cells #[.pointer (some ⟨b, 0, none⟩), v, .bool sp, .int .i64 br] 42 (0, 0)) := by
    rw [hgrow.block b (by simp; omega) (fun e => hne e.symm), Lib.alloc_old w1 _ b hlt]
    exact HB.out
  have d0 : w2.cell? ⟨b, 0, none⟩ = some (.pointer (some ⟨b, 0, none⟩)) := by rw [Lib.cell_of_heap hb2]; rfl
  have d1 : w2.cell? ⟨b, 1, none⟩ = some v := by rw [Lib.cell_of_heap hb2]; rfl
  have f1 : w2.frozen? ⟨b, 1, none⟩ = false := Lib.frozen_of_heap hb2 1
  have hown2 : w2.ownsRow B 5 1 v' (l ++ [c]).length (byteCells (l ++ [c])) := by
    rw [byteCells_append, List.length_append]; exact hown'
  have RES := hide (TW.put hB hb2 hown2 (fun e => by simp at e))
  have BEL := hide (((hb1.alloc (by have := hb1.size; omega) _).grown hgrow (by have := hb1.size; simp; omega) (fun k hk => (hown.lt k hk).1)).setCell (p := ⟨b, 1, none⟩) hB v')
  obtain ⟨g, cap, rfl⟩ : ∃ g cap, v' = .slice (some ⟨g, 0, none⟩) (l.length + 1) cap := by
    rcases hown'.2 with ⟨_, h0⟩ | ⟨g, cap, cur, hv, _⟩
    · omega
    · exact ⟨g, cap, hv⟩
  clear hown2 hown' hgrow hown hb2
  go_wp2
  go_ret
  exact ⟨rfl, RES.out, BEL.out⟩
end Go.Proofs.Qxb6605535a
