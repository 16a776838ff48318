/-
  Small general laws: a block of cells that the call itself has made, known whole ('Blk'); 'make' and 'copy' at a world that is a letter.
-/
import Derived.WalkKit
import Derived.ProofKit
import Derived.Below
import Derived.WalkSmall
import Derived.Laws.CopyOwn
import Derived.Deep.OwnRows
namespace Go.Proofs.Qxb6605550a
open Go.RowKit

theorem hide {p : Prop} (h : p) : Hid p := h
theorem ret_bool {a b : Bool} (h : a = b) : Ending.returned (.bool a) = .returned (.bool b) := by rw [h]
theorem byte_le (b : UInt8) : (b.toNat : Int) ≤ 255 := by have := b.toNat_lt; omega

/-- Block g is a row of the cells vs, of element type e, nothing of it frozen. -/
def Blk (w : World) (g : Nat) (e : TypeId) (vs : List Value) : Prop := w.heap[g]? = some (.cells vs.toArray e (0, 0))

theorem Blk.lt {w : World} {g : Nat} {e : TypeId} {vs : List Value} (h : Blk w g e vs) : g < w.heap.size := by
  unfold Blk at h; exact (Array.getElem?_eq_some_iff.1 h).1
theorem Blk.cell {w : World} {g : Nat} {e : TypeId} {vs : List Value} (h : Blk w g e vs) (k : Nat) (hk : k < vs.length) : w.cell? ⟨g, k, none⟩ = some vs[k] := by
  unfold Blk at h; simp [World.cell?, h, hk]
theorem Blk.frozen {w : World} {g : Nat} {e : TypeId} {vs : List Value} (h : Blk w g e vs) (k : Nat) : w.frozen? ⟨g, k, none⟩ = false := by
  unfold Blk at h; simp [World.frozen?, h]
theorem Blk.setCell {w : World} {g : Nat} {e : TypeId} {vs : List Value} (h : Blk w g e vs) (k : Nat) (v : Value) : Blk (w.setCell ⟨g, k, none⟩ v) g e (vs.set k v) := by
  unfold Blk at h ⊢
  have hlt : g < w.heap.size := (Array.getElem?_eq_some_iff.1 h).1
  have hv : w.heap[g] = .cells vs.toArray e (0, 0) := (Array.getElem?_eq_some_iff.1 h).2
  unfold World.setCell
  rw [Array.getElem?_eq_getElem (by simpa using hlt), Array.getElem_modify]
  simp [hv]
theorem Blk.below {w w' : World} {g B : Nat} {e : TypeId} {vs : List Value} (h : Blk w g e vs) (hb : Below B w w') (hg : g < B) : Blk w' g e vs := by
  unfold Blk at h ⊢; rw [hb.block g hg]; exact h
theorem Blk.new (w : World) (e : TypeId) (vs : List Value) : Blk (w.alloc (.cells vs.toArray e)) w.heap.size e vs := by
  unfold Blk; show (w.heap.push _)[w.heap.size]? = _; simp

theorem below_drews {B : Nat} {a w : World} (h : Below B a w) (n : Nat) : Below B a (w.drewN n) := h.trans ⟨rfl, rfl, rfl, Nat.le_refl _, fun _ _ => rfl⟩

theorem madeCells_one (z : Value) (n : Nat) : madeCells #[z] n = (List.replicate n z).toArray := by
  apply Array.ext
  · simp [madeCells]
  · intro i h1 h2; simp [madeCells, Nat.mod_one]

/-- 'make([]T, n)': the world behind it is a letter. -/
theorem wpList_mk {P : Program} (w : World) {ops : Array Oper} {rest : List Oper} {o : Oper} {a : Act} {Q : Exit → Act → World → Prop}
    (hg : o.guard = none) (l c : Operand) (t : TypeId) (hop : o.op = Op.makeSlice t l c) (e : TypeId) (z : Value) (bytes : Nat)
    (ht : P.underlying t = some (.slice e)) (hinfo : (P.info? e).map (fun i => (i.zero, i.size, i.bytes)) = some (some z, 1, bytes)) (hz1 : z.cells = #[z])
    (kl kc : IntKind) (n : Nat) (hl : a.eval l = .int kl (n : Int)) (hc : a.eval c = .int kc (n : Int)) (hbytes : bytes * n ≤ 281474976710656) (h63 : n ≤ 9223372036854775807)
    (hK : ∀ g w', Hid (g = w.heap.size) → Blk w' g e (List.replicate n z) → Below w.heap.size w w' → wpList P ops Q rest (a.put o.dst (.slice (some ⟨g, 0, none⟩) n n)) w') :
    wpList P ops Q (o :: rest) a w := by
  refine wpList_plain hg fun K hK' => ?_
  have hrun := run_make_row' (P := P) t e z bytes ht hinfo hz1 kl kc n hbytes h63 w
  unfold Oper.wp
  simp [execOp, hop, hl, hc, hrun, Result.andThen]
  refine hK' _ _ (hK _ _ (show _ = _ from rfl) ?_ ((Below.refl _ _).alloc (Nat.le_refl _) _))
  rw [madeCells_one]; exact Blk.new _ _ _

/-- WHAT A SLICE OF BYTES HOLDS: the numbers zs. -/
structure Row (w : World) (a : Option Addr) (len : Nat) (zs : List Int) : Prop where
  hlen : zs.length = len
  mem : 0 < len → ∃ b off, a = some ⟨b, off, none⟩ ∧ b < w.heap.size ∧ ∀ i, i < len → w.cell? ⟨b, off + i, none⟩ = some (.int .u8 (zs.getD i 0))
  bd : ∀ i, 0 ≤ zs.getD i 0 ∧ zs.getD i 0 ≤ 255

theorem Row.below {w w' : World} {a : Option Addr} {len : Nat} {zs : List Int} (h : Row w a len zs) (hb : Below w.heap.size w w') : Row w' a len zs := by
  refine ⟨h.hlen, fun hl => ?_, h.bd⟩
  obtain ⟨b, off, rfl, hlt, hc⟩ := h.mem hl
  exact ⟨b, off, rfl, Nat.lt_of_lt_of_le hlt hb.size, fun i hi => (hb.cell (p := ⟨b, off + i, none⟩) hlt).trans (hc i hi)⟩

theorem Row.of_blk {w : World} {g : Nat} {e : TypeId} {zs : List Int} {len : Nat} (h : Blk w g e (zs.map (Value.int .u8))) (hl : zs.length = len) (hb : ∀ i, 0 ≤ zs.getD i 0 ∧ zs.getD i 0 ≤ 255) : Row w (some ⟨g, 0, none⟩) len zs := by
  refine ⟨hl, fun _ => ⟨g, 0, rfl, h.lt, fun i hi => ?_⟩, hb⟩
  have := h.cell i (by simp; omega)
  rw [Nat.zero_add, this]; simp [List.getD, (show i < zs.length by omega)]

/-- The bounds of a list of bytes, mapped. -/
theorem bd_map {zs : List Int} {f : Int → Int} (hf : ∀ c, 0 ≤ c → c ≤ 255 → 0 ≤ f c ∧ f c ≤ 255) (h : ∀ i, 0 ≤ zs.getD i 0 ∧ zs.getD i 0 ≤ 255) : ∀ i, 0 ≤ (zs.map f).getD i 0 ∧ (zs.map f).getD i 0 ≤ 255 := by
  intro i
  by_cases hi : i < zs.length
  · have := h i
    simp [List.getD, hi] at this ⊢
    exact hf _ this.1 this.2
  · simp [List.getD, hi]

/-- 'copy(out, src)', out a row of the call's own, just made, as long as src: behind it the row holds what src holds. -/
theorem wpList_cp {P : Program} (w : World) {ops : Array Oper} {rest : List Oper} {o : Oper} {a : Act} {Q : Exit → Act → World → Prop} (hgd : o.guard = none) (d s : Operand) (dT sT : TypeId)
    (ho : o.op = .call { callee := .builtin .copy, args := #[d, s], argTypes := #[dT, sT] }) (e : TypeId) (hu : P.underlying dT = some (.slice e)) (hsz : (P.info? e).map (·.size) = some 1)
    (g n sCap : Nat) (sp : Option Addr) (hd : a.eval d = .slice (some ⟨g, 0, none⟩) n n) (hs : a.eval s = .slice sp n sCap)
    (z : Value) (hg : Blk w g e (List.replicate n z)) (zs : List Int) (hr : Row w sp n zs)
    (h : ∀ w', Blk w' g e (zs.map (Value.int .u8)) → Below g w w' → wpList P ops Q rest (a.put o.dst (goInt n)) w') :
    wpList P ops Q (o :: rest) a w := by
  have hl := hr.hlen
  refine wpList_copy_splice hgd d s dT sT ho e hu hsz (some ⟨g, 0, none⟩) sp n n n sCap hd hs g 0 (List.replicate n z) e hg (zs.map (Value.int .u8)) (by simp [hl]) ?_ (by simp [hl]) ?_ g w (Below.refl _ _) (Nat.le_refl _) ?_
  · intro hp
    simp [hl] at hp
    obtain ⟨b, off, rfl, _, hc⟩ := hr.mem hp
    refine ⟨rfl, _, rfl, fun j v hj => ?_⟩
    obtain ⟨hj1, hj2⟩ := List.getElem?_eq_some_iff.1 hj
    simp at hj1 hj2
    have := hc j (by omega)
    simp [List.getD, hj1, hj2] at this
    have e1 : (⟨b, off, none⟩ : Addr).add j = ⟨b, off + j, none⟩ := by unfold Addr.add; split <;> simp_all
    rw [e1]; exact this
  · intro v hv
    simp at hv
    obtain ⟨x, _, rfl⟩ := hv
    rfl
  · intro w' hw' hb
    have e1 : splice (List.replicate n z) 0 (zs.map (Value.int .u8)) = zs.map (Value.int .u8) := by simp [splice, hl]
    have hw2 := hw'.out
    rw [e1] at hw2
    have := h w' hw2 hb
    simpa [hl] using this

end Go.Proofs.Qxb6605550a
