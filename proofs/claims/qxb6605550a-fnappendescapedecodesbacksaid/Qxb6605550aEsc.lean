import Derived.Test.Qxb6605550aWalks
namespace Go.Proofs.Qxb6605550a
open Go.RowKit
set_option linter.unusedVariables false

theorem Row.of_owns {w : World} {base g n cap : Nat} {zs : List Int} (h : w.ownsRow base 5 1 (.slice (some ⟨g, 0, none⟩) n cap) n (zs.map (Value.int .u8))) (hl : zs.length = n) (hb : ∀ i, 0 ≤ zs.getD i 0 ∧ zs.getD i 0 ≤ 255) : Row w (some ⟨g, 0, none⟩) n zs := by
  refine ⟨hl, fun hp => ⟨g, 0, rfl, ?_, fun i hi => ?_⟩, hb⟩
  · rcases h.2 with ⟨hv, _⟩ | ⟨g', cap', cur, hv, _, hg, _⟩
    · cases hv
    · cases hv; exact (Array.getElem?_eq_some_iff.1 hg).1
  · have := h.cells (g := g) rfl i (.int .u8 (zs.getD i 0)) (by simp [List.getD, (show i < zs.length by omega)])
    have e1 : (⟨g, 0, none⟩ : Addr).add i = ⟨g, 0 + i, none⟩ := by unfold Addr.add; split <;> simp_all
    rw [e1] at this
    exact this

theorem bd_append {a b : List Int} (ha : ∀ i, 0 ≤ a.getD i 0 ∧ a.getD i 0 ≤ 255) (hb : ∀ i, 0 ≤ b.getD i 0 ∧ b.getD i 0 ≤ 255) : ∀ i, 0 ≤ (a ++ b).getD i 0 ∧ (a ++ b).getD i 0 ≤ 255 := by
  intro i
  by_cases h : i < a.length
  · have e : (a ++ b).getD i 0 = a.getD i 0 := by simp [List.getD, List.getElem?_append_left h]
    rw [e]; exact ha i
  · have e : (a ++ b).getD i 0 = b.getD (i - a.length) 0 := by simp [List.getD, List.getElem?_append_right (by omega : a.length ≤ i)]
    rw [e]; exact hb _

/-- what appendEscape leaves: a slice that reads as zs -/
def Out (w : World) (v : Value) (zs : List Int) : Prop := ∃ g cap, v = .slice (some ⟨g, 0, none⟩) zs.length cap ∧ Row w (some ⟨g, 0, none⟩) zs.length zs

theorem below_append {base : Nat} {w w' : World} {o : Obj} {v : Value} {n : Nat} {xs : List Value} (hg : (w.alloc o).grownBy w' v.ownBlock) (hown : w.ownsRow base 5 1 v n xs) (hb : base ≤ w.heap.size) : Below base w w' :=
  ((Below.refl base w).alloc hb o).grown hg (by simp; omega) (fun k hk => (hown.lt k hk).1)

/-- the short escape of r, if it has one -/
def ShortOf (r x : Int) : Prop := (r = 34 ∧ x = 34) ∨ (r = 92 ∧ x = 92) ∨ (r = 8 ∧ x = 98) ∨ (r = 12 ∧ x = 102) ∨ (r = 10 ∧ x = 110) ∨ (r = 13 ∧ x = 114) ∨ (r = 9 ∧ x = 116)

theorem two_bd {x : Int} (h0 : 0 ≤ x) (h1 : x ≤ 255) : ∀ i, 0 ≤ ([92, x] : List Int).getD i 0 ∧ ([92, x] : List Int).getD i 0 ≤ 255 := by
  intro i
  match i with
  | 0 => exact ⟨by simp, by simp⟩
  | 1 => exact ⟨by simpa using h0, by simpa using h1⟩
  | n + 2 => exact ⟨by simp, by simp⟩

theorem news_of (w : World) (vs : List Value) : ∀ j u, vs[j]? = some u → (w.alloc (.cells vs.toArray 5)).cell? ((⟨w.heap.size, 0, none⟩ : Addr).add j) = some u := by
  intro j u hj
  obtain ⟨hlt, rfl⟩ := List.getElem?_eq_some_iff.1 hj
  have e1 : (⟨w.heap.size, 0, none⟩ : Addr).add j = ⟨w.heap.size, j, none⟩ := by unfold Addr.add; split <;> simp_all
  rw [e1]
  exact (Blk.new w 5 vs).cell j hlt
theorem ints_one (l : List Int) : ∀ u ∈ l.map (Value.int .u8), u.oneCell' = true := by
  intro u hu
  simp only [List.mem_map] at hu
  obtain ⟨x, _, rfl⟩ := hu
  rfl
theorem out_of {w : World} {base g n cap m : Nat} {zs es : List Int} (h : w.ownsRow base 5 1 (.slice (some ⟨g, 0, none⟩) (n + m) cap) (n + m) (zs.map (Value.int .u8) ++ es.map (Value.int .u8))) (hz : zs.length = n) (he : es.length = m)
    (hb : ∀ i, 0 ≤ zs.getD i 0 ∧ zs.getD i 0 ≤ 255) (hb' : ∀ i, 0 ≤ es.getD i 0 ∧ es.getD i 0 ≤ 255) : Out w (.slice (some ⟨g, 0, none⟩) (n + m) cap) (zs ++ es) := by
  have hl : (zs ++ es).length = n + m := by rw [List.length_append, hz, he]
  refine ⟨g, cap, by rw [hl], ?_⟩
  rw [← List.map_append] at h
  rw [hl]
  exact Row.of_owns h hl (bd_append hb hb')

set_option maxHeartbeats 1000000 in
theorem esc_short (base : Nat) (v : Value) (n : Nat) (zs : List Int) (r x : Int) (w : World) (hown : w.ownsRow base 5 1 v n (zs.map (Value.int .u8))) (hn : zs.length = n) (hbd : ∀ i, 0 ≤ zs.getD i 0 ∧ zs.getD i 0 ≤ 255) (h20 : n ≤ 1048576) (hbw : base ≤ w.heap.size) (hs : ShortOf r x) :
    Calls Try.prog 24 #[v, .int .i32 r] w fun e w' => ∃ v', e = .returned v' ∧ Out w' v' (zs ++ [92, x]) ∧ Below base w w' := by
  obtain ⟨i0, hi, hz0, hz1, hz2⟩ := info_parts info5
  have HN := hide hn
  have HB := hide hbd
  clear hn hbd
  rcases hs with ⟨rfl, rfl⟩ | ⟨rfl, rfl⟩ | ⟨rfl, rfl⟩ | ⟨rfl, rfl⟩ | ⟨rfl, rfl⟩ | ⟨rfl, rfl⟩ | ⟨rfl, rfl⟩
  · go_enter Try.func24, Try.ntmps24
    go_wp2_with (at_builtin; refine wpList_append_lies _ rfl _ _ 22 rfl base 5 i0 (.int .u8 0) 1 1 Try.underlying22 hi hz0 hz1 hz2 rfl (by decide) v n _ rfl (hown.alloc _) ⟨w.heap.size, 0, none⟩ 2 2 [.int .u8 92, .int .u8 34] rfl rfl (news_of w _) (ints_one [92, 34]) (by decide) ?c3 ?c4 ?c5 _ rfl ?_)
    case c3 => unfold maxLen; omega
    case c4 => omega
    case c5 => simp; omega
    intro g cap w1 hown1 hgrow _ _
    go_wp2
    go_ret
    exact ⟨_, rfl, out_of (es := [92, 34]) hown1 HN.out rfl HB.out (two_bd (by decide) (by decide)), below_append hgrow hown hbw⟩
  · go_enter Try.func24, Try.ntmps24
    go_wp2_with (at_builtin; refine wpList_append_lies _ rfl _ _ 22 rfl base 5 i0 (.int .u8 0) 1 1 Try.underlying22 hi hz0 hz1 hz2 rfl (by decide) v n _ rfl (hown.alloc _) ⟨w.heap.size, 0, none⟩ 2 2 [.int .u8 92, .int .u8 92] rfl rfl (news_of w _) (ints_one [92, 92]) (by decide) ?c3 ?c4 ?c5 _ rfl ?_)
    case c3 => unfold maxLen; omega
    case c4 => omega
    case c5 => simp; omega
    intro g cap w1 hown1 hgrow _ _
    go_wp2
    go_ret
    exact ⟨_, rfl, out_of (es := [92, 92]) hown1 HN.out rfl HB.out (two_bd (by decide) (by decide)), below_append hgrow hown hbw⟩
  · go_enter Try.func24, Try.ntmps24
    go_wp2_with (at_builtin; refine wpList_append_lies _ rfl _ _ 22 rfl base 5 i0 (.int .u8 0) 1 1 Try.underlying22 hi hz0 hz1 hz2 rfl (by decide) v n _ rfl (hown.alloc _) ⟨w.heap.size, 0, none⟩ 2 2 [.int .u8 92, .int .u8 98] rfl rfl (news_of w _) (ints_one [92, 98]) (by decide) ?c3 ?c4 ?c5 _ rfl ?_)
    case c3 => unfold maxLen; omega
    case c4 => omega
    case c5 => simp; omega
    intro g cap w1 hown1 hgrow _ _
    go_wp2
    go_ret
    exact ⟨_, rfl, out_of (es := [92, 98]) hown1 HN.out rfl HB.out (two_bd (by decide) (by decide)), below_append hgrow hown hbw⟩
  · go_enter Try.func24, Try.ntmps24
    go_wp2_with (at_builtin; refine wpList_append_lies _ rfl _ _ 22 rfl base 5 i0 (.int .u8 0) 1 1 Try.underlying22 hi hz0 hz1 hz2 rfl (by decide) v n _ rfl (hown.alloc _) ⟨w.heap.size, 0, none⟩ 2 2 [.int .u8 92, .int .u8 102] rfl rfl (news_of w _) (ints_one [92, 102]) (by decide) ?c3 ?c4 ?c5 _ rfl ?_)
    case c3 => unfold maxLen; omega
    case c4 => omega
    case c5 => simp; omega
    intro g cap w1 hown1 hgrow _ _
    go_wp2
    go_ret
    exact ⟨_, rfl, out_of (es := [92, 102]) hown1 HN.out rfl HB.out (two_bd (by decide) (by decide)), below_append hgrow hown hbw⟩
  · go_enter Try.func24, Try.ntmps24
    go_wp2_with (at_builtin; refine wpList_append_lies _ rfl _ _ 22 rfl base 5 i0 (.int .u8 0) 1 1 Try.underlying22 hi hz0 hz1 hz2 rfl (by decide) v n _ rfl (hown.alloc _) ⟨w.heap.size, 0, none⟩ 2 2 [.int .u8 92, .int .u8 110] rfl rfl (news_of w _) (ints_one [92, 110]) (by decide) ?c3 ?c4 ?c5 _ rfl ?_)
    case c3 => unfold maxLen; omega
    case c4 => omega
    case c5 => simp; omega
    intro g cap w1 hown1 hgrow _ _
    go_wp2
    go_ret
    exact ⟨_, rfl, out_of (es := [92, 110]) hown1 HN.out rfl HB.out (two_bd (by decide) (by decide)), below_append hgrow hown hbw⟩
  · go_enter Try.func24, Try.ntmps24
    go_wp2_with (at_builtin; refine wpList_append_lies _ rfl _ _ 22 rfl base 5 i0 (.int .u8 0) 1 1 Try.underlying22 hi hz0 hz1 hz2 rfl (by decide) v n _ rfl (hown.alloc _) ⟨w.heap.size, 0, none⟩ 2 2 [.int .u8 92, .int .u8 114] rfl rfl (news_of w _) (ints_one [92, 114]) (by decide) ?c3 ?c4 ?c5 _ rfl ?_)
    case c3 => unfold maxLen; omega
    case c4 => omega
    case c5 => simp; omega
    intro g cap w1 hown1 hgrow _ _
    go_wp2
    go_ret
    exact ⟨_, rfl, out_of (es := [92, 114]) hown1 HN.out rfl HB.out (two_bd (by decide) (by decide)), below_append hgrow hown hbw⟩
  · go_enter Try.func24, Try.ntmps24
    go_wp2_with (at_builtin; refine wpList_append_lies _ rfl _ _ 22 rfl base 5 i0 (.int .u8 0) 1 1 Try.underlying22 hi hz0 hz1 hz2 rfl (by decide) v n _ rfl (hown.alloc _) ⟨w.heap.size, 0, none⟩ 2 2 [.int .u8 92, .int .u8 116] rfl rfl (news_of w _) (ints_one [92, 116]) (by decide) ?c3 ?c4 ?c5 _ rfl ?_)
    case c3 => unfold maxLen; omega
    case c4 => omega
    case c5 => simp; omega
    intro g cap w1 hown1 hgrow _ _
    go_wp2
    go_ret
    exact ⟨_, rfl, out_of (es := [92, 116]) hown1 HN.out rfl HB.out (two_bd (by decide) (by decide)), below_append hgrow hown hbw⟩
end Go.Proofs.Qxb6605550a
