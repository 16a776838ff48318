import Derived.Test.Qxb6605535aWords
namespace Go.Proofs.Qxb6605535a
open Go.RowKit
open Lib (byteCells strCells)
set_option linter.unusedVariables false

theorem strOf_bytes (l : List UInt8) : strOfNums (l.map fun b => (b.toNat : Int)) = ⟨l.toArray⟩ := by
  apply ByteArray.ext
  show ((l.map fun b => (b.toNat : Int)).map fun n => UInt8.ofNat n.toNat).toArray = l.toArray
  rw [List.map_map]
  congr 1
  have : ((fun n : Int => UInt8.ofNat n.toNat) ∘ fun b : UInt8 => (b.toNat : Int)) = id := by
    funext b; simp
  rw [this, List.map_id]

/-- string(buf), buf a slice of the call's own -/
theorem conv_own {w : World} {base : Nat} {v : Value} {l : List UInt8} (h : w.ownsRow base 5 1 v l.length (byteCells l)) :
    (convert 38 9 v).run Try.prog w = .ok (.string ⟨l.toArray⟩) w := by
  have hk := h
  rcases h.2 with ⟨rfl, h0⟩ | ⟨g, cap, cur, rfl, hbg, hg, hnc, hcm, hcs, htake⟩
  · have : l = [] := List.eq_nil_of_length_eq_zero h0
    subst this
    exact run_convert_bytes_nil w 38 5 Try.underlying38 Try.underlying5 0 0 9 Try.underlying9
  · rw [← strOf_bytes]
    refine run_convert_bytes_arg w 38 5 Try.underlying38 Try.underlying5 g 0 l.length cap _ (by simp) (fun i hi => ?_) 9 Try.underlying9
    have := hk.cells (g := g) rfl i (.int .u8 l[i].toNat) (by simp [byteCells, hi])
    have e1 : (⟨g, 0, none⟩ : Addr).add i = ⟨g, 0 + i, none⟩ := by unfold Addr.add; split <;> simp_all
    rw [e1] at this
    rw [this]
    simp [List.getD, hi]

set_option maxHeartbeats 1000000 in
theorem join_any (a : Option Addr) (len cap : Nat) (ss : List ByteArray) (w : World) (hr : RowS w a len ss) (hsum : sm ss + len ≤ 1048576) :
    Calls Try.prog 16 #[.slice a len cap] w fun e w' => e = .returned (.string ⟨(tx ss).toArray⟩) ∧ Below w.heap.size w w' := by
  have HL := hide hr.hlen
  obtain ⟨i0, hi, hz0, hz1, hz2⟩ := info_parts info5
  have HTX : Hid (tx (ss.take len) = tx ss) := hide (by rw [List.take_of_length_le (by rw [HL.out]; exact Nat.le_refl _)])
  go_enter Try.func16, Try.ntmps16
  go_wp2
  go_loop [3] (fun kk => ∃ k : Nat, k ≤ len ∧ kk = .int .i64 k ∧ Hid (tx (ss.take k) = [])) (fun kk => len - (intOf kk).toNat)
  case atStart => exact ⟨0, Nat.zero_le _, rfl, hide rfl⟩
  case round =>
    obtain ⟨k, hk, rfl, HK⟩ := hrel
    by_cases hgo : k < len ∧ (wordAt ss k).data.toList = []
    · obtain ⟨hlt, he⟩ := hgo
      obtain ⟨b, off, rfl, hb, hc⟩ := hr.mem (by omega)
      have hck := hc k hlt
      have hemp := (empty_iff _).2 he
      have HN : Hid (tx (ss.take (k + 1)) = []) := hide (by rw [tx_next ss k (by rw [HL.out]; exact hlt), HK.out, he]; rfl)
      generalize wordAt ss k = s at hck hemp he
      clear hc he
      go_wp2
      go_round
      case rel => exact ⟨k + 1, by omega, by go_num, HN⟩
      case measure => simp [intOf]; omega
    · have HG := hide hgo
      clear hgo
      have hstop : k < len → (wordAt ss k).data.toList ≠ [] := fun h1 h2 => HG.out ⟨h1, h2⟩
      have HST := hide hstop
      clear hstop HG
      by_cases hlt : k < len
      · obtain ⟨b, off, rfl, hb, hc⟩ := hr.mem (by omega)
        have hck := hc k hlt
        have hemp : (wordAt ss k).toList.isEmpty = false := by
          rcases Bool.eq_false_or_eq_true (wordAt ss k).toList.isEmpty with h | h
          · exact absurd ((empty_iff _).1 h) (HST.out hlt)
          · exact h
        have HC := hide hc
        clear hc
        generalize hws : wordAt ss k = sk at hck hemp
        have HWS := hide hws
        clear hws
        go_wp2
        clear hck hemp
        go_loopw [4, 5] (fun v i wr => ∃ n : Nat, k ≤ n ∧ n ≤ len ∧ i = .int .i64 n ∧ wr.ownsRow w.heap.size 5 1 v (tx (ss.take n)).length (byteCells (tx (ss.take n))) ∧ Hid (k < n → tx (ss.take n) ≠ []) ∧ Below w.heap.size w wr) (fun _ i _ => len - (intOf i).toNat)
        case atStart => exact ⟨k, Nat.le_refl _, hk, rfl, by rw [HK.out]; exact World.ownsRow_nil _ _ _ _, hide fun h => absurd h (Nat.lt_irrefl _), Below.refl _ _⟩
        case round =>
          obtain ⟨n, hkn, hn, rfl, hown, HNE, hbel⟩ := hrel
          by_cases hnl : n < len
          · have HNX := hide (tx_next ss n (by rw [HL.out]; exact hnl))
            have hb1 := tx_len ss n (by rw [HL.out]; exact hn)
            have hb2 := sm_at ss n (by rw [HL.out]; exact hnl)
            have hcn : wr.cell? ⟨b, off + n, none⟩ = some (.string (wordAt ss n)) := (hbel.cell (p := ⟨b, off + n, none⟩) hb).trans (HC.out n hnl)
            have HNE2 : Hid (tx (ss.take (n + 1)) ≠ []) := hide (by
              rw [HNX.out]
              apply stp_ne
              by_cases e : k < n
              · exact .inl (HNE.out e)
              · obtain rfl : n = k := by omega
                exact .inr (HST.out hlt))
            have HW := hide hbel.size
            generalize hs : wordAt ss n = s at hcn hb2 HNX
            have HS := hide hs
            clear hs
            by_cases hfirst : k < n
            · have HT := hide (stp_more (HNE.out hfirst) s.data.toList)
              have hb3 : (tx (ss.take n)).length + 1 + s.size ≤ 2097152 := by omega
              generalize tx (ss.take n) = l at *
              go_wp2_with (at_builtin; refine wpList_append_own _ rfl (.tmp 29) (.tmp 30) 38 rfl w.heap.size 5 i0 (.int .u8 0) 1 1 Try.underlying38 hi hz0 hz1 hz2 rfl (by decide) _ _ _ rfl (hown.alloc _) ⟨wr.heap.size, 0, none⟩ 1 1 [.int .u8 32] rfl rfl ?c1 ?c2 ?c3 ?c4 ?c5 ?_)
              case c1 =>
                intro j u hj
                match j, hj with
                | 0, hj => simp at hj; subst hj; simp [Addr.add]
              case c2 => intro u hu; simp at hu; subst hu; rfl
              case c3 => unfold maxLen; omega
              case c4 => omega
              case c5 => have := HW.out; simp; omega
              intro v1 w1 hown1 hgrow1 _
              have hB1 := (hbel.alloc HW.out (.cells #[.int .u8 32] 5)).grown hgrow1 (by have := HW.out; simp; omega) (fun k hk => (hown.lt k hk).1)
              have hcn1 : w1.cell? ⟨b, off + n, none⟩ = some (.string s) := by rw [hB1.cell (p := ⟨b, off + n, none⟩) hb, HC.out n hnl, HS.out]
              clear hcn hgrow1
              go_wp2_with (at_builtin; refine Lib.wpList_append_own_string _ rfl (.tmp 32) (.tmp 36) 38 9 rfl w.heap.size 5 i0 Try.underlying38 Try.underlying9 hi hz0 hz1 hz2 _ _ _ rfl hown1 s rfl ?d3 ?d4 ?d5 ?_)
              case d3 => unfold maxLen; omega
              case d4 => omega
              case d5 => exact hB1.size
              intro v2 w2 hown2 hgrow2 _
              have hB2 := hB1.grown hgrow2 hB1.size (fun k hk => (hown1.lt k hk).1)
              have hownF : w2.ownsRow w.heap.size 5 1 v2 (tx (ss.take (n + 1))).length (byteCells (tx (ss.take (n + 1)))) := by
                rw [HNX.out, HT.out, byteCells_append, byteCells_append, List.length_append, List.length_append, dat_len, ← strCells_eq, List.append_assoc]
                exact hown2
              clear hown hown1 hown2 hgrow2
              go_wp2
              go_roundw
              case rel => exact ⟨n + 1, by omega, by omega, by go_num, hownF, hide fun _ => HNE2.out, hB2⟩
              case measure => simp [intOf]; omega
            · have HT : Hid (stp (tx (ss.take n)) s.data.toList = s.data.toList) := hide (by
                obtain rfl : n = k := by omega
                rw [HK.out]; rfl)
              have HLN : Hid (tx (ss.take n) = []) := hide (by
                obtain rfl : n = k := by omega
                exact HK.out)
              have hb3 : (tx (ss.take n)).length + 1 + s.size ≤ 2097152 := by omega
              generalize tx (ss.take n) = l at *
              go_wp2_with (at_builtin; refine Lib.wpList_append_own_string _ rfl (.tmp 32) (.tmp 36) 38 9 rfl w.heap.size 5 i0 Try.underlying38 Try.underlying9 hi hz0 hz1 hz2 _ _ _ rfl hown s rfl ?d3 ?d4 ?d5 ?_)
              case d3 => unfold maxLen; omega
              case d4 => omega
              case d5 => exact HW.out
              intro v2 w2 hown2 hgrow2 _
              have hB2 := hbel.grown hgrow2 HW.out (fun k hk => (hown.lt k hk).1)
              have hownF : w2.ownsRow w.heap.size 5 1 v2 (tx (ss.take (n + 1))).length (byteCells (tx (ss.take (n + 1)))) := by
                rw [HNX.out, HT.out, dat_len, ← strCells_eq]
                rw [HLN.out] at hown2
                simpa [byteCells] using hown2
              clear hown hown2 hgrow2
              go_wp2
              go_roundw
              case rel => exact ⟨n + 1, by omega, by omega, by go_num, hownF, hide fun _ => HNE2.out, hB2⟩
              case measure => simp [intOf]; omega
          · obtain rfl : n = len := by omega
            rw [HTX.out] at hown
            have hcv := conv_own hown
            clear hown
            go_wp2
            go_ret
            exact ⟨rfl, hbel⟩
      · have HKL : Hid (tx ss = []) := hide (by
          obtain rfl : k = len := by omega
          rw [← HTX.out]; exact HK.out)
        have hcv := run_convert_bytes_nil (P := Try.prog) w 38 5 Try.underlying38 Try.underlying5 0 0 9 Try.underlying9
        go_wp2
        go_loop [4, 5] (fun v i => v = .slice none 0 0 ∧ i = .int .i64 (k : Nat)) (fun _ _ => 0)
        case atStart => exact ⟨rfl, rfl⟩
        case round =>
          obtain ⟨rfl, rfl⟩ := hrel
          go_wp2
          go_ret
          exact ⟨by rw [HKL.out]; rfl, Below.refl _ _⟩
end Go.Proofs.Qxb6605535a
