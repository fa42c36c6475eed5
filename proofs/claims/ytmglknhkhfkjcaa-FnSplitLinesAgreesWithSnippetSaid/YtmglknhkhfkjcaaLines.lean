/-
  The walks of zzLines and SplitLines: what they hand back, and that nothing that was there has turned. Condition: the text has at most 1048576 bytes.
-/
import Derived.Test.YtmglknhkhfkjcaaProg
import Derived.Test.YtmglknhkhfkjcaaPlain
import Derived.WalkKit
import Derived.WalkLawsBesides
import Derived.WalkSpells
import Derived.Lib.Hide
namespace Go.Proofs.Ytmglknhkhfkjcaa
open Go.RowKit

theorem Try.info9 : (Try.prog.info? 9).map (fun i => (i.zero, i.size, i.bytes)) = some (some (.string ⟨#[]⟩), 1, 16) := by kernel_rfl

/-- What zzLines hands back: a slice of the call's own, at a known block, that holds m + 1 strings, the last of them x. -/
def LinesPost (m : Nat) (ys : List ByteArray) (x : ByteArray) (w : World) (e : Ending) (w' : World) : Prop :=
  ∃ g cap, e = .returned (.slice (some ⟨g, 0, none⟩) (m + 1) cap) ∧ w.heap.size ≤ g ∧ w'.ownsRow w.heap.size 9 1 (.slice (some ⟨g, 0, none⟩) (m + 1) cap) (m + 1) (ys.map Value.string ++ [Value.string x]) ∧ Below w.heap.size w w'

theorem one_cell (w : World) (u : Value) (e : TypeId) : ∀ j x, [u][j]? = some x → (w.alloc (.cells #[u] e)).cell? ((⟨w.heap.size, 0, none⟩ : Addr).add j) = some x := by
  intro j x hj
  match j, hj with
  | 0, hj =>
    simp at hj; subst hj
    simp [Addr.add]

theorem one_str (s : ByteArray) : ∀ u ∈ [Value.string s], u.oneCell' = true := by
  intro u hu; simp at hu; subst hu; rfl

/-- A line is closed: what the append's law leaves, in the relation's words. -/
theorem rel_hit {s : ByteArray} {k : Nat} {w wr w1 : World} {v v' : Value} (h : bt s k = 10) (hnx : Below w.heap.size w wr) (hown : wr.ownsRow w.heap.size 9 1 v (nls s k) ((pcs s k).map Value.string)) {o : Obj}
    (hown' : w1.ownsRow w.heap.size 9 1 v' (nls s k + 1) ((pcs s k).map Value.string ++ [Value.string (s.extract (st s k) (k + 1))])) (hg : (wr.alloc o).grownBy w1 v.ownBlock) :
    w1.ownsRow w.heap.size 9 1 v' (nls s (k + 1)) ((pcs s (k + 1)).map Value.string) ∧ Below w.heap.size w w1 := by
  have hz := hnx.size
  refine ⟨?_, (hnx.alloc hz o).grown hg (by simp; omega) (fun g hgk => (hown.lt g hgk).1)⟩
  rw [nls_hit s k h, pcs_hit s k h, List.map_append]
  exact hown'

theorem rel_end {s : ByteArray} {x : ByteArray} {w wr w1 : World} {v v' : Value} (hnx : Below w.heap.size w wr) (hown : wr.ownsRow w.heap.size 9 1 v (nls s s.size) ((pcs s s.size).map Value.string)) {o : Obj}
    (hown' : w1.ownsRow w.heap.size 9 1 v' (nls s s.size + 1) ((pcs s s.size).map Value.string ++ [Value.string x])) (hg : (wr.alloc o).grownBy w1 v.ownBlock) :
    LinesPost (nls s s.size) (pcs s s.size) x w (.returned v') w1 := by
  have hz := hnx.size
  rcases hown'.2 with ⟨_, h0⟩ | ⟨g, cap, cur, rfl, hbg, _⟩
  · omega
  · exact ⟨g, cap, rfl, hbg, hown', (hnx.alloc hz o).grown hg (by simp; omega) (fun g hgk => (hown.lt g hgk).1)⟩

set_option maxHeartbeats 1600000 in
set_option maxRecDepth 1000000 in
theorem zzLines_any (s : ByteArray) (w : World) (hs : s.size ≤ 1048576) :
    Calls Try.prog 12 #[.string s] w (LinesPost (nls s s.size) (pcs s s.size) (s.extract (st s s.size) s.size) w) := by
  obtain ⟨i0, hi, hz0, hz1, hz2⟩ := info_parts Try.info9
  go_enter Try.func12, Try.ntmps12
  go_wp2
  go_loopw [3, 4, 5] (fun v a i wr => ∃ k : Nat, k ≤ s.size ∧ i = .int .i64 k ∧ a = .int .i64 (st s k) ∧ wr.ownsRow w.heap.size 9 1 v (nls s k) ((pcs s k).map Value.string) ∧ Below w.heap.size w wr) (fun _ _ i _ => s.size - (intOf i).toNat)
  case atStart => exact ⟨0, Nat.zero_le _, rfl, rfl, World.ownsRow_nil _ _ _ _, Below.refl _ _⟩
  case round =>
    obtain ⟨k, hk, rfl, rfl, hown, hnx⟩ := hrel
    have hst := st_le s k
    have hnl := nls_le s k
    by_cases hlt : k < s.size
    · by_cases hb : bt s k = 10
      · have hq : ((s[k].toNat : Int) == 10) = true := by rw [← bt_eq s k hlt, hb]; rfl
        go_wp2_with (at_builtin; refine wpList_append_own _ rfl _ _ 23 rfl w.heap.size 9 i0 (.string ⟨#[]⟩) 1 16 Try.underlying23 hi hz0 hz1 hz2 rfl (by decide) _ _ _ rfl (hown.alloc _) ⟨wr.heap.size, 0, none⟩ 1 1 [.string (s.extract (st s k) (k + 1))] rfl rfl ?c1 ?c2 ?c3 ?c4 ?c5 ?_)
        case c1 => exact one_cell _ _ _
        case c2 => exact one_str _
        case c3 => unfold maxLen; omega
        case c4 => omega
        case c5 => have := hnx.size; simp; omega
        intro v' w1 hown' hgrow _
        have R := rel_hit hb hnx hown hown' hgrow
        have hst' := st_hit s k hb
        have H := Lib.hid hst'
        have H2 := Lib.hid hb
        clear hown' hgrow hown hst' hb
        go_wp2
        go_roundw
        case rel => exact ⟨k + 1, by omega, by go_num, by rw [H.out]; go_num, R.1, R.2⟩
        case measure => simp [intOf]; omega
      · have hq : ((s[k].toNat : Int) == 10) = false := by
          rw [bt_eq s k hlt] at hb
          simp only [beq_eq_false_iff_ne, ne_eq]; omega
        have H := Lib.hid hb
        clear hb
        go_wp2
        go_roundw
        case rel => exact ⟨k + 1, by omega, by go_num, by rw [st_miss s k H.out], by rw [nls_miss s k H.out, pcs_miss s k H.out]; exact hown, hnx⟩
        case measure => simp [intOf]; omega
    · obtain rfl : k = s.size := by omega
      go_wp2_with (at_builtin; refine wpList_append_own _ rfl _ _ 23 rfl w.heap.size 9 i0 (.string ⟨#[]⟩) 1 16 Try.underlying23 hi hz0 hz1 hz2 rfl (by decide) _ _ _ rfl (hown.alloc _) ⟨wr.heap.size, 0, none⟩ 1 1 [.string (s.extract (st s s.size) s.size)] rfl rfl ?c6 ?c7 ?c8 ?c9 ?c10 ?_)
      case c6 => exact one_cell _ _ _
      case c7 => exact one_str _
      case c8 => unfold maxLen; omega
      case c9 => omega
      case c10 => have := hnx.size; simp; omega
      intro v' w1 hown' hgrow _
      have R := rel_end hnx hown hown' hgrow
      clear hown' hgrow hown
      go_wp2
      go_ret
      exact R

/-- What SplitLines leaves: a slice of the call's own, at a known block, that holds the lines. -/
def SplitPost (s : ByteArray) (w : World) (e : Ending) (w' : World) : Prop :=
  ∃ g cap, e = .returned (.slice (some ⟨g, 0, none⟩) (nls s s.size + 1) cap) ∧ w.heap.size ≤ g ∧ g < w'.heap.size ∧ (∀ i, i < nls s s.size + 1 → w'.cell? ⟨g, i, none⟩ = some (.string ((lns s).getD i ByteArray.empty))) ∧ Below w.heap.size w w'

theorem lns_at (s : ByteArray) (i : Nat) (h : i < nls s s.size + 1) : (lns s)[i]? = some ((lns s).getD i ByteArray.empty) := by
  have hl : i < (lns s).length := by rw [lns_length]; exact h
  rw [getD_at _ _ _ hl, List.getElem?_eq_getElem hl]

theorem split_end {s : ByteArray} {w w1 : World} {g cap : Nat} (hown : w1.ownsRow w.heap.size 9 1 (.slice (some ⟨g, 0, none⟩) (nls s s.size + 1) cap) (nls s s.size + 1) ((pcs s s.size).map Value.string ++ [Value.string (s.extract (st s s.size) s.size)])) (hg : w.heap.size ≤ g) (hb : Below w.heap.size w w1) :
    SplitPost s w (.returned (.slice (some ⟨g, 0, none⟩) (nls s s.size + 1) cap)) (w1.setCell ⟨g, nls s s.size, none⟩ (.string (s.extract (st s s.size) s.size ++ nlb))) := by
  have hst := (hown.stored (nls s s.size) (.string (s.extract (st s s.size) s.size ++ nlb))).1
  have hlt := hown.lt g rfl
  refine ⟨g, cap, rfl, hg, by simp [World.setCell]; exact hlt.2, fun i hi => ?_, hb.setCell hg _⟩
  rw [hst.cellAt i (by omega)]
  have e : ((pcs s s.size).map Value.string ++ [Value.string (s.extract (st s s.size) s.size)]).set (nls s s.size) (.string (s.extract (st s s.size) s.size ++ nlb)) = (lns s).map Value.string := by
    rw [List.set_append_right _ _ (by rw [List.length_map, pcs_length]; exact Nat.le_refl _)]
    simp [lns, pcs_length]
  rw [e, List.getElem?_map, lns_at s i hi]
  rfl

set_option maxHeartbeats 1600000 in
set_option maxRecDepth 1000000 in
theorem split_any (s : ByteArray) (w : World) (hs : s.size ≤ 1048576) : Calls Try.prog 7 #[.string s] w (SplitPost s w) := by
  have hsz := nls_le s s.size
  go_enter Try.func7, Try.ntmps7
  go_wp2_with fail
  refine (zzLines_any s _ hs).mono ?_
  rintro e w1 ⟨g, cap, rfl, hg, hown, hb⟩
  have hc : w1.cell? ⟨g, nls s s.size, none⟩ = some (.string (s.extract (st s s.size) s.size)) := by
    rw [hown.cellAt _ (by omega), List.getElem?_append_right (by rw [List.length_map, pcs_length]; exact Nat.le_refl _)]
    simp [pcs_length]
  have hf := hown.frozenAt (nls s s.size)
  have hend := split_end hown hg hb
  have hex : (s.extract (st s s.size) s.size).size ≤ 1048576 := by rw [ByteArray.size_extract]; omega
  clear hown
  go_wp2
  go_ret
  exact hend
end Go.Proofs.Ytmglknhkhfkjcaa
