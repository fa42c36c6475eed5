/-
  The walk of FnSplitLinesJoinIsInputPlusNewline: for every string it returns true and writes nothing that was there.
-/
import Derived.Test.YtmglknhkhfkjcaaLines
import Derived.Test.YtmglknhkhfkjcaaJoinPlain
import Derived.Test.YtmglknhkhfkjcaaEach
import Derived.BigQuiet
import Derived.Deep.QuietTactic
namespace Go.Proofs.Ytmglknhkhfkjcaa
open Go.RowKit

theorem Try.info5 : (Try.prog.info? 5).map (fun i => (i.zero, i.size, i.bytes)) = some (some (.int .u8 0), 1, 1) := by kernel_rfl

theorem below_drewN {B : Nat} {a w : World} (h : Below B a w) (n : Nat) : Below B a (w.drewN n) := ⟨h.os, h.tape, h.output, h.size, h.block⟩

set_option maxHeartbeats 1600000 in
set_option maxRecDepth 1000000 in
theorem join_big (s : ByteArray) (w : World) (hs : 1048576 < s.size) (_hm : s.size ≤ 9223372036854775807) : Calls Try.prog 5 #[.string s] w (TruePost w) := by
  have hq : (1048576 : Int) < (s.size : Int) := by omega
  clear hs
  go_enter Try.func5, Try.ntmps5
  go_wp2
  go_ret
  exact ⟨rfl, Below.refl _ _⟩

set_option maxHeartbeats 1600000 in
set_option maxRecDepth 1000000 in
theorem join_fit (s : ByteArray) (w : World) (hs : s.size ≤ 1048576) : Calls Try.prog 5 #[.string s] w (TruePost w) := by
  obtain ⟨i5, hi, hz0, hz1, hz2⟩ := info_parts Try.info5
  have hm := nls_le s s.size
  have hq : ¬ ((1048576 : Int) < (s.size : Int)) := by omega
  go_enter Try.func5, Try.ntmps5
  go_wp2_with (first | (go_at_call 7; refine (split_any s _ hs).mono ?_; rintro e w1 ⟨g, cap, rfl, hg, hlt, hc, hb⟩) | go_in)
  have HC := Lib.hid hc
  clear hc
  go_loop [4, 22] (fun n i => ∃ k : Nat, k ≤ nls s s.size + 1 ∧ i = .int .i64 k ∧ n = .int .i64 (tot s k)) (fun _ i => nls s s.size + 1 - (intOf i).toNat)
  case atStart => exact ⟨0, Nat.zero_le _, rfl, rfl⟩
  case round =>
    obtain ⟨k, hk, rfl, rfl⟩ := hrel
    have htl := tot_le s k
    by_cases hl : k < nls s s.size + 1
    · have hcell := HC.out k hl
      have hts := tot_step s k hl
      have htl2 := tot_le s (k + 1)
      unfold ln at hts
      generalize (lns s).getD k ByteArray.empty = p at hcell hts
      have hle : tot s k + p.size ≤ s.size + 1 := by omega
      have HT := Lib.hid hts
      clear hts
      go_wp2
      go_round
      case rel => exact ⟨k + 1, by omega, by go_num, by rw [HT.out]; go_num⟩
      case measure => simp [intOf]; omega
    · obtain rfl : k = nls s s.size + 1 := by omega
      clear hl htl
      rw [tot_all s]
      go_wp2_with (at_make; refine wpList_make_own _ rfl _ _ 31 rfl w1.heap.size 5 i5 (.int .u8 0) 1 Try.underlying31 hi hz0 hz1 .i64 .i64 (↑s.size + 1) (s.size + 1) rfl rfl ?h1 ?h2 ?h3 ?h4 ?_)
      case h2 => omega
      case h3 => unfold maxLen; omega
      intro w2 hown hgr
      have hb2 : Below w1.heap.size w1 w2 := (Below.refl _ _).grown hgr (Nat.le_refl _) (fun k hk => by cases hk)
      clear hgr
      go_wp2_with fail
      go_loopw [7, 45] (fun b i wr => ∃ k gb cb : Nat, k ≤ nls s s.size + 1 ∧ i = .int .i64 k ∧ b = .slice (some ⟨gb, 0, none⟩) (tot s k) cb ∧ wr.ownsRow w1.heap.size 5 1 (.slice (some ⟨gb, 0, none⟩) (tot s k) cb) (tot s k) (cellsOf (glue ((lns s).take k))) ∧ Below w1.heap.size w1 wr) (fun _ i _ => nls s s.size + 1 - (intOf i).toNat)
      case atStart => exact ⟨0, _, _, Nat.zero_le _, rfl, rfl, hown, hb2⟩
      case round =>
        obtain ⟨k, gb, cb, hk2, rfl, rfl, hownr, hbr⟩ := hrel
        have htl := tot_le s k
        clear hown hb2
        by_cases hl2 : k < nls s s.size + 1
        · have hcell : wr.cell? ⟨g, k, none⟩ = some (.string (ln s k)) := (hbr.cell (p := ⟨g, k, none⟩) hlt).trans (HC.out k hl2)
          have hle : tot s k + (ln s k).size ≤ s.size + 1 := by rw [← tot_step s k hl2]; exact tot_le s (k + 1)
          have HT := Lib.hid (tot_step s k hl2)
          have HS := Lib.hid (cells_step s k hl2)
          generalize ln s k = p at hcell hle HT HS
          go_wp2_with (at_builtin; refine Lib.wpList_append_own_string _ rfl _ _ 31 9 rfl w1.heap.size 5 i5 Try.underlying31 Try.underlying9 hi hz0 hz1 hz2 _ _ _ rfl hownr p rfl ?c3 ?c4 ?c5 ?_)
          case c3 => unfold maxLen; omega
          case c4 => omega
          case c5 => exact hbr.size
          intro v' w3 hown3 hgr3 _
          have hb3 : Below w1.heap.size w1 w3 := hbr.grown hgr3 hbr.size (fun k hk => (hownr.lt k hk).1)
          rw [← HS.out, ← HT.out] at hown3
          have hform : ∃ gb2 cb2, v' = .slice (some ⟨gb2, 0, none⟩) (tot s (k + 1)) cb2 := by
            rcases hown3.2 with ⟨e1, e2⟩ | ⟨gb2, cb2, _, e, _⟩
            · rename_i hnn; exact absurd e1 (hnn)
            · exact ⟨gb2, cb2, e⟩
          obtain ⟨gb2, cb2, hv⟩ := hform
          rw [hv] at hown3
          have HV := Lib.hid hv
          have HO := Lib.hid hown3
          clear hgr3 hownr hbr hv hown3
          go_wp2
          go_roundw
          case rel => exact ⟨k + 1, gb2, cb2, by omega, by go_num, HV.out, HO.out, hb3⟩
          case measure => simp [intOf]; omega
        · obtain rfl : k = nls s s.size + 1 := by omega
          rw [tot_all s] at hownr
          rw [tot_all s]
          clear hl2 htl
          go_wp2_with fail
          obtain ⟨W, hW⟩ : ∃ W, W = s ++ nlb := ⟨_, rfl⟩
          rw [show (s ++ { data := #[10] } : ByteArray) = W from hW.symm]
          have hWz : W.size = s.size + 1 := by rw [hW, ByteArray.size_append]; rfl
          have HW := Lib.hid hW
          have HO := Lib.hid hownr
          have HWz := Lib.hid hWz
          have hz1 : W.size ≤ s.size + 1 := by omega
          have hz2 : s.size + 1 ≤ W.size := by omega
          clear hW hWz hownr
          obtain ⟨wo, rfl⟩ : ∃ wo : World, wo = wr := ⟨_, rfl⟩
          go_loopw [11] (fun i wz => ∃ q n : Nat, q ≤ s.size + 1 ∧ i = .int .i64 q ∧ wz = wo.drewN n) (fun i _ => s.size + 1 - (intOf i).toNat)
          case atStart => exact ⟨0, 0, Nat.zero_le _, rfl, rfl⟩
          case round =>
            obtain ⟨q, n, hq2, rfl, rfl⟩ := hrel
            by_cases hl3 : q < s.size + 1
            · have hqW : q < W.size := by omega
              have hcell : wo.cell? ⟨gb, q, none⟩ = some (.int .u8 (W[q].toNat)) := by
                rw [HO.out.cellAt q (by omega)]
                exact want_at s W HW.out q hqW
              go_wp2
              go_quiet (fail)
              go_wp2
              go_roundw
              case rel => exact ⟨q + 1, _, by omega, by go_num, rfl⟩
              case measure => simp [intOf]; omega
            · go_wp2
              go_ret
              exact ⟨rfl, below_drewN (hb.trans (hbr.mono (by have := hb.size; omega))) n⟩

theorem join_any (s : ByteArray) (w : World) (hm : s.size ≤ 9223372036854775807) : Calls Try.prog 5 #[.string s] w (TruePost w) := by
  by_cases h : s.size ≤ 1048576
  · exact join_fit s w h
  · exact join_big s w (by omega) hm
end Go.Proofs.Ytmglknhkhfkjcaa
