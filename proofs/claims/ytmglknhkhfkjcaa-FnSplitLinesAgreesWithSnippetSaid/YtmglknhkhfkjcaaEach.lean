/-
  The walk of FnSplitLinesEachLineEndsInItsOnlyNewline: for every string it returns true and writes nothing that was there.
-/
import Derived.Test.YtmglknhkhfkjcaaLines
namespace Go.Proofs.Ytmglknhkhfkjcaa
open Go.RowKit

def TruePost (w : World) (e : Ending) (w' : World) : Prop := e = .returned (.bool true) ∧ Below w.heap.size w w'

set_option maxHeartbeats 1600000 in
set_option maxRecDepth 1000000 in
theorem each_big (s : ByteArray) (w : World) (hs : 1048576 < s.size) (_hm : s.size ≤ 9223372036854775807) : Calls Try.prog 4 #[.string s] w (TruePost w) := by
  have hq : (1048576 : Int) < (s.size : Int) := by omega
  clear hs
  go_enter Try.func4, Try.ntmps4
  go_wp2
  go_ret
  exact ⟨rfl, Below.refl _ _⟩

set_option maxHeartbeats 1600000 in
set_option maxRecDepth 1000000 in
theorem each_fit (s : ByteArray) (w : World) (hs : s.size ≤ 1048576) : Calls Try.prog 4 #[.string s] w (TruePost w) := by
  have hm := nls_le s s.size
  have hq : ¬ ((1048576 : Int) < (s.size : Int)) := by omega
  go_enter Try.func4, Try.ntmps4
  go_wp2_with (first | (go_at_call 7; refine (split_any s _ hs).mono ?_; rintro e w1 ⟨g, cap, rfl, hg, hlt, hc, hb⟩) | go_in)
  have HC := Lib.hid hc
  clear hc
  go_loop [4, 5] (fun n i => ∃ k : Nat, k ≤ s.size ∧ i = .int .i64 k ∧ n = .int .i64 (nls s k)) (fun _ i => s.size - (intOf i).toNat)
  case atStart => exact ⟨0, Nat.zero_le _, rfl, rfl⟩
  case round =>
    obtain ⟨k, hk, rfl, rfl⟩ := hrel
    have hnl := nls_le s k
    by_cases hl : k < s.size
    · by_cases hb : bt s k = 10
      · have hq : ((s[k].toNat : Int) == 10) = true := by rw [← bt_eq s k hl, hb]; rfl
        have H := Lib.hid hb
        clear hb
        go_wp2
        go_round
        case rel => exact ⟨k + 1, by omega, by go_num, by rw [nls_hit s k H.out]; go_num⟩
        case measure => simp [intOf]; omega
      · have hq : ((s[k].toNat : Int) == 10) = false := by
          rw [bt_eq s k hl] at hb
          simp only [beq_eq_false_iff_ne, ne_eq]; omega
        have H := Lib.hid hb
        clear hb
        go_wp2
        go_round
        case rel => exact ⟨k + 1, by omega, by go_num, by rw [nls_miss s k H.out]⟩
        case measure => simp [intOf]; omega
    · obtain rfl : k = s.size := by omega
      go_wp2
      go_loop [36] (fun i => ∃ k : Nat, k ≤ nls s s.size + 1 ∧ i = .int .i64 k) (fun i => nls s s.size + 1 - (intOf i).toNat)
      case atStart => exact ⟨0, Nat.zero_le _, rfl⟩
      case round =>
        obtain ⟨k, hk2, rfl⟩ := hrel
        by_cases hl2 : k < nls s s.size + 1
        · have hcell := HC.out k hl2
          have hline := lns_line_at s k hl2
          have hsz := lns_size_at s k hl2
          generalize (lns s).getD k ByteArray.empty = p at hcell hline hsz
          obtain ⟨hp0, hp1, hp2⟩ := hline
          have hz0 : ((p.size : Int) == 0) = false := by simp only [beq_eq_false_iff_ne, ne_eq]; omega
          rw [bt_eq p _ (by omega)] at hp1
          have HP := Lib.hid hp2
          have HP1 := Lib.hid hp1
          clear hp2 hp1
          have hlast : ((p[p.size - 1].toNat : Int) != 10) = false := by rw [HP1.out]; rfl
          go_wp2
          go_loop [8] (fun j => ∃ q : Nat, q ≤ p.size - 1 ∧ j = .int .i64 q) (fun j => p.size - (intOf j).toNat)
          case atStart => exact ⟨0, Nat.zero_le _, rfl⟩
          case round =>
            obtain ⟨q, hq2, rfl⟩ := hrel
            by_cases hl3 : q < p.size - 1
            · have hno := HP.out q hl3
              have hq5 : q < p.size := by omega
              rw [bt_eq p _ hq5] at hno
              have hb5 : ((p[q].toNat : Int) == 10) = false := by simp only [beq_eq_false_iff_ne, ne_eq]; omega
              clear hno
              go_wp2
              go_round
              case rel => exact ⟨q + 1, by omega, by go_num⟩
              case measure => simp [intOf]; omega
            · go_wp2
              go_round
              case rel => exact ⟨k + 1, by omega, by go_num⟩
              case measure => simp [intOf]; omega
        · go_wp2
          go_ret
          exact ⟨rfl, hb⟩

theorem each_any (s : ByteArray) (w : World) (hm : s.size ≤ 9223372036854775807) : Calls Try.prog 4 #[.string s] w (TruePost w) := by
  by_cases h : s.size ≤ 1048576
  · exact each_fit s w h
  · exact each_big s w (by omega) hm
end Go.Proofs.Ytmglknhkhfkjcaa
