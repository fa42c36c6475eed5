/-
  The walk of FnSplitLinesAgreesWithSnippet: for every string and every int it returns true and writes nothing that was there.
-/
import Derived.Test.YtmglknhkhfkjcaaSnip
import Derived.Test.YtmglknhkhfkjcaaEach
namespace Go.Proofs.Ytmglknhkhfkjcaa
open Go.RowKit

set_option maxHeartbeats 1000000 in
set_option maxRecDepth 100000 in
theorem newSource_any (s : ByteArray) (w : World) : Calls Try.prog 8 #[.string s] w fun e w' => e = .returned (.agg #[.string s]) ∧ Below w.heap.size w w' := by
  go_enter Try.func8, Try.ntmps8
  go_wp2
  exact bodyPost_ret (v := .agg #[.string s]) (by simp [results, Try.results8, go_sem]) rfl ⟨rfl, (Below.refl _ _).alloc (Nat.le_refl _) _⟩

set_option maxHeartbeats 1600000 in
set_option maxRecDepth 1000000 in
theorem agree_big (s : ByteArray) (k : Int) (w : World) (hs : 1048576 < s.size) (_hm : s.size ≤ 9223372036854775807) : Calls Try.prog 3 #[.string s, .int .i64 k] w (TruePost w) := by
  have hq : (1048576 : Int) < (s.size : Int) := by omega
  clear hs
  go_enter Try.func3, Try.ntmps3
  go_wp2
  go_ret
  exact ⟨rfl, Below.refl _ _⟩

set_option maxHeartbeats 1600000 in
set_option maxRecDepth 1000000 in
theorem agree_empty (s : ByteArray) (k : Int) (w : World) (hs : s.size ≤ 1048576) (he : s.toList.isEmpty = true) : Calls Try.prog 3 #[.string s, .int .i64 k] w (TruePost w) := by
  have hq : ¬ ((1048576 : Int) < (s.size : Int)) := by omega
  go_enter Try.func3, Try.ntmps3
  go_wp2
  go_ret
  exact ⟨rfl, Below.refl _ _⟩

set_option maxHeartbeats 1600000 in
set_option maxRecDepth 1000000 in
theorem agree_out (s : ByteArray) (k : Int) (w : World) (hs : s.size ≤ 1048576) (he : s.toList.isEmpty = false) (hk : k < 1 ∨ (nls s s.size : Int) + 2 < k) : Calls Try.prog 3 #[.string s, .int .i64 k] w (TruePost w) := by
  have hq : ¬ ((1048576 : Int) < (s.size : Int)) := by omega
  have hm := nls_le s s.size
  rcases hk with hk | hk
  · go_enter Try.func3, Try.ntmps3
    go_wp2_with (first | (go_at_call 7; refine (split_any s _ hs).mono ?_; rintro e w1 ⟨g, cap, rfl, hg, hlt, hc, hb⟩; clear hc) | go_in)
    go_ret
    exact ⟨rfl, hb⟩
  · have h1 : ¬ k < 1 := by omega
    go_enter Try.func3, Try.ntmps3
    go_wp2_with (first | (go_at_call 7; refine (split_any s _ hs).mono ?_; rintro e w1 ⟨g, cap, rfl, hg, hlt, hc, hb⟩; clear hc) | go_in)
    go_ret
    exact ⟨rfl, hb⟩

set_option maxHeartbeats 1600000 in
set_option maxRecDepth 1000000 in
theorem agree_past (s : ByteArray) (w : World) (hs : s.size ≤ 1048576) (he : s.toList.isEmpty = false) : Calls Try.prog 3 #[.string s, .int .i64 ((nls s s.size : Int) + 2)] w (TruePost w) := by
  have hq : ¬ ((1048576 : Int) < (s.size : Int)) := by omega
  have hm := nls_le s s.size
  go_enter Try.func3, Try.ntmps3
  go_wp2_with (first | (go_at_call 7; refine (split_any s _ hs).mono ?_; rintro e w1 ⟨g, cap, rfl, hg, hlt, hc, hb⟩; clear hc) | (go_at_call 8; refine (newSource_any s _).mono ?_; rintro e w2 ⟨rfl, hb2⟩) | (go_at_call 9; refine (snip_no s _ hs he).mono ?_; rintro e w3 ⟨x, rfl, hb3⟩) | go_in)
  go_ret
  exact ⟨rfl, (hb.trans (hb2.mono hb.size)).trans (hb3.mono (Nat.le_trans hb.size hb2.size))⟩

theorem cell_after {s x : ByteArray} {m g : Nat} {w1 w2 w3 : World} (hlt : g < w1.heap.size) (hb2 : Below w1.heap.size w1 w2) (hb3 : Below w2.heap.size w2 w3) (hc : w1.cell? ⟨g, m, none⟩ = some (.string ((lns s).getD m ByteArray.empty))) (hx : x ++ nlb = ln s m) :
    w3.cell? ⟨g, m, none⟩ = some (.string (x ++ { data := #[10] })) := by
  rw [hb3.cell (p := ⟨g, m, none⟩) (Nat.lt_of_lt_of_le hlt hb2.size), hb2.cell (p := ⟨g, m, none⟩) hlt, hc]
  show _ = some (Value.string (x ++ nlb))
  rw [hx]
  rfl

theorem size_after {s x : ByteArray} {m : Nat} (hs : s.size ≤ 1048576) (hm : m < nls s s.size + 1) (hx : x ++ nlb = ln s m) : x.size ≤ 1048576 := by
  have h := lns_size_at s m hm
  have h2 := congrArg ByteArray.size hx
  rw [ByteArray.size_append, show nlb.size = 1 from rfl] at h2
  unfold ln at h2
  omega

set_option maxHeartbeats 1600000 in
set_option maxRecDepth 1000000 in
theorem agree_in (s : ByteArray) (m : Nat) (w : World) (hs : s.size ≤ 1048576) (he : s.toList.isEmpty = false) (hmn : m ≤ nls s s.size) : Calls Try.prog 3 #[.string s, .int .i64 ((m : Int) + 1)] w (TruePost w) := by
  have hq : ¬ ((1048576 : Int) < (s.size : Int)) := by omega
  have hm := nls_le s s.size
  have hne : ((m : Int) + 1 == (nls s s.size : Int) + 1 + 1) = false := by simp only [beq_eq_false_iff_ne, ne_eq]; omega
  go_enter Try.func3, Try.ntmps3
  go_wp2_with (first | (go_at_call 7; refine (split_any s _ hs).mono ?_; rintro e w1 ⟨g, cap, rfl, hg, hlt, hc, hb⟩; have HC := Lib.hid (hc m (by omega)); clear hc) | (go_at_call 8; refine (newSource_any s _).mono ?_; rintro e w2 ⟨rfl, hb2⟩) | (go_at_call 9; refine (snip_ok s m _ hs he hmn).mono ?_; rintro e w3 ⟨x, rfl, hx, hb3⟩; have hce := cell_after hlt hb2 hb3 HC.out hx; have hxz := size_after hs (by omega) hx; clear hx) | go_in)
  go_ret
  exact ⟨rfl, (hb.trans (hb2.mono hb.size)).trans (hb3.mono (Nat.le_trans hb.size hb2.size))⟩

theorem agree_any (s : ByteArray) (k : Int) (w : World) (hm : s.size ≤ 9223372036854775807) : Calls Try.prog 3 #[.string s, .int .i64 k] w (TruePost w) := by
  by_cases h : s.size ≤ 1048576
  · cases he : s.toList.isEmpty with
    | true => exact agree_empty s k w h he
    | false =>
      by_cases hk : k < 1 ∨ (nls s s.size : Int) + 2 < k
      · exact agree_out s k w h he hk
      · by_cases hp : k = (nls s s.size : Int) + 2
        · subst hp; exact agree_past s w h he
        · obtain ⟨m, rfl⟩ : ∃ m : Nat, k = (m : Int) + 1 := ⟨(k - 1).toNat, by omega⟩
          exact agree_in s m w h he (by omega)
  · exact agree_big s k w (by omega) hm
end Go.Proofs.Ytmglknhkhfkjcaa
