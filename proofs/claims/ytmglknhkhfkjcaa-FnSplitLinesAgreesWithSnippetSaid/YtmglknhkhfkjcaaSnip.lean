/-
  The walks of strings.IndexByte, NewSource and Snippet.
-/
import Derived.Test.YtmglknhkhfkjcaaLines
import Derived.Test.YtmglknhkhfkjcaaSnipPlain
import Derived.Laws.StandIn
namespace Go.Proofs.Ytmglknhkhfkjcaa
open Go.RowKit

set_option maxHeartbeats 1000000 in
set_option maxRecDepth 100000 in
theorem idx14_any (t : ByteArray) (r : Int) (h : Lib.indexByte t.data.toList 10 = r) (w : World) :
    Calls Try.prog 14 #[.string t, .int .u8 10] w fun e w' => e = .returned (.int .i64 r) ∧ w = w' := by
  have H := Lib.hid h
  clear h
  go_enter Try.func14, Try.ntmps14
  go_wp2
  rw [run_callFunc_extern Try.func15 (by kernel_rfl) (by kernel_rfl) (by kernel_rfl) (e := Extern.BytealgIndexByte.indexByte) (by kernel_rfl), Lib.run_indexByteString]
  simp only [Result.andThen]
  rw [Oper.upon_value, show (10 : Int).toNat.toUInt8 = 10 from rfl, H.out]
  go_wp2
  go_ret
  exact ⟨rfl, rfl⟩

set_option maxHeartbeats 1000000 in
set_option maxRecDepth 100000 in
theorem idx_any (t : ByteArray) (r : Int) (h : Lib.indexByte t.data.toList 10 = r) (w : World) :
    Calls Try.prog 13 #[.string t, .int .u8 10] w fun e w' => e = .returned (.int .i64 r) ∧ w = w' := by
  have H := Lib.hid h
  clear h
  go_enter Try.func13, Try.ntmps13
  go_wp2_with (go_at_call 14; refine (idx14_any t r H.out _).mono ?_; rintro e w' ⟨rfl, rfl⟩)
  go_ret
  exact ⟨rfl, rfl⟩

def SnipOk (s : ByteArray) (m : Nat) (w : World) (e : Ending) (w' : World) : Prop :=
  ∃ x : ByteArray, e = .returned (.tuple #[.string x, .bool true]) ∧ x ++ nlb = ln s m ∧ Below w.heap.size w w'
def SnipNo (w : World) (e : Ending) (w' : World) : Prop := ∃ x : ByteArray, e = .returned (.tuple #[.string x, .bool false]) ∧ Below w.heap.size w w'

set_option maxHeartbeats 1600000 in
set_option maxRecDepth 1000000 in
theorem snip_ok (s : ByteArray) (M : Nat) (w : World) (hs : s.size ≤ 1048576) (he : s.toList.isEmpty = false) (hM : M ≤ nls s s.size) :
    Calls Try.prog 9 #[.agg #[.string s], .int .i64 ((M : Int) + 1)] w (SnipOk s M w) := by
  have hnl := nls_le s s.size
  go_enter Try.func9, Try.ntmps9
  go_wp2_with fail
  go_loop [6, 7] (fun a i => ∃ m : Nat, m ≤ M ∧ i = .int .i64 ((m : Int) + 1) ∧ a = .int .i64 (tot s m)) (fun _ i => M + 1 - (intOf i).toNat)
  case atStart => exact ⟨0, Nat.zero_le _, rfl, rfl⟩
  case round =>
    obtain ⟨m, hm, rfl, rfl⟩ := hrel
    by_cases hl : m < M
    · have hc := closed_line s m (by omega)
      obtain ⟨z, hz⟩ : ∃ z : Nat, (ln s m).size = z + 1 := ⟨(ln s m).size - 1, by have := (lns_line_at s m (by omega)).1; unfold ln; omega⟩
      have hi : fidx s m = (z : Int) := by rw [hc.1, hz]; omega
      have hlt : tot s m + z < s.size := by have := hc.2.2; omega
      have HT : Hid (tot s (m + 1) = tot s m + (z + 1)) := by show _ = _; rw [tot_step s m (by omega), hz]
      unfold fidx at hi
      have HI := Lib.hid hi
      clear hc hz hi
      go_wp2_with (go_at_call 13; refine (idx_any _ _ HI.out _).mono ?_; rintro e w' ⟨rfl, rfl⟩)
      go_round
      case rel => exact ⟨m + 1, by omega, by go_num, by rw [HT.out]; go_num⟩
      case measure => simp [intOf]; omega
    · obtain rfl : m = M := by omega
      clear hl
      have htl := tot_le2 s m (by omega)
      by_cases hlast : m < nls s s.size
      · have hc := closed_line s m hlast
        obtain ⟨z, hz⟩ : ∃ z : Nat, (ln s m).size = z + 1 := ⟨(ln s m).size - 1, by have := (lns_line_at s m (by omega)).1; unfold ln; omega⟩
        have hi : fidx s m = (z : Int) := by rw [hc.1, hz]; omega
        have hlt : tot s m + z < s.size := by have := hc.2.2; omega
        have hx : s.extract (tot s m) (tot s m + z) ++ nlb = ln s m := by
          have h := hc.2.1
          rw [hz, Nat.add_sub_cancel] at h
          exact h
        unfold fidx at hi
        have HI := Lib.hid hi
        have HX := Lib.hid hx
        clear hc hz hi hx
        go_wp2_with (go_at_call 13; refine (idx_any _ _ HI.out _).mono ?_; rintro e w' ⟨rfl, rfl⟩)
        go_ret2
        exact ⟨_, rfl, HX.out, (Below.refl _ _).alloc (Nat.le_refl _) _⟩
      · obtain rfl : m = nls s s.size := by omega
        clear hlast
        have ho := open_line s
        have hi := ho.1
        have HX := Lib.hid ho.2
        unfold fidx at hi
        have HI := Lib.hid hi
        clear ho hi
        go_wp2_with (go_at_call 13; refine (idx_any _ _ HI.out _).mono ?_; rintro e w' ⟨rfl, rfl⟩)
        go_ret2
        exact ⟨_, rfl, HX.out, (Below.refl _ _).alloc (Nat.le_refl _) _⟩

set_option maxHeartbeats 1600000 in
set_option maxRecDepth 1000000 in
theorem snip_no (s : ByteArray) (w : World) (hs : s.size ≤ 1048576) (he : s.toList.isEmpty = false) :
    Calls Try.prog 9 #[.agg #[.string s], .int .i64 ((nls s s.size : Int) + 2)] w (SnipNo w) := by
  have hnl := nls_le s s.size
  go_enter Try.func9, Try.ntmps9
  go_wp2_with fail
  go_loop [6, 7] (fun a i => ∃ m : Nat, m ≤ nls s s.size ∧ i = .int .i64 ((m : Int) + 1) ∧ a = .int .i64 (tot s m)) (fun _ i => nls s s.size + 1 - (intOf i).toNat)
  case atStart => exact ⟨0, Nat.zero_le _, rfl, rfl⟩
  case round =>
    obtain ⟨m, hm, rfl, rfl⟩ := hrel
    have htl := tot_le2 s m (by omega)
    by_cases hl : m < nls s s.size
    · have hc := closed_line s m (by omega)
      obtain ⟨z, hz⟩ : ∃ z : Nat, (ln s m).size = z + 1 := ⟨(ln s m).size - 1, by have := (lns_line_at s m (by omega)).1; unfold ln; omega⟩
      have hi : fidx s m = (z : Int) := by rw [hc.1, hz]; omega
      have hlt : tot s m + z < s.size := by have := hc.2.2; omega
      have HT : Hid (tot s (m + 1) = tot s m + (z + 1)) := by show _ = _; rw [tot_step s m (by omega), hz]
      unfold fidx at hi
      have HI := Lib.hid hi
      clear hc hz hi
      go_wp2_with (go_at_call 13; refine (idx_any _ _ HI.out _).mono ?_; rintro e w' ⟨rfl, rfl⟩)
      go_round
      case rel => exact ⟨m + 1, by omega, by go_num, by rw [HT.out]; go_num⟩
      case measure => simp [intOf]; omega
    · obtain rfl : m = nls s s.size := by omega
      clear hl
      have ho := open_line s
      have hi := ho.1
      unfold fidx at hi
      have HI := Lib.hid hi
      clear ho hi
      go_wp2_with (go_at_call 13; refine (idx_any _ _ HI.out _).mono ?_; rintro e w' ⟨rfl, rfl⟩)
      go_ret2
      exact ⟨_, rfl, (Below.refl _ _).alloc (Nat.le_refl _) _⟩
end Go.Proofs.Ytmglknhkhfkjcaa
