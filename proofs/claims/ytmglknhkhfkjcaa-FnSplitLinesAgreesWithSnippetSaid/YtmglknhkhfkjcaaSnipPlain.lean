/-
  Plain facts on where a line begins and ends: the search for the next newline from the place where line m begins.
-/
import Derived.Test.YtmglknhkhfkjcaaJoinPlain
import Derived.Lib.Bytealg
namespace Go.Proofs.Ytmglknhkhfkjcaa

theorem idx_hit : ∀ (x y : List UInt8), (10 : UInt8) ∉ x → Lib.indexByte (x ++ 10 :: y) 10 = (x.length : Int)
  | [], y, _ => by simp [Lib.indexByte]
  | b :: x, y, h => by
    have hb : (b == (10 : UInt8)) = false := by simp only [beq_eq_false_iff_ne, ne_eq]; intro e; exact h (by simp [e])
    have ih := idx_hit x y (fun e => h (by simp [e]))
    have hne : ((x.length : Int) == -1) = false := by simp only [beq_eq_false_iff_ne, ne_eq]; omega
    simp only [List.cons_append, Lib.indexByte, hb, ih, hne, Bool.false_eq_true, if_false, List.length_cons]
    omega

theorem idx_miss : ∀ (x : List UInt8), (10 : UInt8) ∉ x → Lib.indexByte x 10 = -1
  | [], _ => by simp [Lib.indexByte]
  | b :: x, h => by
    have hb : (b == (10 : UInt8)) = false := by simp only [beq_eq_false_iff_ne, ne_eq]; intro e; exact h (by simp [e])
    have ih := idx_miss x (fun e => h (by simp [e]))
    simp [Lib.indexByte, hb, ih]

theorem line_list (p : ByteArray) (h : IsLine p) : ∃ x : List UInt8, p.data.toList = x ++ [10] ∧ (10 : UInt8) ∉ x ∧ p.size = x.length + 1 := by
  obtain ⟨h0, h1, h2⟩ := h
  have hl : p.data.toList.length = p.size := by simp
  have hs : p.size - 1 < p.data.toList.length := by omega
  refine ⟨p.data.toList.take (p.size - 1), ?_, ?_, ?_⟩
  · have e := List.take_succ_eq_append_getElem hs
    rw [show p.size - 1 + 1 = p.size from by omega, List.take_of_length_le (by omega)] at e
    have hb : p.data.toList[p.size - 1] = 10 := by
      unfold bt at h1
      rw [getD_at _ _ _ hs] at h1
      exact UInt8.toNat_inj.1 h1
    rw [hb] at e
    exact e
  · intro hm
    obtain ⟨i, hi, he⟩ := List.mem_take_iff_getElem.1 hm
    have hi2 : i < p.size - 1 := by omega
    apply h2 i hi2
    unfold bt
    rw [getD_at _ _ _ (by omega), he]
    rfl
  · rw [List.length_take]; omega

theorem glue_split (s : ByteArray) (m : Nat) (h : m < nls s s.size + 1) : s.data.toList ++ [10] = glue ((lns s).take m) ++ ((ln s m).data.toList ++ glue ((lns s).drop (m + 1))) := by
  rw [← glue_lns s, ← List.append_assoc, ← glue_step s m h, ← glue_append, List.take_append_drop]

theorem rest_pos (s : ByteArray) (m : Nat) (h : m < nls s s.size) : 0 < (glue ((lns s).drop (m + 1))).length := by
  have hl : m + 1 < (lns s).length := by rw [lns_length]; omega
  rw [List.drop_eq_getElem_cons hl]
  have hp := lns_lines s _ (List.getElem_mem hl)
  have hz := hp.1
  rw [show ∀ (a : ByteArray) (l : List ByteArray), glue (a :: l) = a.data.toList ++ glue l from fun a l => by simp [glue], List.length_append]
  have : (lns s)[m + 1].data.toList.length = (lns s)[m + 1].size := by simp
  omega

theorem rest_nil (s : ByteArray) : glue ((lns s).drop (nls s s.size + 1)) = [] := by
  rw [List.drop_of_length_le (by rw [lns_length]; exact Nat.le_refl _)]
  rfl

/-- The search from where line m begins. -/
def fidx (s : ByteArray) (m : Nat) : Int := Lib.indexByte (s.extract (tot s m) s.size).data.toList 10

theorem tail_list (s : ByteArray) (a : Nat) : (s.extract a s.size).data.toList = s.data.toList.drop a := by
  rw [extract_list, List.take_of_length_le (by simp)]

theorem tot_le2 (s : ByteArray) (m : Nat) (h : m < nls s s.size + 1) : tot s m ≤ s.size := by
  have h1 := tot_step s m h
  have h2 := tot_le s (m + 1)
  have h3 := (lns_line_at s m h).1
  unfold ln at h1
  omega

theorem after (s : ByteArray) (m : Nat) (h : m < nls s s.size + 1) : s.data.toList.drop (tot s m) ++ [10] = (ln s m).data.toList ++ glue ((lns s).drop (m + 1)) := by
  have e := glue_split s m h
  have hl : s.data.toList.length = s.size := by simp
  have h1 : (s.data.toList ++ [10]).drop (tot s m) = s.data.toList.drop (tot s m) ++ [10] := List.drop_append_of_le_length (by rw [hl]; exact tot_le2 s m h)
  rw [← h1, e]
  exact List.drop_left

theorem bytes_ext (a b : ByteArray) (h : a.data.toList = b.data.toList) : a = b := by
  apply ByteArray.ext
  exact Array.toList_inj.1 h

theorem closed_line (s : ByteArray) (m : Nat) (h : m < nls s s.size) :
    fidx s m = ((ln s m).size : Int) - 1 ∧ s.extract (tot s m) (tot s m + ((ln s m).size - 1)) ++ nlb = ln s m ∧ tot s m + ((ln s m).size - 1) < s.size := by
  have ha := after s m (by omega)
  have hr := rest_pos s m h
  obtain ⟨x, hx, hn, hz⟩ := line_list (ln s m) (lns_line_at s m (by omega))
  rw [hx] at ha
  generalize glue ((lns s).drop (m + 1)) = G at ha hr
  rcases List.eq_nil_or_concat G with rfl | ⟨y, b, rfl⟩
  · simp at hr
  rw [List.concat_eq_append, ← List.append_assoc] at ha
  replace ha := (List.append_inj' ha rfl).1
  have hl : (s.data.toList.drop (tot s m)).length = s.size - tot s m := by simp
  have ht := tot_le2 s m (by omega)
  have hlen := congrArg List.length ha
  rw [hl, List.length_append, List.length_append, List.length_singleton] at hlen
  refine ⟨?_, ?_, by omega⟩
  · unfold fidx
    rw [tail_list, ha, show x ++ [10] ++ y = x ++ 10 :: y from by simp, idx_hit x y hn, hz]
    omega
  · apply bytes_ext
    have e2 : (s.data.toList.take (tot s m + ((ln s m).size - 1))).drop (tot s m) = x := by
      rw [List.drop_take, show tot s m + ((ln s m).size - 1) - tot s m = x.length from by omega, ha, List.append_assoc]
      exact List.take_left
    rw [ByteArray.data_append, Array.toList_append, extract_list, e2, hx]
    rfl

theorem open_line (s : ByteArray) : fidx s (nls s s.size) = -1 ∧ s.extract (tot s (nls s s.size)) s.size ++ nlb = ln s (nls s s.size) := by
  have ha := after s (nls s s.size) (by omega)
  obtain ⟨x, hx, hn, hz⟩ := line_list (ln s (nls s s.size)) (lns_line_at s (nls s s.size) (by omega))
  rw [rest_nil, List.append_nil, hx, List.append_left_inj] at ha
  refine ⟨?_, ?_⟩
  · unfold fidx
    rw [tail_list, ha, idx_miss x hn]
  · apply bytes_ext
    rw [ByteArray.data_append, Array.toList_append, tail_list, ha, hx]
    rfl
end Go.Proofs.Ytmglknhkhfkjcaa
