/-
  Plain facts on the lines joined: how long the first k of them are together, and that all of them are the text and one newline.
-/
import Derived.Test.YtmglknhkhfkjcaaPlain
import Derived.Lib.AppendStr
namespace Go.Proofs.Ytmglknhkhfkjcaa

def tot (s : ByteArray) (k : Nat) : Nat := (glue ((lns s).take k)).length
def ln (s : ByteArray) (k : Nat) : ByteArray := (lns s).getD k ByteArray.empty
def cellsOf (l : List UInt8) : List Value := l.map fun b => Value.int .u8 b.toNat

theorem take_step (s : ByteArray) (k : Nat) (h : k < nls s s.size + 1) : (lns s).take (k + 1) = (lns s).take k ++ [ln s k] := by
  have hl : k < (lns s).length := by rw [lns_length]; exact h
  rw [List.take_succ_eq_append_getElem hl, ln, getD_at _ _ _ hl]

theorem glue_step (s : ByteArray) (k : Nat) (h : k < nls s s.size + 1) : glue ((lns s).take (k + 1)) = glue ((lns s).take k) ++ (ln s k).data.toList := by
  rw [take_step s k h, glue_append, glue_one]

theorem tot_zero (s : ByteArray) : tot s 0 = 0 := rfl
theorem tot_step (s : ByteArray) (k : Nat) (h : k < nls s s.size + 1) : tot s (k + 1) = tot s k + (ln s k).size := by
  unfold tot
  rw [glue_step s k h, List.length_append]
  simp

theorem glue_all (s : ByteArray) : glue ((lns s).take (nls s s.size + 1)) = s.data.toList ++ [10] := by
  rw [List.take_of_length_le (by rw [lns_length]; exact Nat.le_refl _), glue_lns]

theorem tot_all (s : ByteArray) : tot s (nls s s.size + 1) = s.size + 1 := by
  unfold tot
  rw [glue_all]
  simp

theorem tot_le (s : ByteArray) (k : Nat) : tot s k ≤ s.size + 1 := by
  have h : glue (lns s) = glue ((lns s).take k) ++ glue ((lns s).drop k) := by rw [← glue_append, List.take_append_drop]
  have h2 : (glue (lns s)).length = s.size + 1 := by rw [glue_lns]; simp
  unfold tot
  rw [h, List.length_append] at h2
  omega

theorem cells_step (s : ByteArray) (k : Nat) (h : k < nls s s.size + 1) : cellsOf (glue ((lns s).take (k + 1))) = cellsOf (glue ((lns s).take k)) ++ Lib.strCells (ln s k) := by
  unfold cellsOf Lib.strCells
  rw [glue_step s k h, List.map_append]

theorem want_at (s W : ByteArray) (hW : W = s ++ nlb) (k : Nat) (h : k < W.size) : (cellsOf (glue ((lns s).take (nls s s.size + 1))))[k]? = some (.int .u8 (W[k].toNat)) := by
  have hl : W.data.toList = s.data.toList ++ [10] := by rw [hW, ByteArray.data_append, Array.toList_append]; rfl
  have hk : k < W.data.toList.length := by simpa using h
  rw [glue_all, ← hl]
  unfold cellsOf
  rw [List.getElem?_map, List.getElem?_eq_getElem hk]
  rfl
end Go.Proofs.Ytmglknhkhfkjcaa
