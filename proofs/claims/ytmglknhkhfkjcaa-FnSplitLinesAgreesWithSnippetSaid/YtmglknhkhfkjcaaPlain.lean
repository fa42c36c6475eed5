/-
  Plain facts, no program in sight: a text cut behind each newline. bt: a byte; st: where the line that is open at k begins; pcs: the lines closed before k; nls: how many newlines lie before k; lns: all lines, a newline behind the last.
-/
import Derived.RowKit
namespace Go.Proofs.Ytmglknhkhfkjcaa

def bt (s : ByteArray) (k : Nat) : Nat := (s.data.toList.getD k 0).toNat
def st (s : ByteArray) : Nat → Nat
  | 0 => 0
  | k + 1 => if bt s k = 10 then k + 1 else st s k
def nls (s : ByteArray) : Nat → Nat
  | 0 => 0
  | k + 1 => if bt s k = 10 then nls s k + 1 else nls s k
def pcs (s : ByteArray) : Nat → List ByteArray
  | 0 => []
  | k + 1 => if bt s k = 10 then pcs s k ++ [s.extract (st s k) (k + 1)] else pcs s k
def nlb : ByteArray := ⟨#[10]⟩
def lns (s : ByteArray) : List ByteArray := pcs s s.size ++ [s.extract (st s s.size) s.size ++ nlb]

theorem getD_at {α : Type} (l : List α) (i : Nat) (d : α) (h : i < l.length) : l.getD i d = l[i] := by simp [List.getD, List.getElem?_eq_getElem h]

theorem bt_eq (s : ByteArray) (k : Nat) (h : k < s.size) : bt s k = s[k].toNat := by
  have h' : k < s.data.toList.length := by simpa using h
  unfold bt
  rw [getD_at _ _ _ h']
  rfl

theorem st_hit (s : ByteArray) (k : Nat) (h : bt s k = 10) : st s (k + 1) = k + 1 := by simp [st, h]
theorem st_miss (s : ByteArray) (k : Nat) (h : ¬ bt s k = 10) : st s (k + 1) = st s k := by simp [st, h]
theorem nls_hit (s : ByteArray) (k : Nat) (h : bt s k = 10) : nls s (k + 1) = nls s k + 1 := by simp [nls, h]
theorem nls_miss (s : ByteArray) (k : Nat) (h : ¬ bt s k = 10) : nls s (k + 1) = nls s k := by simp [nls, h]
theorem pcs_hit (s : ByteArray) (k : Nat) (h : bt s k = 10) : pcs s (k + 1) = pcs s k ++ [s.extract (st s k) (k + 1)] := by simp [pcs, h]
theorem pcs_miss (s : ByteArray) (k : Nat) (h : ¬ bt s k = 10) : pcs s (k + 1) = pcs s k := by simp [pcs, h]

theorem st_le (s : ByteArray) (k : Nat) : st s k ≤ k := by
  induction k with
  | zero => simp [st]
  | succ k ih =>
    by_cases h : bt s k = 10
    · rw [st_hit s k h]; omega
    · rw [st_miss s k h]; omega

theorem nls_le (s : ByteArray) (k : Nat) : nls s k ≤ k := by
  induction k with
  | zero => simp [nls]
  | succ k ih =>
    by_cases h : bt s k = 10
    · rw [nls_hit s k h]; omega
    · rw [nls_miss s k h]; omega

theorem pcs_length (s : ByteArray) (k : Nat) : (pcs s k).length = nls s k := by
  induction k with
  | zero => simp [nls, pcs]
  | succ k ih =>
    by_cases h : bt s k = 10
    · rw [nls_hit s k h, pcs_hit s k h]; simp [ih]
    · rw [nls_miss s k h, pcs_miss s k h, ih]

theorem lns_length (s : ByteArray) : (lns s).length = nls s s.size + 1 := by simp [lns, pcs_length]

/-- The open line holds no newline. -/
theorem st_clean (s : ByteArray) (k j : Nat) (h1 : st s k ≤ j) (h2 : j < k) : ¬ bt s j = 10 := by
  induction k with
  | zero => omega
  | succ k ih =>
    by_cases h : bt s k = 10
    · rw [st_hit s k h] at h1; omega
    · rw [st_miss s k h] at h1
      by_cases hj : j = k
      · subst hj; exact h
      · exact ih h1 (by omega)

/-- A line: not empty, its last byte a newline, no other byte one. -/
def IsLine (p : ByteArray) : Prop := 0 < p.size ∧ bt p (p.size - 1) = 10 ∧ ∀ j, j < p.size - 1 → ¬ bt p j = 10

theorem bt_extract (s : ByteArray) (a b j : Nat) (hb : b ≤ s.size) (hj : a + j < b) : bt (s.extract a b) j = bt s (a + j) := by
  have h1 : j < (s.extract a b).size := by rw [ByteArray.size_extract]; omega
  rw [bt_eq _ _ h1, bt_eq _ _ (by omega)]
  simp [ByteArray.getElem_extract]

theorem line_closed (s : ByteArray) (k : Nat) (hk : k < s.size) (h : bt s k = 10) : IsLine (s.extract (st s k) (k + 1)) := by
  have hs := st_le s k
  have hz : (s.extract (st s k) (k + 1)).size = k + 1 - st s k := by rw [ByteArray.size_extract]; omega
  refine ⟨by omega, ?_, fun j hj => ?_⟩
  · rw [hz, bt_extract s _ _ _ (by omega) (by omega)]
    rw [show st s k + (k + 1 - st s k - 1) = k from by omega]
    exact h
  · rw [hz] at hj
    rw [bt_extract s _ _ _ (by omega) (by omega)]
    exact st_clean s k _ (by omega) (by omega)

theorem bt_append_left (a b : ByteArray) (j : Nat) (h : j < a.size) : bt (a ++ b) j = bt a j := by
  rw [bt_eq _ _ (by rw [ByteArray.size_append]; omega), bt_eq _ _ h, ByteArray.getElem_append_left h]

theorem line_last (s : ByteArray) : IsLine (s.extract (st s s.size) s.size ++ nlb) := by
  have hs := st_le s s.size
  have hz : (s.extract (st s s.size) s.size).size = s.size - st s s.size := by rw [ByteArray.size_extract]; omega
  have hn : nlb.size = 1 := rfl
  have hz2 : (s.extract (st s s.size) s.size ++ nlb).size = s.size - st s s.size + 1 := by rw [ByteArray.size_append, hz, hn]
  refine ⟨by omega, ?_, fun j hj => ?_⟩
  · rw [hz2, bt_eq _ _ (by omega), ByteArray.getElem_append_right (by omega)]
    simp only [hz, Nat.add_sub_cancel, Nat.sub_self]
    rfl
  · rw [hz2] at hj
    rw [bt_append_left _ _ _ (by omega), bt_extract s _ _ _ (by omega) (by omega)]
    exact st_clean s s.size _ (by omega) (by omega)

theorem pcs_lines (s : ByteArray) (k : Nat) (hk : k ≤ s.size) : ∀ p ∈ pcs s k, IsLine p := by
  induction k with
  | zero => simp [pcs]
  | succ k ih =>
    by_cases h : bt s k = 10
    · rw [pcs_hit s k h]
      intro p hp
      rcases List.mem_append.1 hp with hp | hp
      · exact ih (by omega) p hp
      · rw [List.mem_singleton.1 hp]; exact line_closed s k (by omega) h
    · rw [pcs_miss s k h]; exact ih (by omega)

theorem lns_lines (s : ByteArray) : ∀ p ∈ lns s, IsLine p := by
  intro p hp
  rcases List.mem_append.1 hp with hp | hp
  · exact pcs_lines s s.size (Nat.le_refl _) p hp
  · rw [List.mem_singleton.1 hp]; exact line_last s

theorem lns_line_at (s : ByteArray) (i : Nat) (h : i < nls s s.size + 1) : IsLine ((lns s).getD i ByteArray.empty) := by
  have hl : i < (lns s).length := by rw [lns_length]; exact h
  rw [getD_at _ _ _ hl]
  exact lns_lines s _ (List.getElem_mem hl)

theorem pcs_size (s : ByteArray) (k : Nat) : ∀ p ∈ pcs s k, p.size ≤ s.size + 1 := by
  induction k with
  | zero => simp [pcs]
  | succ k ih =>
    by_cases h : bt s k = 10
    · rw [pcs_hit s k h]
      intro p hp
      rcases List.mem_append.1 hp with hp | hp
      · exact ih p hp
      · rw [List.mem_singleton.1 hp, ByteArray.size_extract]; omega
    · rw [pcs_miss s k h]; exact ih

theorem lns_size_at (s : ByteArray) (i : Nat) (h : i < nls s s.size + 1) : ((lns s).getD i ByteArray.empty).size ≤ s.size + 1 := by
  have hl : i < (lns s).length := by rw [lns_length]; exact h
  rw [getD_at _ _ _ hl]
  rcases List.mem_append.1 (List.getElem_mem hl) with hp | hp
  · exact pcs_size s s.size _ hp
  · rw [List.mem_singleton.1 hp, ByteArray.size_append, ByteArray.size_extract]
    have : nlb.size = 1 := rfl
    omega

/-! The lines, joined. -/
def glue (l : List ByteArray) : List UInt8 := (l.map (·.data.toList)).flatten
theorem glue_append (a b : List ByteArray) : glue (a ++ b) = glue a ++ glue b := by simp [glue]
theorem glue_one (a : ByteArray) : glue [a] = a.data.toList := by simp [glue]

theorem extract_list (s : ByteArray) (a b : Nat) : (s.extract a b).data.toList = (s.data.toList.take b).drop a := by
  rw [ByteArray.data_extract, Array.toList_extract, List.extract_eq_take_drop, List.take_drop]
  by_cases h : a ≤ b
  · rw [show a + (b - a) = b from by omega]
  · have e1 : (s.data.toList.take (a + (b - a))).drop a = [] := by
      apply List.drop_eq_nil_of_le
      have := List.length_take_le (a + (b - a)) s.data.toList
      omega
    have e2 : (s.data.toList.take b).drop a = [] := by
      apply List.drop_eq_nil_of_le
      have := List.length_take_le b s.data.toList
      omega
    rw [e1, e2]

theorem glue_pcs (s : ByteArray) (k : Nat) (hk : k ≤ s.size) : glue (pcs s k) = s.data.toList.take (st s k) := by
  induction k with
  | zero => simp [pcs, st, glue]
  | succ k ih =>
    by_cases h : bt s k = 10
    · rw [pcs_hit s k h, st_hit s k h, glue_append, glue_one, ih (by omega), extract_list]
      have hs := st_le s k
      rw [show List.take (st s k) s.data.toList = List.take (st s k) (List.take (k + 1) s.data.toList) from by rw [List.take_take, Nat.min_eq_left (by omega)]]
      exact List.take_append_drop _ _
    · rw [pcs_miss s k h, st_miss s k h]; exact ih (by omega)

theorem glue_lns (s : ByteArray) : glue (lns s) = s.data.toList ++ [10] := by
  have hs := st_le s s.size
  have hl : s.data.toList.length = s.size := by simp
  unfold lns
  rw [glue_append, glue_one, ByteArray.data_append, Array.toList_append, glue_pcs s s.size (Nat.le_refl _), extract_list, List.take_of_length_le (by omega : s.data.toList.length ≤ s.size), ← List.append_assoc, List.take_append_drop]
  rfl

end Go.Proofs.Ytmglknhkhfkjcaa
