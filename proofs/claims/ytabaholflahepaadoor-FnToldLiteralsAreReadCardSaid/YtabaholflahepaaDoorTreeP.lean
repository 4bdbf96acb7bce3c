/-
  Plain law: the rows of a Huffman tree by its weights.
-/
import Derived.Test.YtabaholflahepaaDoorNum
import Derived.Test.YtabaholflahepaaDoorRow
namespace Go.Proofs.YtabaholflahepaaDoor
open Go.RowKit

/-- What a weight counts: 0, or 2^(w-1). -/
def wc (w : Nat) : Nat := 2 ^ w / 2
theorem wc_zero : wc 0 = 0 := by decide
theorem wc_succ (w : Nat) : wc (w + 1) = 2 ^ w := by unfold wc; rw [Nat.pow_succ]; omega
theorem wc_pos {w : Nat} (h : 0 < w) : 0 < wc w := by
  obtain ⟨v, rfl⟩ : ∃ v, w = v + 1 := ⟨w - 1, by omega⟩
  rw [wc_succ]; exact pow_pos' v
def wsum (ws : List Nat) : Nat := (ws.map wc).sum
theorem wsum_append (a b : List Nat) : wsum (a ++ b) = wsum a + wsum b := by simp [wsum]
theorem wsum_push {ws : List Nat} {k w : Nat} (h : ws[k]? = some w) : wsum (ws.take (k + 1)) = wsum (ws.take k) + wc w := by
  rw [take_push h, wsum_append]; simp [wsum]
theorem wsum_take_le (ws : List Nat) (k : Nat) : wsum (ws.take k) ≤ wsum ws := by
  conv => rhs; rw [← List.take_append_drop k ws, wsum_append]
  omega
theorem wsum_mem {ws : List Nat} {w : Nat} (h : w ∈ ws) : wc w ≤ wsum ws := by
  obtain ⟨a, b, rfl⟩ := List.append_of_mem h
  rw [wsum_append]
  simp [wsum]
  omega
theorem wsum_le {ws : List Nat} (h : ∀ w ∈ ws, w ≤ 12) : wsum ws ≤ 2048 * ws.length := by
  induction ws with
  | nil => simp [wsum]
  | cons w r ih =>
    have h1 := ih fun x hx => h x (List.mem_cons_of_mem _ hx)
    have h2 : wc w ≤ 2048 := by
      unfold wc
      have : 2 ^ w ≤ 2 ^ 12 := Nat.pow_le_pow_right (by decide) (h w (List.mem_cons_self ..))
      omega
    simp only [wsum, List.map_cons, List.sum_cons, List.length_cons] at h1 ⊢
    omega

/-- The places of weight v, from s on. -/
def idxs (v : Nat) : Nat → List Nat → List Nat
  | _, [] => []
  | s, x :: r => (if x = v then [s] else []) ++ idxs v (s + 1) r
theorem idxs_append (v : Nat) : ∀ (l r : List Nat) (s : Nat), idxs v s (l ++ r) = idxs v s l ++ idxs v (s + l.length) r
  | [], r, s => by simp [idxs]
  | x :: l, r, s => by simp [idxs, idxs_append v l r, Nat.add_comm, Nat.add_left_comm]
theorem idxs_push {v : Nat} {l : List Nat} {k x : Nat} (h : l[k]? = some x) : idxs v 0 (l.take (k + 1)) = idxs v 0 (l.take k) ++ if x = v then [k] else [] := by
  have hk := (List.getElem?_eq_some_iff.1 h).1
  rw [take_push h, idxs_append]
  simp [idxs, Nat.min_eq_left (Nat.le_of_lt hk)]
theorem idxs_mem (v : Nat) : ∀ (l : List Nat) (s x : Nat), x ∈ idxs v s l ↔ s ≤ x ∧ l[x - s]? = some v
  | [], s, x => by simp [idxs]
  | y :: l, s, x => by
    rw [idxs, List.mem_append, idxs_mem v l (s + 1) x]
    by_cases hx : x = s
    · subst hx
      by_cases hy : y = v
      · simp [hy]
      · simp [hy]; omega
    · by_cases hy : y = v
      · simp only [if_pos hy, List.mem_singleton, hx, false_or]
        constructor
        · rintro ⟨h1, h2⟩
          refine ⟨by omega, ?_⟩
          rw [show x - s = (x - (s + 1)) + 1 by omega, List.getElem?_cons_succ]; exact h2
        · rintro ⟨h1, h2⟩
          refine ⟨by omega, ?_⟩
          rw [show x - s = (x - (s + 1)) + 1 by omega, List.getElem?_cons_succ] at h2; exact h2
      · simp only [if_neg hy, List.not_mem_nil, false_or]
        constructor
        · rintro ⟨h1, h2⟩
          refine ⟨by omega, ?_⟩
          rw [show x - s = (x - (s + 1)) + 1 by omega, List.getElem?_cons_succ]; exact h2
        · rintro ⟨h1, h2⟩
          refine ⟨by omega, ?_⟩
          rw [show x - s = (x - (s + 1)) + 1 by omega, List.getElem?_cons_succ] at h2; exact h2

/-- Rows of the symbols of one weight. -/
def rowsW (most v : Nat) (ss : List Nat) : List (Nat × Nat) := ss.flatMap fun s => List.replicate (wc v) (s, most + 1 - v)
theorem rowsW_append (most v : Nat) (a b : List Nat) : rowsW most v (a ++ b) = rowsW most v a ++ rowsW most v b := by simp [rowsW]
theorem rowsW_one (most v s : Nat) : rowsW most v [s] = List.replicate (wc v) (s, most + 1 - v) := by simp [rowsW]
theorem rowsW_length (most v : Nat) : ∀ (ss : List Nat), (rowsW most v ss).length = ss.length * wc v
  | [] => by simp [rowsW]
  | s :: r => by
    rw [show s :: r = [s] ++ r from rfl, rowsW_append, List.length_append, rowsW_one, rowsW_length most v r, List.length_replicate, List.length_append, Nat.add_mul]
    simp
theorem rowsW_mem {most v : Nat} {ss : List Nat} {x : Nat × Nat} (h : x ∈ rowsW most v ss) : x.1 ∈ ss ∧ x.2 = most + 1 - v := by
  obtain ⟨s, hs, hx⟩ := List.mem_flatMap.1 h
  obtain ⟨_, rfl⟩ := List.mem_replicate.1 hx
  exact ⟨hs, rfl⟩
/-- Rows of the weights 1 to k. -/
def rowsTo (al : List Nat) (most k : Nat) : List (Nat × Nat) := (List.range k).flatMap fun i => rowsW most (i + 1) (idxs (i + 1) 0 al)
theorem rowsTo_succ (al : List Nat) (most k : Nat) : rowsTo al most (k + 1) = rowsTo al most k ++ rowsW most (k + 1) (idxs (k + 1) 0 al) := by
  unfold rowsTo
  rw [List.range_succ, List.flatMap_append]
  simp
theorem rowsTo_mem {al : List Nat} {most k : Nat} {x : Nat × Nat} (h : x ∈ rowsTo al most k) : ∃ v, 0 < v ∧ v ≤ k ∧ al[x.1]? = some v ∧ x.2 = most + 1 - v := by
  obtain ⟨i, hi, hx⟩ := List.mem_flatMap.1 h
  have h1 := rowsW_mem hx
  have h2 := (idxs_mem (i + 1) al 0 x.1).1 h1.1
  exact ⟨i + 1, by omega, by have := List.mem_range.1 hi; omega, by simpa using h2.2, h1.2⟩
theorem rowsTo_prefix {al : List Nat} {most : Nat} : ∀ {j k : Nat}, j ≤ k → ∃ r, rowsTo al most k = rowsTo al most j ++ r ∧ ∀ x ∈ r, ∃ v, j < v ∧ v ≤ k ∧ al[x.1]? = some v ∧ x.2 = most + 1 - v := by
  intro j k h
  induction k with
  | zero =>
    obtain rfl : j = 0 := by omega
    exact ⟨[], by simp, by simp⟩
  | succ k ih =>
    by_cases hj : j = k + 1
    · subst hj
      exact ⟨[], by simp, by simp⟩
    · obtain ⟨r, h1, h2⟩ := ih (by omega)
      refine ⟨r ++ rowsW most (k + 1) (idxs (k + 1) 0 al), by rw [rowsTo_succ, h1, List.append_assoc], ?_⟩
      intro x hx
      rcases List.mem_append.1 hx with hx | hx
      · obtain ⟨v, e1, e2, e3⟩ := h2 x hx
        exact ⟨v, e1, by omega, e3⟩
      · have h3 := rowsW_mem hx
        have h4 := (idxs_mem (k + 1) al 0 x.1).1 h3.1
        exact ⟨k + 1, by omega, by omega, by simpa using h4.2, h3.2⟩

/-- Where symbol k of weight v lies among the rows. -/
theorem rows_split {al : List Nat} {most k v : Nat} (h : al[k]? = some v) (h0 : 0 < v) (hm : v ≤ most) :
    ∃ a b, rowsTo al most most = a ++ (List.replicate (wc v) (k, most + 1 - v) ++ b) ∧ a.length = (rowsTo al most (v - 1)).length + (idxs v 0 (al.take k)).length * wc v ∧
      (∀ x ∈ a, x.1 ≠ k) ∧ (∀ x ∈ b, x.1 ≠ k) := by
  obtain ⟨u, rfl⟩ : ∃ u, v = u + 1 := ⟨v - 1, by omega⟩
  rw [Nat.add_sub_cancel]
  have hk := (List.getElem?_eq_some_iff.1 h).1
  obtain ⟨r, h1, h2⟩ := rowsTo_prefix (al := al) (most := most) (show u + 1 ≤ most by omega)
  have e : al = al.take k ++ (u + 1) :: al.drop (k + 1) := by
    have := List.take_append_drop k al
    rw [List.drop_eq_getElem_cons hk] at this
    have e2 : al[k] = u + 1 := by
      rw [List.getElem?_eq_getElem hk] at h; simpa using h
    rw [e2] at this
    exact this.symm
  have e3 : idxs (u + 1) 0 al = idxs (u + 1) 0 (al.take k) ++ ([k] ++ idxs (u + 1) (k + 1) (al.drop (k + 1))) := by
    conv => lhs; rw [e]
    rw [idxs_append, idxs]
    simp [Nat.min_eq_left (Nat.le_of_lt hk)]
  refine ⟨rowsTo al most u ++ rowsW most (u + 1) (idxs (u + 1) 0 (al.take k)), rowsW most (u + 1) (idxs (u + 1) (k + 1) (al.drop (k + 1))) ++ r, ?_, ?_, ?_, ?_⟩
  · rw [h1, rowsTo_succ, e3, rowsW_append, rowsW_append, rowsW_one]
    simp only [List.append_assoc]
  · rw [List.length_append, rowsW_length]
  · intro x hx
    rcases List.mem_append.1 hx with hx | hx
    · obtain ⟨v, e1, e2, e4, _⟩ := rowsTo_mem hx
      rintro rfl
      rw [h] at e4
      simp at e4
      omega
    · have h4 := (idxs_mem (u + 1) _ 0 x.1).1 (rowsW_mem hx).1
      rintro rfl
      have h5 := (List.getElem?_eq_some_iff.1 h4.2).1
      rw [List.length_take] at h5
      omega
  · intro x hx
    rcases List.mem_append.1 hx with hx | hx
    · have h4 := (idxs_mem (u + 1) _ (k + 1) x.1).1 (rowsW_mem hx).1
      rintro rfl
      omega
    · obtain ⟨v, e1, e2, e4, _⟩ := h2 x hx
      rintro rfl
      rw [h] at e4
      simp at e4
      omega

/-- How many rows there are. -/
theorem idxs_count (v : Nat) : ∀ (l : List Nat) (s : Nat), (idxs v s l).length = l.count v
  | [], s => by simp [idxs]
  | x :: r, s => by
    rw [idxs, List.length_append, idxs_count v r, List.count_cons]
    by_cases h : x = v
    · simp [h]; omega
    · simp [h]
theorem rowsTo_length (al : List Nat) (most : Nat) : ∀ k, (rowsTo al most k).length = wsum (al.filter (· ≤ k))
  | 0 => by
    have : wsum (al.filter (· ≤ 0)) = 0 := by
      induction al with
      | nil => rfl
      | cons x r ih =>
        rw [List.filter_cons]
        by_cases h : x ≤ 0
        · obtain rfl : x = 0 := by omega
          simp only [Nat.le_refl, decide_true, if_true]
          simp only [wsum, List.map_cons, List.sum_cons, wc_zero, Nat.zero_add]
          exact ih
        · simp only [decide_eq_false h]
          exact ih
    rw [this]; rfl
  | k + 1 => by
    rw [rowsTo_succ, List.length_append, rowsTo_length al most k, rowsW_length, idxs_count]
    induction al with
    | nil => simp [wsum]
    | cons x r ih =>
      rw [List.filter_cons, List.filter_cons, List.count_cons]
      by_cases h1 : x ≤ k
      · simp only [decide_eq_true h1, decide_eq_true (show x ≤ k + 1 by omega), if_true]
        have : ¬ x = k + 1 := by omega
        simp only [wsum, List.map_cons, List.sum_cons, beq_iff_eq, if_neg this, Nat.add_zero] at ih ⊢
        omega
      · by_cases h2 : x = k + 1
        · subst h2
          simp only [decide_eq_false h1, decide_eq_true (Nat.le_refl (k + 1)), if_true]
          simp only [wsum, List.map_cons, List.sum_cons, beq_self_eq_true, if_true, Nat.add_mul, Nat.one_mul] at ih ⊢
          simp only [Bool.false_eq_true, if_false]
          omega
        · simp only [decide_eq_false h1, decide_eq_false (show ¬ x ≤ k + 1 by omega)]
          simp only [beq_iff_eq, if_neg h2, Nat.add_zero]
          exact ih
theorem rows_length {al : List Nat} {most : Nat} (h : ∀ w ∈ al, w ≤ most) : (rowsTo al most most).length = wsum al := by
  rw [rowsTo_length, List.filter_eq_self.2 (fun w hw => by simpa using h w hw)]
end Go.Proofs.YtabaholflahepaaDoor
