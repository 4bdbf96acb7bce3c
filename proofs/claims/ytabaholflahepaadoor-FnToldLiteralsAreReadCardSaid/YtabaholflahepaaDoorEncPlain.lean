/-
  Plain law: code lengths, weights told by FSE or two in a byte, bits that are read from the end.
-/
import Derived.Test.YtabaholflahepaaDoorTreeA
import Derived.Test.YtabaholflahepaaDoorSta
namespace Go.Proofs.YtabaholflahepaaDoor
open Go.RowKit

section
theorem log2_is {x n : Nat} (h1 : 2 ^ n ≤ x) (h2 : x < 2 ^ (n + 1)) : Nat.log2 x = n := by
  have h0 : x ≠ 0 := by have := pow_pos' n; omega
  have h3 := (Nat.pow_lt_pow_iff_right (a := 2) (by decide)).1 (Nat.lt_of_le_of_lt (Nat.log2_self_le h0) h2)
  have h4 := (Nat.pow_lt_pow_iff_right (a := 2) (by decide)).1 (Nat.lt_of_le_of_lt h1 (Nat.lt_log2_self (n := x)))
  omega
/-- A number of bits as a weight. -/
def wtOf (m x : Nat) : Nat := if x = 0 then 0 else m + 1 - x
def wtsBy (m : Nat) (l : List Nat) : List Nat := l.map (wtOf m)
theorem wtsBy_length (m : Nat) (l : List Nat) : (wtsBy m l).length = l.length := by simp [wtsBy]
theorem wc_wt {m x : Nat} (h0 : x ≠ 0) (h : x ≤ m) : wc (wtOf m x) = 2 ^ (m - x) := by
  rw [wtOf, if_neg h0, show m + 1 - x = (m - x) + 1 by omega, wc_succ]
theorem wt_zero (m : Nat) : wtOf m 0 = 0 := rfl
theorem wt_le (m x : Nat) : wtOf m x ≤ m := by unfold wtOf; split <;> omega
theorem wt_pos {m x : Nat} (h0 : x ≠ 0) (h : x ≤ m) : 1 ≤ wtOf m x := by rw [wtOf, if_neg h0]; omega

/-- How many bits each symbol has (0: it does not come): a full code of at most m bits. -/
structure Lens (l : List Nat) (m : Nat) : Prop where
  one : 1 ≤ m
  top : m ≤ 11
  le : ∀ x ∈ l, x ≤ m
  has : m ∈ l
  full : wsum (wtsBy m l) = 2 ^ m
  pos : 1 ≤ l.length
  last : l.getD (l.length - 1) 0 ≠ 0
  size : l.length ≤ 256

theorem Lens.one_mem {l : List Nat} {m : Nat} (h : Lens l m) : 1 ∈ wtsBy m l := by
  refine List.mem_map.2 ⟨m, h.has, ?_⟩
  have := h.one
  rw [wtOf, if_neg (by omega)]; omega

theorem wsum_one (y : Nat) : wsum [y] = wc y := by simp [wsum]

/-- All weights but the last one tell the tree. -/
theorem Lens.tree {l : List Nat} {m : Nat} (h : Lens l m) : treeP (wtsBy m (l.take (l.length - 1))) = some (wtsBy m l, m) := by
  have hp := h.pos
  have hlast : l[l.length - 1]? = some (l.getD (l.length - 1) 0) := by
    rw [List.getD_eq_getElem?_getD, List.getElem?_eq_getElem (by omega)]; rfl
  obtain ⟨x, hx⟩ : ∃ x, x = l.getD (l.length - 1) 0 := ⟨_, rfl⟩
  rw [← hx] at hlast
  have hx0 : x ≠ 0 := hx ▸ h.last
  have hxm : x ≤ m := h.le x (List.mem_of_getElem? hlast)
  have hsp : l = l.take (l.length - 1) ++ [x] := by
    have := take_push hlast
    rw [show l.length - 1 + 1 = l.length by omega, List.take_length] at this
    exact this
  obtain ⟨r, hr⟩ : ∃ r, r = l.take (l.length - 1) := ⟨_, rfl⟩
  rw [← hr] at hsp ⊢
  have hal : wtsBy m l = wtsBy m r ++ [wtOf m x] := by rw [hsp]; simp [wtsBy]
  have hfull := h.full
  rw [hal, wsum_append, wsum_one, wc_wt hx0 hxm] at hfull
  rw [hal]
  have hm1 := h.one
  have hm11 := h.top
  have hle : 2 ^ (m - x) ≤ 2 ^ (m - 1) := Nat.pow_le_pow_right (by decide) (by omega)
  have hdb : 2 ^ m = 2 * 2 ^ (m - 1) := by
    obtain ⟨u, rfl⟩ : ∃ u, m = u + 1 := ⟨m - 1, by omega⟩
    rw [Nat.add_sub_cancel, Nat.pow_succ]; omega
  have hp1 := pow_pos' (m - 1)
  have hp2 := pow_pos' (m - x)
  obtain ⟨S, hS⟩ : ∃ S, S = wsum (wtsBy m r) := ⟨_, rfl⟩
  rw [← hS] at hfull
  have hlog : Nat.log2 S = m - 1 := log2_is (by omega) (by rw [show m - 1 + 1 = m by omega]; omega)
  have hmost : mostW (wtsBy m r) = m := by unfold mostW; rw [← hS, hlog]; omega
  have hrest : restW (wtsBy m r) = 2 ^ (m - x) := by unfold restW; rw [hmost, ← hS]; omega
  have hwt : wtOf m x = m - x + 1 := by rw [wtOf, if_neg hx0]; omega
  unfold treeP
  rw [hrest, Nat.log2_two_pow, hmost, ← hS, if_neg, hwt]
  rintro (⟨w, hw, h11⟩ | h0 | h0 | h0)
  · obtain ⟨y, _, rfl⟩ := List.mem_map.1 hw
    have := wt_le m y
    omega
  · omega
  · omega
  · exact h0 rfl

/-- A description that tells these weights is the tree's, whatever stands behind it. -/
theorem Lens.told {l zs : List Nat} {m : Nat} (h : Lens l m) (hz : zs.length = 1 + bodyOf (zs.getD 0 0)) (hw : wtsIn zs = some (wtsBy m (l.take (l.length - 1)))) (tl : List Nat) :
    treeS (zs ++ tl) = some (wtsBy m l, m, zs.length) := by
  have h0 : (zs ++ tl).getD 0 0 = zs.getD 0 0 := by
    rw [List.getD_eq_getElem?_getD, List.getD_eq_getElem?_getD, List.getElem?_append_left (by omega)]
  have hin : wtsIn (zs ++ tl) = wtsIn zs := by
    unfold wtsIn
    rw [h0]
    by_cases hb : 128 ≤ zs.getD 0 0
    · rw [if_pos hb, if_pos hb]
      have e : bodyOf (zs.getD 0 0) = (zs.getD 0 0 - 126) / 2 := by unfold bodyOf; rw [if_pos hb]
      have hn : nibs (zs ++ tl) (zs.getD 0 0 - 127) = nibs zs (zs.getD 0 0 - 127) := by
        unfold nibs
        refine List.map_congr_left fun i hi => ?_
        have := List.mem_range.1 hi
        have hi2 : (zs ++ tl).getD (1 + i / 2) 0 = zs.getD (1 + i / 2) 0 := by
          rw [List.getD_eq_getElem?_getD, List.getD_eq_getElem?_getD, List.getElem?_append_left (by omega)]
        unfold nibAt
        rw [hi2]
      rw [hn]
    · have e : bodyOf (zs.getD 0 0) = zs.getD 0 0 := by unfold bodyOf; rw [if_neg hb]
      rw [if_neg hb, if_neg hb, List.drop_append_of_le_length (by omega), List.take_append_of_le_length (by rw [List.length_drop]; omega)]
  have hl : 1 + bodyOf ((zs ++ tl).getD 0 0) ≤ (zs ++ tl).length := by rw [h0, List.length_append]; omega
  have := treeS_of hl (hin.trans hw) h.tree
  rw [this, h0, ← hz]

/-- One symbol more gets its bits. -/
theorem wsum_set : ∀ (l : List Nat) (i x y : Nat), l[i]? = some x → wsum (l.set i y) + wc x = wsum l + wc y
  | [], i, x, y, h => by simp at h
  | z :: l, 0, x, y, h => by
    simp at h
    subst h
    simp [wsum]
    omega
  | z :: l, i + 1, x, y, h => by
    have h1 := wsum_set l i x y (by simpa using h)
    simp only [wsum, List.set_cons_succ, List.map_cons, List.sum_cons] at h1 ⊢
    omega
theorem wtsBy_set (m : Nat) (l : List Nat) (i y : Nat) : wtsBy m (l.set i y) = (wtsBy m l).set i (wtOf m y) := by simp [wtsBy, List.map_set]
theorem lens_set {m : Nat} {l : List Nat} {i y : Nat} (h : l[i]? = some 0) (hy0 : y ≠ 0) (hy : y ≤ m) : wsum (wtsBy m (l.set i y)) = wsum (wtsBy m l) + 2 ^ (m - y) := by
  have h1 := wsum_set (wtsBy m l) i 0 (wtOf m y) (by rw [wtsBy, List.getElem?_map, h]; rfl)
  rw [wtsBy_set]
  rw [wc_zero, wc_wt hy0 hy] at h1
  omega
theorem wsum_zeros (m n : Nat) : wsum (wtsBy m (List.replicate n 0)) = 0 := by
  induction n with
  | zero => rfl
  | succ n ih =>
    rw [List.replicate_succ]
    simp only [wtsBy, wsum, List.map_cons, List.sum_cons, wt_zero, wc_zero, Nat.zero_add] at ih ⊢
    exact ih

/-- Rows come in order. -/
def RowLe (a b : Nat × Nat) : Prop := b.2 < a.2 ∨ (a.2 = b.2 ∧ a.1 ≤ b.1)
theorem idxs_sorted (v : Nat) : ∀ (l : List Nat) (s : Nat), (idxs v s l).Pairwise (· ≤ ·)
  | [], s => by simp [idxs]
  | x :: r, s => by
    have ih := idxs_sorted v r (s + 1)
    rw [idxs]
    split
    · rw [List.cons_append, List.nil_append, List.pairwise_cons]
      refine ⟨fun y hy => ?_, ih⟩
      have := ((idxs_mem v r (s + 1) y).1 hy).1
      omega
    · rw [List.nil_append]; exact ih
theorem rowsW_sorted (m v : Nat) : ∀ (ss : List Nat), ss.Pairwise (· ≤ ·) → (rowsW m v ss).Pairwise RowLe
  | [], _ => by simp [rowsW]
  | s :: r, h => by
    rw [List.pairwise_cons] at h
    have e : rowsW m v (s :: r) = List.replicate (wc v) (s, m + 1 - v) ++ rowsW m v r := by
      rw [show s :: r = [s] ++ r from rfl, rowsW_append, rowsW_one]
    rw [e, List.pairwise_append]
    refine ⟨?_, rowsW_sorted m v r h.2, fun a ha b hb => ?_⟩
    · rw [List.pairwise_replicate]
      exact .inr (.inr ⟨rfl, Nat.le_refl _⟩)
    · obtain ⟨_, rfl⟩ := List.mem_replicate.1 ha
      have h2 := rowsW_mem hb
      exact .inr ⟨h2.2.symm, h.1 _ h2.1⟩
theorem rowsTo_sorted (al : List Nat) (m : Nat) : ∀ k, k ≤ m → (rowsTo al m k).Pairwise RowLe
  | 0, _ => by simp [rowsTo]
  | k + 1, hk => by
    rw [rowsTo_succ, List.pairwise_append]
    refine ⟨rowsTo_sorted al m k (by omega), rowsW_sorted m (k + 1) _ (idxs_sorted _ _ _), fun a ha b hb => ?_⟩
    obtain ⟨v, h1, h2, _, h4⟩ := rowsTo_mem ha
    have h5 := (rowsW_mem hb).2
    left
    omega
theorem rows_order {al : List Nat} {m i : Nat} {a b : Nat × Nat} (ha : (rowsTo al m m)[i]? = some a) (hb : (rowsTo al m m)[i + 1]? = some b) : b.2 < a.2 ∨ (a.2 = b.2 ∧ a.1 ≤ b.1) := by
  have h := rowsTo_sorted al m m (Nat.le_refl _)
  rw [List.pairwise_iff_getElem] at h
  obtain ⟨hi, rfl⟩ := List.getElem?_eq_some_iff.1 ha
  obtain ⟨hj, rfl⟩ := List.getElem?_eq_some_iff.1 hb
  exact h i (i + 1) hi hj (by omega)

/-- How many rows a symbol has. -/
theorem rows_count {al : List Nat} {m s : Nat} (h : ∀ w ∈ al, w ≤ m) : ((rowsTo al m m).map (·.1)).count s = wc (al.getD s 0) := by
  by_cases hs : s < al.length
  · have hg : al[s]? = some (al.getD s 0) := by rw [List.getD_eq_getElem?_getD, List.getElem?_eq_getElem hs]; rfl
    obtain ⟨v, hv⟩ : ∃ v, v = al.getD s 0 := ⟨_, rfl⟩
    rw [← hv] at hg ⊢
    rcases Nat.eq_zero_or_pos v with h0 | h0
    · subst h0
      rw [wc_zero, List.count_eq_zero]
      intro hm
      obtain ⟨x, hx, rfl⟩ := List.mem_map.1 hm
      obtain ⟨u, h1, _, h3, _⟩ := rowsTo_mem hx
      rw [hg] at h3
      have := Option.some.inj h3
      omega
    · obtain ⟨a, b, e, _, ha, hb⟩ := rows_split hg h0 (h v (List.mem_of_getElem? hg))
      rw [e, List.map_append, List.map_append, List.count_append, List.count_append, List.map_replicate, List.count_replicate]
      have h1 : (a.map (·.1)).count s = 0 := List.count_eq_zero.2 fun hm => by
        obtain ⟨x, hx, hxs⟩ := List.mem_map.1 hm
        exact ha x hx hxs
      have h2 : (b.map (·.1)).count s = 0 := List.count_eq_zero.2 fun hm => by
        obtain ⟨x, hx, hxs⟩ := List.mem_map.1 hm
        exact hb x hx hxs
      rw [h1, h2]
      simp
  · have : al.getD s 0 = 0 := by rw [List.getD_eq_getElem?_getD, List.getElem?_eq_none (by omega)]; rfl
    rw [this, wc_zero, List.count_eq_zero]
    intro hm
    obtain ⟨x, hx, rfl⟩ := List.mem_map.1 hm
    obtain ⟨u, _, _, h3, _⟩ := rowsTo_mem hx
    have := (List.getElem?_eq_some_iff.1 h3).1
    omega
end

section
/-- The places of numbers above 0, from s on. -/
def posAt : Nat → List Int → List Nat
  | _, [] => []
  | s, x :: r => (if 0 < x then [s] else []) ++ posAt (s + 1) r
theorem posAt_append : ∀ (l r : List Int) (s : Nat), posAt s (l ++ r) = posAt s l ++ posAt (s + l.length) r
  | [], r, s => by simp [posAt]
  | x :: l, r, s => by simp [posAt, posAt_append l r, Nat.add_comm, Nat.add_left_comm]
theorem posAt_push {l : List Int} {k : Nat} {x : Int} (h : l[k]? = some x) : posAt 0 (l.take (k + 1)) = posAt 0 (l.take k) ++ if 0 < x then [k] else [] := by
  have hk := (List.getElem?_eq_some_iff.1 h).1
  rw [take_push h, posAt_append]
  simp [posAt, Nat.min_eq_left (Nat.le_of_lt hk)]
theorem posAt_mem : ∀ (l : List Int) (s x : Nat), x ∈ posAt s l → s ≤ x ∧ x < s + l.length
  | [], s, x, h => by simp [posAt] at h
  | y :: l, s, x, h => by
    rw [posAt, List.mem_append] at h
    rcases h with h | h
    · split at h
      · simp only [List.mem_singleton] at h
        subst h
        simp
      · cases h
    · have := posAt_mem l (s + 1) x h
      simp only [List.length_cons]
      omega
theorem posAt_has : ∀ (l : List Int) (s i : Nat) (v : Int), l[i]? = some v → 0 < v → s + i ∈ posAt s l
  | [], s, i, v, h, _ => by simp at h
  | y :: l, s, 0, v, h, hv => by
    simp at h
    subst h
    rw [posAt, if_pos hv]
    simp
  | y :: l, s, i + 1, v, h, hv => by
    have := posAt_has l (s + 1) i v (by simpa using h) hv
    rw [posAt, List.mem_append]
    right
    rw [show s + (i + 1) = s + 1 + i by omega]
    exact this
theorem posAt_sorted : ∀ (l : List Int) (s : Nat), (posAt s l).Pairwise (· < ·)
  | [], s => by simp [posAt]
  | y :: l, s => by
    rw [posAt]
    split
    · rw [List.cons_append, List.nil_append, List.pairwise_cons]
      refine ⟨fun x hx => ?_, posAt_sorted l (s + 1)⟩
      have := posAt_mem l (s + 1) x hx
      omega
    · rw [List.nil_append]; exact posAt_sorted l (s + 1)
theorem posAt_le (l : List Int) (s : Nat) : (posAt s l).length ≤ l.length := by
  induction l generalizing s with
  | nil => simp [posAt]
  | cons y l ih =>
    have := ih (s + 1)
    rw [posAt, List.length_append]
    split <;> simp <;> omega
theorem sorted_at {us : List Nat} (h : us.Pairwise (· < ·)) {i j : Nat} (hij : i < j) (hj : j < us.length) : us.getD i 0 < us.getD j 0 := by
  rw [List.pairwise_iff_getElem] at h
  have := h i j (by omega) hj hij
  rw [List.getD_eq_getElem?_getD, List.getD_eq_getElem?_getD, List.getElem?_eq_getElem (by omega), List.getElem?_eq_getElem hj]
  exact this
theorem sorted_ne {us : List Nat} (h : us.Pairwise (· < ·)) {i j : Nat} (hi : i < us.length) (hj : j < us.length) (hne : i ≠ j) : us.getD i 0 ≠ us.getD j 0 := by
  rcases Nat.lt_or_gt_of_ne hne with hlt | hlt
  · exact Nat.ne_of_lt (sorted_at h hlt hj)
  · exact Nat.ne_of_gt (sorted_at h hlt hi)
theorem sorted_last {us : List Nat} (h : us.Pairwise (· < ·)) {i : Nat} (hi : i < us.length) : us.getD i 0 ≤ us.getD (us.length - 1) 0 := by
  by_cases e : i = us.length - 1
  · rw [e]; exact Nat.le_refl _
  · exact Nat.le_of_lt (sorted_at h (by omega) (by omega))

/-- The first i places are given numbers. -/
def lfill (N : Nat) (us : List Nat) (f : Nat → Nat) : Nat → List Nat
  | 0 => List.replicate N 0
  | i + 1 => (lfill N us f i).set (us.getD i 0) (f i)
section
variable {N m : Nat} {us : List Nat} {f : Nat → Nat}
theorem lfill_length : ∀ i, (lfill N us f i).length = N
  | 0 => by simp [lfill]
  | i + 1 => by rw [lfill, List.length_set, lfill_length i]
theorem lfill_none {s : Nat} (hs : s < N) : ∀ i, (∀ j, j < i → us.getD j 0 ≠ s) → (lfill N us f i)[s]? = some 0
  | 0, _ => by simp [lfill, hs]
  | i + 1, h => by
    rw [lfill, List.getElem?_set_ne (h i (by omega))]
    exact lfill_none hs i fun j hj => h j (by omega)
theorem lfill_at (hu : us.Pairwise (· < ·)) {j : Nat} : ∀ i, j < i → i ≤ us.length → us.getD j 0 < N → (lfill N us f i)[us.getD j 0]? = some (f j)
  | 0, h, _, _ => by omega
  | i + 1, h, hi, hN => by
    rw [lfill]
    by_cases e : j = i
    · subst e
      rw [List.getElem?_set_self (by rw [lfill_length]; exact hN)]
    · rw [List.getElem?_set_ne (sorted_ne hu (by omega) (by omega) (fun h => e h.symm))]
      exact lfill_at hu i (by omega) (by omega) hN
theorem lfill_mem : ∀ {i x : Nat}, x ∈ lfill N us f i → x = 0 ∨ ∃ j, j < i ∧ x = f j
  | 0, x, h => by
    left
    rw [lfill] at h
    exact (List.mem_replicate.1 h).2
  | i + 1, x, h => by
    rw [lfill] at h
    rcases List.mem_or_eq_of_mem_set h with h | h
    · rcases lfill_mem h with h | ⟨j, hj, hx⟩
      · exact .inl h
      · exact .inr ⟨j, by omega, hx⟩
    · exact .inr ⟨i, by omega, h⟩
theorem lfill_sum (hu : us.Pairwise (· < ·)) (hN : ∀ j, j < us.length → us.getD j 0 < N) : ∀ i, i ≤ us.length → (∀ j, j < i → f j ≠ 0 ∧ f j ≤ m) →
    wsum (wtsBy m (lfill N us f i)) = ((List.range i).map fun j => 2 ^ (m - f j)).sum
  | 0, _, _ => by rw [lfill, wsum_zeros]; rfl
  | i + 1, hi, hf => by
    have h0 : (lfill N us f i)[us.getD i 0]? = some 0 := lfill_none (hN i (by omega)) i fun j hj => sorted_ne hu (by omega) (by omega) (by omega)
    rw [lfill, lens_set h0 (hf i (by omega)).1 (hf i (by omega)).2, lfill_sum hu hN i (by omega) (fun j hj => hf j (by omega)), List.range_succ]
    simp

/-- So it is a full code. -/
theorem lfill_lens (hu : us.Pairwise (· < ·)) (hN : N = us.getD (us.length - 1) 0 + 1) (h256 : N ≤ 256) (hn : 0 < us.length) (hm1 : 1 ≤ m) (hm11 : m ≤ 11) (hf : ∀ j, j < us.length → f j ≠ 0 ∧ f j ≤ m) (hmost : ∃ j, j < us.length ∧ f j = m)
    (hsum : ((List.range us.length).map fun j => 2 ^ (m - f j)).sum = 2 ^ m) : Lens (lfill N us f us.length) m := by
  have hlt : ∀ j, j < us.length → us.getD j 0 < N := fun j hj => by have := sorted_last hu hj; omega
  refine ⟨hm1, hm11, fun x hx => ?_, ?_, ?_, by rw [lfill_length]; omega, ?_, by rw [lfill_length]; exact h256⟩
  · rcases lfill_mem hx with h | ⟨j, hj, h⟩
    · omega
    · rw [h]; exact (hf j hj).2
  · obtain ⟨j, hj, h⟩ := hmost
    have := lfill_at hu (f := f) us.length hj (Nat.le_refl _) (hlt j hj)
    rw [h] at this
    exact List.mem_of_getElem? this
  · rw [lfill_sum hu hlt us.length (Nat.le_refl _) hf, hsum]
  · have := lfill_at hu (f := f) (j := us.length - 1) us.length (by omega) (Nat.le_refl _) (hlt _ (by omega))
    rw [lfill_length, hN, Nat.add_sub_cancel, List.getD_eq_getElem?_getD, ← hN, this]
    exact (hf _ (by omega)).1
theorem lfill_pos (hu : us.Pairwise (· < ·)) (hlt : ∀ j, j < us.length → us.getD j 0 < N) (hf : ∀ j, j < us.length → f j ≠ 0) {s : Nat} (hs : s ∈ us) : (lfill N us f us.length).getD s 0 ≠ 0 := by
  obtain ⟨j, hj, rfl⟩ := List.getElem_of_mem hs
  have e : us.getD j 0 = us[j] := by rw [List.getD_eq_getElem?_getD, List.getElem?_eq_getElem hj]; rfl
  have := lfill_at hu (f := f) us.length hj (Nat.le_refl _) (hlt j hj)
  rw [e] at this
  rw [List.getD_eq_getElem?_getD, this]
  exact hf j hj
end

/-- As different as can be. -/
def fDiff (n j : Nat) : Nat := min (j + 1) (n - 1)
theorem sum_diff (m : Nat) : ∀ i, i ≤ m → ((List.range i).map fun j => 2 ^ (m - (j + 1))).sum + 2 ^ (m - i) = 2 ^ m
  | 0, _ => by simp
  | i + 1, h => by
    have := sum_diff m i (by omega)
    rw [List.range_succ, List.map_append, List.sum_append]
    simp only [List.map_cons, List.map_nil, List.sum_cons, List.sum_nil, Nat.add_zero]
    have e : 2 ^ (m - i) = 2 * 2 ^ (m - (i + 1)) := by rw [show m - i = (m - (i + 1)) + 1 by omega, Nat.pow_succ]; omega
    omega
theorem fDiff_sum {n : Nat} (hn : 2 ≤ n) : ((List.range n).map fun j => 2 ^ (n - 1 - fDiff n j)).sum = 2 ^ (n - 1) := by
  obtain ⟨m, rfl⟩ : ∃ m, n = m + 1 := ⟨n - 1, by omega⟩
  rw [Nat.add_sub_cancel, List.range_succ, List.map_append, List.sum_append]
  have e : (List.range m).map (fun j => 2 ^ (m - fDiff (m + 1) j)) = (List.range m).map (fun j => 2 ^ (m - (j + 1))) := by
    refine List.map_congr_left fun j hj => ?_
    have := List.mem_range.1 hj
    rw [fDiff, Nat.add_sub_cancel, Nat.min_eq_left (by omega)]
  have e2 : fDiff (m + 1) m = m := by rw [fDiff, Nat.add_sub_cancel]; omega
  have := sum_diff m m (Nat.le_refl _)
  rw [e]
  simp only [List.map_cons, List.map_nil, List.sum_cons, List.sum_nil, Nat.add_zero, e2]
  exact this
theorem fDiff_fine {n j : Nat} (hn : 2 ≤ n) : fDiff n j ≠ 0 ∧ fDiff n j ≤ n - 1 := by unfold fDiff; omega

/-- All nearly the same. -/
def fSame (m k j : Nat) : Nat := if j < k then m - 1 else m
theorem sum_same (m k : Nat) (hm : 1 ≤ m) : ∀ i, ((List.range i).map fun j => 2 ^ (m - fSame m k j)).sum = i + min i k
  | 0 => by simp
  | i + 1 => by
    rw [List.range_succ, List.map_append, List.sum_append, sum_same m k hm i]
    simp only [List.map_cons, List.map_nil, List.sum_cons, List.sum_nil, Nat.add_zero]
    by_cases h : i < k
    · rw [fSame, if_pos h, show m - (m - 1) = 1 by omega]
      omega
    · rw [fSame, if_neg h, Nat.sub_self]
      omega
theorem diff_lens {us : List Nat} (hu : us.Pairwise (· < ·)) (h256 : us.getD (us.length - 1) 0 + 1 ≤ 256) (h2 : 2 ≤ us.length) (h12 : us.length ≤ 12) :
    Lens (lfill (us.getD (us.length - 1) 0 + 1) us (fDiff us.length) us.length) (us.length - 1) :=
  lfill_lens hu rfl h256 (by omega) (by omega) (by omega) (fun _ _ => fDiff_fine h2) ⟨us.length - 1, by omega, by unfold fDiff; omega⟩ (fDiff_sum h2)
theorem same_lens {us : List Nat} {m : Nat} (hu : us.Pairwise (· < ·)) (h256 : us.getD (us.length - 1) 0 + 1 ≤ 256) (h2 : 2 ≤ us.length) (hlo : 2 ^ (m - 1) < us.length) (hhi : us.length ≤ 2 ^ m) (hm1 : 1 ≤ m) (hm : m ≤ 11) :
    Lens (lfill (us.getD (us.length - 1) 0 + 1) us (fSame m (2 ^ m - us.length)) us.length) m := by
  have hdb : 2 ^ m = 2 * 2 ^ (m - 1) := by
    obtain ⟨u, rfl⟩ : ∃ u, m = u + 1 := ⟨m - 1, by omega⟩
    rw [Nat.add_sub_cancel, Nat.pow_succ]; omega
  refine lfill_lens hu rfl h256 (by omega) hm1 hm (fun j hj => ?_) ⟨us.length - 1, by omega, by rw [fSame, if_neg (by omega)]⟩ (by rw [sum_same m _ hm1]; omega)
  by_cases h : j < 2 ^ m - us.length
  · rw [fSame, if_pos h]
    have : m ≠ 1 := by rintro rfl; simp at hdb hhi; omega
    omega
  · rw [fSame, if_neg h]
    omega
end

section
/-- Bits as a number, the first one the highest. -/
def hnum (bs : List Bool) : Nat := bnum bs.reverse
theorem hnum_nil : hnum [] = 0 := rfl
theorem hnum_append (a b : List Bool) : hnum (a ++ b) = hnum b + 2 ^ b.length * hnum a := by
  rw [hnum, List.reverse_append, bnum_append, List.length_reverse]; rfl
theorem hnum_push (a : List Bool) (x : Bool) : hnum (a ++ [x]) = x.toNat + 2 * hnum a := by
  rw [hnum_append]
  simp [hnum, bnum]
theorem hnum_lt (a : List Bool) : hnum a < 2 ^ a.length := by
  have := bnum_lt a.reverse
  rwa [List.length_reverse] at this
/-- The lowest n bits of v, the highest first. -/
def hiBits (v n : Nat) : List Bool := (loBits v n).reverse
@[simp] theorem hiBits_length (v n : Nat) : (hiBits v n).length = n := by simp [hiBits]
theorem hnum_hiBits (v n : Nat) : hnum (hiBits v n) = v % 2 ^ n := by rw [hnum, hiBits, List.reverse_reverse, bnum_loBits]
theorem hiBits_at (v : Nat) {n j : Nat} (h : j < n) : (hiBits v n)[j]? = some (v / 2 ^ (n - 1 - j) % 2 == 1) := by
  unfold hiBits loBits
  rw [List.getElem?_reverse (by simpa using h), List.length_map, List.length_range, List.getElem?_map, List.getElem?_range (by omega)]
  rfl
theorem hiBits_push (v : Nat) {n j : Nat} (h : j < n) : (hiBits v n).take (j + 1) = (hiBits v n).take j ++ [v / 2 ^ (n - 1 - j) % 2 == 1] := take_push (hiBits_at v h)
/-- Fields one behind the other. -/
def hbAll (fs : List (Nat × Nat)) : List Bool := fs.flatMap fun x => hiBits x.1 x.2
theorem hbAll_append (a b : List (Nat × Nat)) : hbAll (a ++ b) = hbAll a ++ hbAll b := by simp [hbAll]
theorem hbAll_cons (x : Nat × Nat) (b : List (Nat × Nat)) : hbAll (x :: b) = hiBits x.1 x.2 ++ hbAll b := by simp [hbAll]
theorem hbAll_one (v n : Nat) : hbAll [(v, n)] = hiBits v n := by simp [hbAll]
theorem hbAll_length : ∀ (fs : List (Nat × Nat)), (hbAll fs).length = flen fs
  | [] => rfl
  | x :: r => by rw [hbAll_cons, List.length_append, hiBits_length, hbAll_length r, flen_cons]

/-- Bits with the mark above them. -/
def marked (bs : List Bool) : Nat := 2 ^ bs.length + hnum bs
theorem marked_range (bs : List Bool) : 2 ^ bs.length ≤ marked bs ∧ marked bs < 2 ^ (bs.length + 1) := by
  have := hnum_lt bs
  unfold marked
  rw [Nat.pow_succ]
  omega
/-- A field is read. -/
theorem marked_read (a c : List Bool) {v k : Nat} (hv : v < 2 ^ k) : marked (a ++ (hiBits v k ++ c)) / 2 ^ c.length % 2 ^ k = v := by
  have h1 := hnum_lt c
  have e : marked (a ++ (hiBits v k ++ c)) = hnum c + 2 ^ c.length * (v + 2 ^ k * (hnum a + 2 ^ a.length)) := by
    unfold marked
    rw [hnum_append, hnum_append, hnum_hiBits, Nat.mod_eq_of_lt hv, List.length_append, List.length_append, hiBits_length, show a.length + (k + c.length) = c.length + (k + a.length) by omega, show k + c.length = c.length + k by omega, Nat.pow_add, Nat.pow_add 2 c.length, Nat.pow_add 2 k]
    generalize 2 ^ c.length = p, 2 ^ k = q, 2 ^ a.length = r
    simp only [Nat.mul_add, Nat.mul_assoc]
    omega
  rw [e, Nat.add_mul_div_left _ _ (pow_pos' _), Nat.div_eq_of_lt h1, Nat.zero_add, Nat.add_mul_mod_self_left, Nat.mod_eq_of_lt hv]
/-- The bytes of marked bits. -/
theorem marked_mark {zs : List Nat} {bs : List Bool} (hz : Bytes zs) (hl : zs.length = bs.length / 8 + 1) (hn : num zs = marked bs) :
    ∃ x, Mark zs x (bs.length % 8) ∧ 8 * (zs.length - 1) + bs.length % 8 = bs.length := by
  have h1 := num_byte hz (bs.length / 8)
  have h2 := marked_range bs
  have hk : zs[bs.length / 8]? = some (zs.getD (bs.length / 8) 0) := by
    rw [List.getD_eq_getElem?_getD, List.getElem?_eq_getElem (by omega)]; rfl
  have e8 : 2 ^ (8 * (bs.length / 8)) * 2 ^ (bs.length % 8) = 2 ^ bs.length := by rw [← Nat.pow_add]; congr 1; omega
  have a1 : 2 ^ (bs.length % 8) ≤ marked bs / 2 ^ (8 * (bs.length / 8)) := (Nat.le_div_iff_mul_le (pow_pos' _)).2 (by rw [Nat.mul_comm, e8]; exact h2.1)
  have a2 : marked bs / 2 ^ (8 * (bs.length / 8)) < 2 ^ (bs.length % 8 + 1) := (Nat.div_lt_iff_lt_mul (pow_pos' _)).2 (by rw [Nat.pow_succ, Nat.mul_right_comm, Nat.mul_comm (2 ^ (bs.length % 8)), e8, ← Nat.pow_succ]; exact h2.2)
  have a3 : 2 ^ (bs.length % 8 + 1) ≤ 2 ^ 8 := Nat.pow_le_pow_right (by decide) (by omega)
  have e256 : (2 : Nat) ^ 8 = 256 := by decide
  rw [hn, Nat.mod_eq_of_lt (by omega)] at h1
  rw [← h1] at hk
  refine ⟨_, ⟨?_, a1, a2, by omega⟩, by omega⟩
  rw [hl, Nat.add_sub_cancel]; exact hk

section
variable {L : Nat} {ps : List Int}

/-- The nth of the like. -/
theorem nth_of : ∀ (l : List Nat) (s j : Nat), j < l.count s → ∃ a, l[a]? = some s ∧ (l.take a).count s = j
  | [], s, j, h => by simp at h
  | x :: l, s, j, h => by
    by_cases hx : x = s
    · subst hx
      cases j with
      | zero => exact ⟨0, by simp, by simp⟩
      | succ j =>
        obtain ⟨a, h1, h2⟩ := nth_of l x j (by simp at h; omega)
        exact ⟨a + 1, by simpa using h1, by simp [h2]⟩
    · obtain ⟨a, h1, h2⟩ := nth_of l s j (by rw [List.count_cons] at h; simpa [hx] using h)
      exact ⟨a + 1, by simpa using h1, by rw [List.take_succ_cons, List.count_cons]; simp [hx, h2]⟩
/-- A symbol's state that is reckoned from n. -/
theorem state_of (h : IsShares L ps) {s n : Nat} (h1 : (ps.getD s 0).natAbs ≤ n) (h2 : n < 2 * (ps.getD s 0).natAbs) : ∃ a, a < 2 ^ L ∧ symAt L ps a = s ∧ numAt L ps a = n := by
  obtain ⟨a, ha, hc⟩ := nth_of (syms L ps) s (n - (ps.getD s 0).natAbs) (by rw [count_syms h]; omega)
  have hal : a < 2 ^ L := by have := (List.getElem?_eq_some_iff.1 ha).1; rwa [syms_length] at this
  have hsa : symAt L ps a = s := by rw [syms_at hal] at ha; exact Option.some.inj ha
  refine ⟨a, hal, hsa, ?_⟩
  rw [numAt_eq h hal, hsa, hc]; omega
/-- The states of a symbol lead to every state. -/
theorem cover {p k : Nat} (hp : 0 < p) (hpL : p ≤ 2 ^ L) (hk : k < 2 ^ L) : ∃ n, p ≤ n ∧ n < 2 * p ∧ fromOf L n ≤ k ∧ k < fromOf L n + 2 ^ bitsOf L n := by
  obtain ⟨lp, hlp⟩ : ∃ lp, lp = Nat.log2 p := ⟨_, rfl⟩
  have a1 : 2 ^ lp ≤ p := hlp ▸ Nat.log2_self_le (by omega)
  have a2 : p < 2 ^ (lp + 1) := hlp ▸ Nat.lt_log2_self
  have hlL : lp ≤ L := by
    have := (Nat.pow_lt_pow_iff_right (a := 2) (by decide)).1 (show 2 ^ lp < 2 ^ (L + 1) by rw [Nat.pow_succ]; have := pow_pos' L; omega)
    omega
  have main : ∀ l n, l ≤ L → n = (k + 2 ^ L) / 2 ^ (L - l) → 2 ^ l ≤ n ∧ n < 2 ^ (l + 1) ∧ fromOf L n ≤ k ∧ k < fromOf L n + 2 ^ bitsOf L n := by
    intro l n hl hn
    have e1 : 2 ^ l * 2 ^ (L - l) = 2 ^ L := by rw [← Nat.pow_add]; congr 1; omega
    have b1 : 2 ^ l ≤ n := by rw [hn]; exact (Nat.le_div_iff_mul_le (pow_pos' _)).2 (by rw [e1]; omega)
    have b2 : n < 2 ^ (l + 1) := by rw [hn]; exact (Nat.div_lt_iff_lt_mul (pow_pos' _)).2 (by rw [Nat.pow_succ, Nat.mul_right_comm, e1]; omega)
    have hb : bitsOf L n = L - l := by unfold bitsOf; rw [log2_is b1 b2]
    have h1 := Nat.div_add_mod (k + 2 ^ L) (2 ^ (L - l))
    have h2 := Nat.mod_lt (k + 2 ^ L) (pow_pos' (L - l))
    rw [← hn, Nat.mul_comm] at h1
    have h3 := Nat.mul_le_mul_right (2 ^ (L - l)) b1
    refine ⟨b1, b2, ?_, ?_⟩
    · unfold fromOf; rw [hb]; omega
    · unfold fromOf; rw [hb]; omega
  by_cases h1 : p ≤ (k + 2 ^ L) / 2 ^ (L - lp)
  · obtain ⟨b1, b2, b3, b4⟩ := main lp _ hlL rfl
    refine ⟨_, h1, ?_, b3, b4⟩
    rw [Nat.pow_succ] at b2
    omega
  · have hlt : lp < L := by
      refine Classical.byContradiction fun h => ?_
      obtain rfl : lp = L := by omega
      rw [Nat.sub_self, Nat.pow_zero, Nat.div_one] at h1
      omega
    obtain ⟨b1, b2, b3, b4⟩ := main (lp + 1) _ hlt rfl
    have e2 : (k + 2 ^ L) / 2 ^ (L - (lp + 1)) / 2 = (k + 2 ^ L) / 2 ^ (L - lp) := by
      rw [Nat.div_div_eq_div_mul, ← Nat.pow_succ, show (L - (lp + 1)).succ = L - lp by omega]
    exact ⟨_, by omega, by omega, b3, b4⟩

theorem tab_sym {a : Nat} (ha : a < 2 ^ L) : symOf (tab L ps) a = symAt L ps a ∧ bitsS (tab L ps) a = bitsOf L (numAt L ps a) ∧ baseS (tab L ps) a = fromOf L (numAt L ps a) := by
  have hg := tab_get (tb := tab L ps) (a := a) (by rw [tab_length]; exact ha)
  have hc : (tab L ps)[a]? = some (cellAt L ps a) := by simp [tab, ha]
  have he := Option.some.inj (hg.symm.trans hc)
  rw [cellAt_eq] at he
  simp only [Prod.mk.injEq] at he
  exact he
theorem share_top (h : IsShares L ps) (s : Nat) : (ps.getD s 0).natAbs ≤ 2 ^ L := by
  rw [← count_syms h, ← syms_length (L := L) (ps := ps)]
  exact List.count_le_length
/-- A state of a symbol from which one comes to a state. -/
theorem state_to (h : IsShares L ps) {s k : Nat} (hs : ps.getD s 0 ≠ 0) (hk : k < 2 ^ L) : ∃ a, a < 2 ^ L ∧ symOf (tab L ps) a = s ∧ baseS (tab L ps) a ≤ k ∧ k < baseS (tab L ps) a + 2 ^ bitsS (tab L ps) a := by
  obtain ⟨n, h1, h2, h3, h4⟩ := cover (L := L) (p := (ps.getD s 0).natAbs) (k := k) (by omega) (share_top h s) hk
  obtain ⟨a, ha, hsa, hna⟩ := state_of h h1 h2
  have e := tab_sym (ps := ps) ha
  exact ⟨a, ha, by rw [e.1, hsa], by rw [e.2.2, hna]; exact h3, by rw [e.2.2, e.2.1, hna]; exact h4⟩
/-- A state of a symbol that has bits. -/
theorem state_bits (h : IsShares L ps) {s : Nat} (hs : ps.getD s 0 ≠ 0) (hlt : (ps.getD s 0).natAbs < 2 ^ L) : ∃ a, a < 2 ^ L ∧ symOf (tab L ps) a = s ∧ 0 < bitsS (tab L ps) a := by
  obtain ⟨a, ha, hsa, hna⟩ := state_of h (s := s) (n := (ps.getD s 0).natAbs) (Nat.le_refl _) (by omega)
  have e := tab_sym (ps := ps) ha
  refine ⟨a, ha, by rw [e.1, hsa], ?_⟩
  rw [e.2.1, hna]
  unfold bitsOf
  have := (Nat.log2_lt (n := (ps.getD s 0).natAbs) (k := L) (by omega)).2 hlt
  omega
end

/-- States that tell symbols. -/
structure Tells (tb : List (Nat × Nat × Nat)) (ws st : List Nat) : Prop where
  len : st.length = ws.length
  two : 2 ≤ ws.length
  sym : ∀ i, i < ws.length → symOf tb (st.getD i 0) = ws.getD i 0
  next : ∀ i, i + 2 < ws.length → baseS tb (st.getD i 0) ≤ st.getD (i + 2) 0 ∧ st.getD (i + 2) 0 < baseS tb (st.getD i 0) + 2 ^ bitsS tb (st.getD i 0)
  last : 0 < bitsS tb (st.getD (ws.length - 2) 0)
/-- What is written on the way from state i on. -/
def steps (tb : List (Nat × Nat × Nat)) (st : List Nat) : Nat → Nat → List (Nat × Nat)
  | 0, _ => []
  | r + 1, i => (st.getD (i + 2) 0 - baseS tb (st.getD i 0), bitsS tb (st.getD i 0)) :: steps tb st r (i + 1)
theorem steps_push (tb : List (Nat × Nat × Nat)) (st : List Nat) : ∀ r i, steps tb st (r + 1) i = steps tb st r i ++ [(st.getD (i + r + 2) 0 - baseS tb (st.getD (i + r) 0), bitsS tb (st.getD (i + r) 0))]
  | 0, i => by simp [steps]
  | r + 1, i => by
    rw [steps, steps_push tb st r (i + 1), steps, List.cons_append, show i + 1 + r = i + (r + 1) by omega]

theorem wts_told {tb : List (Nat × Nat × Nat)} {ws st : List Nat} (h : Tells tb ws st) (hl : ws.length ≤ 255) {N : Nat} :
    ∀ (r i f : Nat) (pre : List Bool), i + r + 2 = ws.length → r < f → N = marked (pre ++ hbAll (steps tb st r i)) →
      wts N tb f (st.getD i 0) (st.getD (i + 1) 0) (flen (steps tb st r i)) (ws.take i) = some ws
  | 0, i, f, pre, hi, hf, hN => by
    obtain ⟨f, rfl⟩ : ∃ g, f = g + 1 := ⟨f - 1, by omega⟩
    have hb := h.last
    rw [show ws.length - 2 = i by omega] at hb
    have hti : (ws.take i).length = i := by rw [List.length_take]; omega
    rw [steps, flen_nil, wts_end hb (by rw [hti]; omega), h.sym i (by omega), h.sym (i + 1) (by omega)]
    congr 1
    have e1 := take_push (l := ws) (k := i) (x := ws.getD i 0) (by rw [List.getD_eq_getElem?_getD, List.getElem?_eq_getElem (by omega)]; rfl)
    have e2 := take_push (l := ws) (k := i + 1) (x := ws.getD (i + 1) 0) (by rw [List.getD_eq_getElem?_getD, List.getElem?_eq_getElem (by omega)]; rfl)
    rw [List.take_of_length_le (by omega), e1, List.append_assoc] at e2
    exact e2.symm
  | r + 1, i, f, pre, hi, hf, hN => by
    obtain ⟨f, rfl⟩ : ∃ g, f = g + 1 := ⟨f - 1, by omega⟩
    have hti : (ws.take i).length = i := by rw [List.length_take]; omega
    have hn := h.next i (by omega)
    rw [steps, flen_cons]
    simp only
    rw [wts_step (by omega) (by rw [hti]; omega), Nat.add_sub_cancel_left]
    rw [steps, hbAll_cons] at hN
    have hrd : N / 2 ^ flen (steps tb st r (i + 1)) % 2 ^ bitsS tb (st.getD i 0) = st.getD (i + 2) 0 - baseS tb (st.getD i 0) := by
      rw [hN, ← hbAll_length]
      exact marked_read _ _ (by simp only; omega)
    rw [hrd, show baseS tb (st.getD i 0) + (st.getD (i + 2) 0 - baseS tb (st.getD i 0)) = st.getD (i + 1 + 1) 0 by rw [show i + 1 + 1 = i + 2 by omega]; omega, h.sym i (by omega)]
    have e1 := take_push (l := ws) (k := i) (x := ws.getD i 0) (by rw [List.getD_eq_getElem?_getD, List.getElem?_eq_getElem (by omega)]; rfl)
    rw [← e1]
    exact wts_told h hl r (i + 1) f (pre ++ hiBits (st.getD (i + 2) 0 - baseS tb (st.getD i 0)) (bitsS tb (st.getD i 0))) (by omega) (by omega) (by rw [hN, List.append_assoc])

/-- The bits of all states. -/
def stateBits (L : Nat) (tb : List (Nat × Nat × Nat)) (st : List Nat) : List (Nat × Nat) := (st.getD 0 0, L) :: (st.getD 1 0, L) :: steps tb st (st.length - 2) 0

/-- Weights that are told by shares and states are read. -/
theorem wtsOf_told {L : Nat} {ps : List Int} {ws st zs ys : List Nat} (h5 : 5 ≤ L) (h6 : L ≤ 6) (hr : Rest ps (2 ^ L)) (hp : ps.length ≤ 256) (_hz : Bytes zs) (hy : Bytes ys)
    (hzl : zs.length = (flen (told L ps) + 7) / 8) (hzn : num zs = fnum (told L ps)) (hT : Tells (tab L ps) ws st) (hw : ws.length ≤ 255) (hst : ∀ x ∈ st, x < 2 ^ L)
    (hyl : ys.length = (flen (stateBits L (tab L ps) st)) / 8 + 1) (hyn : num ys = marked (hbAll (stateBits L (tab L ps) st))) : wtsOf (zs ++ ys) = some ws := by
  have hfit := fnum_lt (told_fits h5 (by omega) hr)
  have hpow : 2 ^ flen (told L ps) ≤ 2 ^ (8 * zs.length) := Nat.pow_le_pow_right (by decide) (by omega)
  have hN : num (zs ++ ys) % 2 ^ flen (told L ps) = fnum (told L ps) := by
    rw [num_append, hzn, Nat.add_mod, show 8 * zs.length = flen (told L ps) + (8 * zs.length - flen (told L ps)) by omega, Nat.pow_add, Nat.mul_left_comm, Nat.mul_mod_right, Nat.add_zero, Nat.mod_mod, Nat.mod_eq_of_lt hfit]
  have hde := desc_told (N := num (zs ++ ys)) (T := 8 * (zs ++ ys).length) (S := 256) (M := 6) h5 (by omega) hr h6 hN (by rw [List.length_append]; omega) hp
  have hbl : (hbAll (stateBits L (tab L ps) st)).length = flen (stateBits L (tab L ps) st) := hbAll_length _
  obtain ⟨x, hmk, hpos⟩ := marked_mark hy (by rw [hbl]; exact hyl) hyn
  have hdrop : ys = (zs ++ ys).drop ((flen (told L ps) + 7) / 8) := by rw [← hzl, List.drop_left]
  have hx : x = ys.getD (ys.length - 1) 0 := by rw [List.getD_eq_getElem?_getD, hmk.last]; rfl
  have hx0 : x ≠ 0 := by have := hmk.low; have := pow_pos' ((hbAll (stateBits L (tab L ps) st)).length % 8); omega
  have hlog : Nat.log2 x = (hbAll (stateBits L (tab L ps) st)).length % 8 := log2_is hmk.low hmk.high
  have hlen : flen (stateBits L (tab L ps) st) = L + (L + flen (steps (tab L ps) st (st.length - 2) 0)) := by
    unfold stateBits; rw [flen_cons, flen_cons]
  have h2 := hT.two
  have hl := hT.len
  have g0 : st.getD 0 0 < 2 ^ L := hst _ (by rw [List.getD_eq_getElem?_getD, List.getElem?_eq_getElem (by omega)]; exact List.getElem_mem (by omega))
  have g1 : st.getD 1 0 < 2 ^ L := hst _ (by rw [List.getD_eq_getElem?_getD, List.getElem?_eq_getElem (by omega)]; exact List.getElem_mem (by omega))
  have hb : hbAll (stateBits L (tab L ps) st) = [] ++ (hiBits (st.getD 0 0) L ++ (hiBits (st.getD 1 0) L ++ hbAll (steps (tab L ps) st (st.length - 2) 0))) := by
    unfold stateBits; rw [hbAll_cons, hbAll_cons]; rfl
  rw [wtsOf_some hde hdrop hx, if_neg hx0, hlog, hpos, hbl, if_neg (by rw [hlen]; omega)]
  have r0 : num ys / 2 ^ (flen (stateBits L (tab L ps) st) - L) % 2 ^ L = st.getD 0 0 := by
    rw [hyn, hb, hlen, show L + (L + flen (steps (tab L ps) st (st.length - 2) 0)) - L = (hiBits (st.getD 1 0) L ++ hbAll (steps (tab L ps) st (st.length - 2) 0)).length by rw [List.length_append, hiBits_length, hbAll_length]; omega]
    exact marked_read _ _ g0
  have r1 : num ys / 2 ^ (flen (stateBits L (tab L ps) st) - 2 * L) % 2 ^ L = st.getD 1 0 := by
    rw [hyn, hb, hlen, show L + (L + flen (steps (tab L ps) st (st.length - 2) 0)) - 2 * L = (hbAll (steps (tab L ps) st (st.length - 2) 0)).length by rw [hbAll_length]; omega, List.nil_append, ← List.append_assoc (hiBits (st.getD 0 0) L)]
    rw [List.append_assoc]
    exact marked_read _ _ g1
  rw [r0, r1, show flen (stateBits L (tab L ps) st) - 2 * L = flen (steps (tab L ps) st (st.length - 2) 0) by rw [hlen]; omega]
  have := wts_told hT hw (N := num ys) (st.length - 2) 0 256 (hiBits (st.getD 0 0) L ++ hiBits (st.getD 1 0) L) (by omega) (by omega) (by rw [hyn, hb, List.nil_append, List.append_assoc])
  simpa using this
end

section
theorem sum_set : ∀ (l : List Nat) (i x y : Nat), l[i]? = some x → (l.set i y).sum + x = l.sum + y
  | [], i, x, y, h => by simp at h
  | z :: l, 0, x, y, h => by
    simp at h
    subst h
    simp
    omega
  | z :: l, i + 1, x, y, h => by
    have h1 := sum_set l i x y (by simpa using h)
    simp only [List.set_cons_succ, List.sum_cons] at h1 ⊢
    omega
theorem mem_le_sum : ∀ (l : List Nat) (i : Nat), l.getD i 0 ≤ l.sum
  | [], i => by simp
  | z :: l, 0 => by simp
  | z :: l, i + 1 => by
    have h1 := mem_le_sum l i
    simp only [List.getD_cons_succ, List.sum_cons]
    omega
theorem two_le_sum : ∀ (l : List Nat) (i j : Nat), i < j → l.getD i 0 + l.getD j 0 ≤ l.sum
  | [], i, j, _ => by simp
  | z :: l, 0, j + 1, _ => by
    have h1 := mem_le_sum l j
    simp only [List.getD_cons_zero, List.getD_cons_succ, List.sum_cons]
    omega
  | z :: l, i + 1, j + 1, h => by
    have h1 := two_le_sum l i j (by omega)
    simp only [List.getD_cons_succ, List.sum_cons]
    omega

/-- How often each comes; the last one does. -/
def Counts (ws cs : List Nat) : Prop := (∀ s, cs.getD s 0 = ws.count s) ∧ (cs ≠ [] → cs.getD (cs.length - 1) 0 ≠ 0)
/-- Which come. -/
def usedC (cs : List Nat) : List Nat := posAt 0 (cs.map Int.ofNat)
theorem usedC_push {cs : List Nat} {k x : Nat} (h : cs[k]? = some x) : usedC (cs.take (k + 1)) = usedC (cs.take k) ++ if x = 0 then [] else [k] := by
  have := posAt_push (l := cs.map Int.ofNat) (k := k) (x := Int.ofNat x) (by rw [List.getElem?_map, h]; rfl)
  rw [← List.map_take, ← List.map_take] at this
  unfold usedC
  rw [this]
  congr 1
  by_cases hx : x = 0
  · subst hx; rfl
  · rw [if_neg hx, if_pos (by simp only [Int.ofNat_eq_natCast]; omega)]
theorem posAt_pos : ∀ (l : List Int) (s x : Nat), x ∈ posAt s l → ∃ v, l[x - s]? = some v ∧ 0 < v
  | [], s, x, h => by simp [posAt] at h
  | y :: l, s, x, h => by
    rw [posAt, List.mem_append] at h
    rcases h with h | h
    · split at h
      · rename_i hy
        simp only [List.mem_singleton] at h
        subst h
        exact ⟨y, by simp, hy⟩
      · cases h
    · obtain ⟨v, h1, h2⟩ := posAt_pos l (s + 1) x h
      have := (posAt_mem l (s + 1) x h).1
      refine ⟨v, ?_, h2⟩
      rw [show x - s = (x - (s + 1)) + 1 by omega, List.getElem?_cons_succ]
      exact h1
theorem usedC_pos {cs : List Nat} {x : Nat} (h : x ∈ usedC cs) : cs.getD x 0 ≠ 0 := by
  obtain ⟨v, h1, h2⟩ := posAt_pos _ _ _ h
  rw [Nat.sub_zero, List.getElem?_map] at h1
  obtain ⟨y, h3, h4⟩ := Option.map_eq_some_iff.1 h1
  rw [List.getD_eq_getElem?_getD, h3]
  simp only [Option.getD_some]
  simp only [Int.ofNat_eq_natCast] at h4
  omega
/-- Where two come, another one comes. -/
theorem usedC_other {cs : List Nat} (h : 2 ≤ (usedC cs).length) (x : Nat) : ∃ y, y ≠ x ∧ cs.getD y 0 ≠ 0 := by
  have hs : (usedC cs).getD 0 0 < (usedC cs).getD 1 0 := sorted_at (us := usedC cs) (posAt_sorted _ _) (by omega) (by omega)
  have hm : ∀ i, i < (usedC cs).length → (usedC cs).getD i 0 ∈ usedC cs := fun i hi => by
    rw [List.getD_eq_getElem?_getD, List.getElem?_eq_getElem hi]; exact List.getElem_mem hi
  by_cases e : (usedC cs).getD 0 0 = x
  · exact ⟨_, by omega, usedC_pos (hm 1 (by omega))⟩
  · exact ⟨_, e, usedC_pos (hm 0 (by omega))⟩

/-- Shares of weights. -/
structure ShareOf (ws : List Nat) (L : Nat) (ps : List Int) : Prop where
  rest : Rest ps (2 ^ L)
  few : ps.length ≤ 12
  has : ∀ x ∈ ws, ps.getD x 0 ≠ 0 ∧ (ps.getD x 0).natAbs < 2 ^ L

theorem shares_fine {ws cs os : List Nat} {ps : List Int} {L : Nat} (hc : Counts ws cs) (ho : os.length = cs.length) (hp : ps.length = cs.length) (hos : ∀ j, cs.getD j 0 ≠ 0 → 1 ≤ os.getD j 0) (hsum : os.sum = 2 ^ L) (hu : 2 ≤ (usedC cs).length)
    (habs : ∀ j, (ps.getD j 0).natAbs = os.getD j 0) (hge : ∀ j, -1 ≤ ps.getD j 0) (h12 : cs.length ≤ 12) : ShareOf ws L ps := by
  have hmap : ps.map Int.natAbs = os := by
    refine List.ext_getElem? fun j => ?_
    have h1 := habs j
    rw [List.getD_eq_getElem?_getD, List.getD_eq_getElem?_getD] at h1
    rw [List.getElem?_map]
    by_cases hj : j < ps.length
    · rw [List.getElem?_eq_getElem hj, List.getElem?_eq_getElem (by omega)] at h1 ⊢
      simp only [Option.getD_some] at h1
      simp [h1]
    · rw [List.getElem?_eq_none (by omega), List.getElem?_eq_none (by omega)]; rfl
  have htot : tot ps = 2 ^ L := by unfold tot; rw [hmap, hsum]
  have hne : cs ≠ [] := by rintro rfl; simp [usedC, posAt] at hu
  have hcl : 0 < cs.length := List.length_pos_iff.2 hne
  have hlast := hos _ (hc.2 hne)
  refine ⟨⟨fun p hpm => ?_, htot, fun k hk => ?_⟩, by omega, fun x hx => ?_⟩
  · obtain ⟨j, hj, rfl⟩ := List.getElem_of_mem hpm
    have := hge j
    rw [List.getD_eq_getElem?_getD, List.getElem?_eq_getElem hj] at this
    exact this
  · have e : tot (ps.take k) + tot (ps.drop k) = tot ps := by rw [← tot_append, List.take_append_drop]
    have h1 : (ps.getD (cs.length - 1) 0).natAbs ≤ tot (ps.drop k) := by
      refine tot_mem ?_
      have hj : cs.length - 1 - k < (ps.drop k).length := by rw [List.length_drop]; omega
      have : (ps.drop k)[cs.length - 1 - k] = ps.getD (cs.length - 1) 0 := by
        rw [List.getElem_drop, List.getD_eq_getElem?_getD, List.getElem?_eq_getElem (by omega)]
        simp only [Option.getD_some]
        congr 1
        omega
      rw [← this]
      exact List.getElem_mem hj
    have h2 := habs (cs.length - 1)
    omega
  · have h1 : cs.getD x 0 ≠ 0 := by rw [hc.1 x]; exact Nat.ne_of_gt (List.count_pos_iff.2 hx)
    have h2 := hos x h1
    have h3 := habs x
    obtain ⟨y, hy, hy2⟩ := usedC_other hu x
    have h4 := hos y hy2
    have h5 : os.getD x 0 + os.getD y 0 ≤ os.sum := by
      rcases Nat.lt_or_gt_of_ne hy with h | h
      · have := two_le_sum os y x h; omega
      · exact two_le_sum os x y h
    omega

/-- Two weights in a byte. -/
def pk (ws : List Nat) (j : Nat) : Nat := ws.getD (2 * j) 0 * 16 + ws.getD (2 * j + 1) 0
def pairs (ws : List Nat) (k : Nat) : List Nat := (127 + ws.length) :: (List.range k).map (pk ws)
theorem pairs_push (ws : List Nat) (k : Nat) : pairs ws (k + 1) = pairs ws k ++ [pk ws k] := by simp [pairs, List.range_succ]
theorem pairs_length (ws : List Nat) (k : Nat) : (pairs ws k).length = k + 1 := by simp [pairs]
theorem getD_lt16 {ws : List Nat} (h : ∀ x ∈ ws, x < 16) (i : Nat) : ws.getD i 0 < 16 := by
  rw [List.getD_eq_getElem?_getD]
  cases hi : ws[i]? with
  | none => simp
  | some x => simpa using h x (List.mem_of_getElem? hi)
theorem pk_lt {ws : List Nat} (h : ∀ x ∈ ws, x < 16) (j : Nat) : pk ws j < 256 := by
  have h1 := getD_lt16 h (2 * j)
  have h2 := getD_lt16 h (2 * j + 1)
  unfold pk
  omega
/-- What tells weights. -/
def TellsW (zs ws : List Nat) : Prop := zs.length = 1 + bodyOf (zs.getD 0 0) ∧ wtsIn zs = some ws ∧ Bytes zs
theorem pairs_told {ws : List Nat} (h : ∀ x ∈ ws, x < 16) (h0 : 0 < ws.length) (h128 : ws.length ≤ 128) : TellsW (pairs ws ((ws.length + 1) / 2)) ws := by
  have e0 : (pairs ws ((ws.length + 1) / 2)).getD 0 0 = 127 + ws.length := rfl
  refine ⟨?_, ?_, ?_⟩
  · rw [pairs_length, e0]
    unfold bodyOf
    rw [if_pos (by omega)]
    omega
  · unfold wtsIn
    rw [e0, if_pos (by omega), Nat.add_sub_cancel_left]
    congr 1
    refine List.ext_getElem? fun i => ?_
    by_cases hi : i < ws.length
    · have hpk : (pairs ws ((ws.length + 1) / 2)).getD (1 + i / 2) 0 = pk ws (i / 2) := by
        rw [pairs, show 1 + i / 2 = i / 2 + 1 by omega, List.getD_cons_succ, List.getD_eq_getElem?_getD, List.getElem?_map, List.getElem?_range (by omega)]
        rfl
      have h1 := getD_lt16 h (2 * (i / 2))
      have h2 := getD_lt16 h (2 * (i / 2) + 1)
      have hg : ws[i]? = some (ws.getD i 0) := by rw [List.getD_eq_getElem?_getD, List.getElem?_eq_getElem hi]; rfl
      rw [nibs, List.getElem?_map, List.getElem?_range hi, hg]
      show some (nibAt _ i) = _
      unfold nibAt
      rw [hpk]
      unfold pk
      obtain ⟨j, hj⟩ : ∃ j, j = i / 2 := ⟨_, rfl⟩
      rw [← hj] at h1 h2 ⊢
      have e1 : (2 : Nat) ^ (4 - 0 * 4) = 16 := by decide
      have e2 : (2 : Nat) ^ (4 - 1 * 4) = 1 := by decide
      have h3 : i = 2 * j ∨ i = 2 * j + 1 := by omega
      rcases h3 with rfl | rfl
      · rw [show 2 * j % 2 = 0 by omega, e1]
        congr 1
        omega
      · rw [show (2 * j + 1) % 2 = 1 by omega, e2, Nat.div_one]
        congr 1
        omega
    · rw [List.getElem?_eq_none (by rw [nibs_length]; omega), List.getElem?_eq_none (by omega)]
  · intro x hx
    rw [pairs, List.mem_cons] at hx
    rcases hx with rfl | hx
    · omega
    · obtain ⟨j, _, rfl⟩ := List.mem_map.1 hx
      exact pk_lt h j
theorem fse_told {ws zs : List Nat} (hz : Bytes zs) (hl : zs.length ≤ 127) (h : wtsOf zs = some ws) : TellsW (zs.length :: zs) ws := by
  refine ⟨?_, ?_, fun x hx => ?_⟩
  · rw [List.getD_cons_zero, List.length_cons]
    unfold bodyOf
    rw [if_neg (by omega), Nat.add_comm]
  · unfold wtsIn
    rw [List.getD_cons_zero, if_neg (by omega), List.drop_succ_cons, List.drop_zero, List.take_of_length_le (Nat.le_refl _)]
    exact h
  · rcases List.mem_cons.1 hx with rfl | hx
    · omega
    · exact hz x hx
/-- A tree that is told. -/
theorem Lens.tells {l zs : List Nat} {m : Nat} (h : Lens l m) (hz : TellsW zs (wtsBy m (l.take (l.length - 1)))) (tl : List Nat) : treeS (zs ++ tl) = some (wtsBy m l, m, zs.length) := h.told hz.1 hz.2.1 tl
end
end Go.Proofs.YtabaholflahepaaDoor
