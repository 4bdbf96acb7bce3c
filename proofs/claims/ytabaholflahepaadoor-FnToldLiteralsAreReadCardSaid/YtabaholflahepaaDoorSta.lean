/-
  Plain law: of the states of an FSE table each symbol has as many as its share, and those to which a symbol's states lead are all states, each one once.
-/
import Derived.Test.YtabaholflahepaaDoorFse
namespace Go.Proofs.YtabaholflahepaaDoor

theorem goTo_perm_all : ∀ L ∈ [5, 6, 7, 8, 9], ((List.range (2 ^ L)).map (goTo L)).isPerm (List.range (2 ^ L)) = true := by decide +kernel
theorem goTo_perm {L : Nat} (h5 : 5 ≤ L) (h9 : L ≤ 9) : ((List.range (2 ^ L)).map (goTo L)).Perm (List.range (2 ^ L)) := by
  refine List.isPerm_iff.1 (goTo_perm_all L ?_)
  have : L = 5 ∨ L = 6 ∨ L = 7 ∨ L = 8 ∨ L = 9 := by omega
  rcases this with rfl | rfl | rfl | rfl | rfl <;> decide

section
variable {L : Nat} {ps : List Int}

theorem filter_range {n h : Nat} (hh : h ≤ n) : (List.range n).filter (fun x => decide (x < h)) = List.range h := by
  obtain ⟨m, rfl⟩ : ∃ m, n = h + m := ⟨n - h, by omega⟩
  rw [List.range_add, List.filter_append, List.filter_eq_self.2, List.filter_eq_nil_iff.2, List.append_nil]
  · intro x hx
    obtain ⟨y, _, rfl⟩ := List.mem_map.1 hx
    simp
  · intro x hx
    simpa using List.mem_range.1 hx

theorem visit (h : IsShares L ps) : ∀ m, m ≤ 2 ^ L → (((List.range m).map (goTo L)).filter (fun x => decide (x < highOf ps))).map (symAt L ps) = (expand 0 ps).take (cnt L (highOf ps) m)
  | 0, _ => by simp [cnt]
  | m + 1, hm => by
    rw [List.range_succ, List.map_append, List.filter_append, List.map_append, visit h m (by omega), cnt]
    by_cases hg : goTo L m < highOf ps
    · have hc : cnt L (highOf ps) m < (expand 0 ps).length := by
        have := cnt_lt h.five h.nine (high_le h) hg
        rwa [back_goTo h.five h.nine (by omega)] at this
      have e : symAt L ps (goTo L m) = (expand 0 ps)[cnt L (highOf ps) m] := by
        rw [symAt, if_pos hg, back_goTo h.five h.nine (by omega), List.getD_eq_getElem?_getD, List.getElem?_eq_getElem hc]; rfl
      rw [if_pos hg]
      simp [hg, e]
    · rw [if_neg hg]
      simp [hg]

theorem count_lows : ∀ (l : List Int) (s x : Nat), s ≤ x → (lows s l).count x = if l.getD (x - s) 0 = -1 then 1 else 0
  | [], s, x, _ => by simp [lows]
  | p :: l, s, x, h => by
    simp only [lows, List.count_append]
    by_cases e : s = x
    · subst e
      have : (lows (s + 1) l).count s = 0 := List.count_eq_zero.2 fun hm => by have := lows_mem l (s + 1) s hm; omega
      rw [this, Nat.sub_self, List.getD_cons_zero]
      split <;> simp
    · obtain ⟨d, hd⟩ : ∃ d, x - s = d + 1 := ⟨x - s - 1, by omega⟩
      rw [count_lows l (s + 1) x (by omega), hd, List.getD_cons_succ, show x - (s + 1) = d by omega]
      have : (if p = -1 then [s] else []).count x = 0 := by
        split
        · rw [List.count_eq_zero]; simp; omega
        · rfl
      rw [this, Nat.zero_add]

theorem count_syms (h : IsShares L ps) {s : Nat} : (syms L ps).count s = (ps.getD s 0).natAbs := by
  obtain ⟨m, hm⟩ : ∃ m, 2 ^ L = highOf ps + m := ⟨2 ^ L - highOf ps, by have := high_le h; omega⟩
  have hlow : m = (lows 0 ps).length := by have := h.sum; unfold highOf at hm; omega
  have h1 : syms L ps = (List.range (highOf ps)).map (symAt L ps) ++ ((List.range m).map (highOf ps + ·)).map (symAt L ps) := by
    unfold syms
    rw [hm, List.range_add, List.map_append]
  have h2 : ((List.range m).map (highOf ps + ·)).map (symAt L ps) = (lows 0 ps).reverse := by
    apply List.ext_getElem?
    intro i
    by_cases hi : i < m
    · rw [List.getElem?_reverse (by omega)]
      simp [hi]
      rw [symAt, if_neg (by omega), hm, List.getD_eq_getElem?_getD, ← hlow, show highOf ps + m - 1 - (highOf ps + i) = m - 1 - i by omega, List.getElem?_eq_getElem (by omega)]
      rfl
    · rw [List.getElem?_eq_none (by simp; omega), List.getElem?_eq_none (by simp; omega)]
  have h3 : ((List.range (highOf ps)).map (symAt L ps)).count s = (expand 0 ps).count s := by
    have hp := ((goTo_perm h.five h.nine).filter (fun x => decide (x < highOf ps))).map (symAt L ps)
    rw [visit h _ (Nat.le_refl _), filter_range (high_le h), cnt_total h.five h.nine _ (high_le h), show highOf ps = (expand 0 ps).length from rfl, List.take_length] at hp
    exact (hp.count_eq s).symm
  rw [h1, List.count_append, h2, h3, List.count_reverse, count_expand ps 0 s (Nat.zero_le _), count_lows ps 0 s (Nat.zero_le _), Nat.sub_zero]
  by_cases hs : s < ps.length
  · have hl := h.least (ps.getD s 0) (by rw [List.getD_eq_getElem?_getD, List.getElem?_eq_getElem hs]; exact List.getElem_mem hs)
    split <;> omega
  · have : ps.getD s 0 = 0 := by rw [List.getD_eq_getElem?_getD, List.getElem?_eq_none (by omega)]; rfl
    rw [this]; rfl

/-- What a state is reckoned from: the symbol's share, and how often it came before. -/
theorem numAt_eq (h : IsShares L ps) {i : Nat} (hi : i < 2 ^ L) : numAt L ps i = (ps.getD (symAt L ps i) 0).natAbs + ((syms L ps).take i).count (symAt L ps i) := by
  by_cases hh : i < highOf ps
  · have := share_pos h hh
    rw [numAt, if_pos hh]; omega
  · have h1 := share_neg h (by omega) hi
    have h2 := count_syms h (s := symAt L ps i)
    have h3 : ((syms L ps).take (i + 1)).count (symAt L ps i) ≤ (syms L ps).count (symAt L ps i) := (List.take_sublist _ _).count_le _
    rw [syms_push hi, List.count_append, h2, h1] at h3
    rw [numAt, if_neg hh, h1]
    simp at h3 ⊢
    omega

/-- A number's bits, where the states that it leads to begin. -/
def bitsOf (L n : Nat) : Nat := L - Nat.log2 n
def fromOf (L n : Nat) : Nat := n * 2 ^ bitsOf L n - 2 ^ L

theorem log_le {n : Nat} (h0 : 0 < n) (h : n < 2 ^ (L + 1)) : Nat.log2 n ≤ L := by
  have := (Nat.log2_lt (n := n) (k := L + 1) (by omega)).2 h
  omega
theorem from_low {n : Nat} (h0 : 0 < n) (h : n < 2 ^ (L + 1)) : 2 ^ L ≤ n * 2 ^ bitsOf L n := by
  have hl := log_le h0 h
  have h1 : 2 ^ Nat.log2 n ≤ n := Nat.log2_self_le (by omega)
  have h2 := Nat.mul_le_mul_right (2 ^ bitsOf L n) h1
  rw [← Nat.pow_add, show Nat.log2 n + bitsOf L n = L by unfold bitsOf; omega] at h2
  exact h2
theorem from_high {n : Nat} (h0 : 0 < n) (h : n < 2 ^ (L + 1)) : (n + 1) * 2 ^ bitsOf L n ≤ 2 ^ (L + 1) := by
  have hl := log_le h0 h
  have h1 : n < 2 ^ (Nat.log2 n + 1) := Nat.lt_log2_self
  have h2 := Nat.mul_le_mul_right (2 ^ bitsOf L n) (show n + 1 ≤ 2 ^ (Nat.log2 n + 1) from h1)
  rw [← Nat.pow_add, show Nat.log2 n + 1 + bitsOf L n = L + 1 by unfold bitsOf; omega] at h2
  exact h2
theorem from_end {n : Nat} (h0 : 0 < n) (h : n < 2 ^ (L + 1)) : fromOf L n + 2 ^ bitsOf L n ≤ 2 ^ L := by
  have h1 := from_high h0 h
  have h2 := from_low h0 h
  rw [Nat.add_mul, Nat.one_mul, Nat.pow_succ] at h1
  unfold fromOf
  omega

theorem log_mono {a b : Nat} (ha : 0 < a) (h : a ≤ b) : Nat.log2 a ≤ Nat.log2 b := by
  have h1 : 2 ^ Nat.log2 a ≤ a := Nat.log2_self_le (by omega)
  exact (Nat.le_log2 (by omega)).2 (by omega)
theorem log_double {a : Nat} (ha : 0 < a) : Nat.log2 (2 * a) = Nat.log2 a + 1 := by
  have h1 : 2 ^ Nat.log2 a ≤ a := Nat.log2_self_le (by omega)
  have h2 : a < 2 ^ (Nat.log2 a + 1) := Nat.lt_log2_self
  have h3 : Nat.log2 a + 1 ≤ Nat.log2 (2 * a) := (Nat.le_log2 (by omega)).2 (by rw [Nat.pow_succ]; omega)
  have h4 : Nat.log2 (2 * a) < Nat.log2 a + 2 := (Nat.log2_lt (by omega)).2 (by rw [Nat.pow_succ]; omega)
  omega

/-- Two states of a symbol lead to no state both. -/
theorem apart {p a b : Nat} (hp : 0 < p) (hpL : p ≤ 2 ^ L) (ha : p ≤ a) (hab : a < b) (hb : b < 2 * p) {k : Nat} (hk1 : fromOf L a ≤ k) (hk2 : k < fromOf L a + 2 ^ bitsOf L a) :
    ¬ (fromOf L b ≤ k ∧ k < fromOf L b + 2 ^ bitsOf L b) := by
  have hbL : b < 2 ^ (L + 1) := by rw [Nat.pow_succ]; omega
  have a1 := from_low (L := L) (n := a) (by omega) (by omega)
  have b1 := from_low (L := L) (n := b) (by omega) hbL
  have hlb := log_le (by omega) hbL
  have h1 := log_mono (a := a) (b := b) (by omega) (by omega)
  have h2 := log_mono (a := p) (b := a) hp ha
  have h3 := log_mono (a := b) (b := 2 * p) (by omega) (by omega)
  rw [log_double hp] at h3
  unfold fromOf at *
  by_cases e : Nat.log2 a = Nat.log2 b
  · have eb : bitsOf L a = bitsOf L b := by unfold bitsOf; rw [e]
    have h4 : (a + 1) * 2 ^ bitsOf L a ≤ b * 2 ^ bitsOf L a := Nat.mul_le_mul_right _ (by omega)
    rw [Nat.add_mul, Nat.one_mul] at h4
    rw [← eb] at b1 ⊢
    omega
  · have eb : bitsOf L a = bitsOf L b + 1 := by unfold bitsOf; omega
    have h4 : (b + 1) * 2 ^ bitsOf L b ≤ (a * 2) * 2 ^ bitsOf L b := Nat.mul_le_mul_right _ (by omega)
    rw [Nat.add_mul, Nat.one_mul] at h4
    rw [eb] at a1 hk1 hk2
    rw [Nat.pow_succ] at a1 hk1 hk2
    have e2 : a * (2 ^ bitsOf L b * 2) = a * 2 * 2 ^ bitsOf L b := by rw [Nat.mul_comm (2 ^ bitsOf L b) 2, Nat.mul_assoc]
    rw [e2] at a1 hk1 hk2
    omega

/-- How many states the first t states of a symbol lead to. -/
def reach (L p : Nat) : Nat → Nat
  | 0 => 0
  | t + 1 => reach L p t + 2 ^ bitsOf L (p + t)
theorem reach_two {p : Nat} (hp : 0 < p) (hpL : p < 2 ^ L) : ∀ t, reach L (p + 1) t + 2 ^ bitsOf L p = reach L p (t + 1)
  | 0 => by simp [reach]
  | t + 1 => by
    have := reach_two hp hpL t
    simp only [reach] at this ⊢
    rw [show p + 1 + t = p + (t + 1) by omega]
    omega
theorem reach_all (hL : 1 ≤ L) : ∀ p, 0 < p → p ≤ 2 ^ L → reach L p p = 2 ^ L
  | 0, h, _ => by omega
  | 1, _, _ => by simp [reach, bitsOf, show Nat.log2 1 = 0 by decide]
  | p + 2, _, hp => by
    have ih := reach_all hL (p + 1) (by omega) (by omega)
    have h1 := reach_two (L := L) (p := p + 1) (by omega) (by omega) (p + 1)
    have h2 : reach L (p + 1) (p + 1 + 1) = reach L (p + 1) (p + 1) + 2 ^ bitsOf L (p + 1 + (p + 1)) := rfl
    have h3 : reach L (p + 2) (p + 2) = reach L (p + 1 + 1) (p + 1) + 2 ^ bitsOf L (p + 2 + (p + 1)) := rfl
    have d1 := log_double (a := p + 1) (by omega)
    have d2 : Nat.log2 (p + 2 + (p + 1)) = Nat.log2 (p + 1) + 1 := by
      have h1 : 2 ^ Nat.log2 (p + 1) ≤ p + 1 := Nat.log2_self_le (by omega)
      have h2 : p + 1 < 2 ^ (Nat.log2 (p + 1) + 1) := Nat.lt_log2_self
      have h3 : Nat.log2 (p + 1) + 1 ≤ Nat.log2 (p + 2 + (p + 1)) := (Nat.le_log2 (by omega)).2 (by rw [Nat.pow_succ]; omega)
      have h4 : Nat.log2 (p + 2 + (p + 1)) < Nat.log2 (p + 1) + 2 := (Nat.log2_lt (by omega)).2 (by rw [Nat.pow_succ (2) (Nat.log2 (p + 1) + 1)]; omega)
      omega
    have hlt : Nat.log2 (p + 1) + 1 ≤ L := by
      have : Nat.log2 (p + 1) < L := (Nat.log2_lt (by omega)).2 (by omega)
      omega
    have b1 : bitsOf L (p + 1) = bitsOf L (p + 1 + (p + 1)) + 1 := by
      unfold bitsOf; rw [show p + 1 + (p + 1) = 2 * (p + 1) by omega, d1]; omega
    have b2 : bitsOf L (p + 2 + (p + 1)) = bitsOf L (p + 1 + (p + 1)) := by
      unfold bitsOf; rw [d2, show p + 1 + (p + 1) = 2 * (p + 1) by omega, d1]
    rw [b1, Nat.pow_succ] at h1
    rw [b2] at h3
    omega

/-- Has one of the first t states of a symbol led to k? -/
def met (L p t k : Nat) : Bool := (List.range t).any fun j => decide (fromOf L (p + j) ≤ k) && decide (k < fromOf L (p + j) + 2 ^ bitsOf L (p + j))
theorem met_fresh {p t k : Nat} (hp : 0 < p) (hpL : p ≤ 2 ^ L) (ht : t < p) (hk1 : fromOf L (p + t) ≤ k) (hk2 : k < fromOf L (p + t) + 2 ^ bitsOf L (p + t)) : met L p t k = false := by
  rw [met, List.any_eq_false]
  intro j hj
  have hj := List.mem_range.1 hj
  intro hc
  simp only [Bool.and_eq_true, decide_eq_true_eq] at hc
  exact apart hp hpL (show p ≤ p + j by omega) (show p + j < p + t by omega) (by omega) hc.1 hc.2 ⟨hk1, hk2⟩
theorem met_succ (p t k : Nat) : met L p (t + 1) k = (met L p t k || (decide (fromOf L (p + t) ≤ k) && decide (k < fromOf L (p + t) + 2 ^ bitsOf L (p + t)))) := by
  simp [met, List.range_succ]
/-- The marks behind t states; behind t states and the next one's up to y. -/
def marks (L p t y : Nat) : List Bool := (List.range (2 ^ L)).map fun k => met L p t k || (decide (fromOf L (p + t) ≤ k) && decide (k < y))
theorem marks_length {p t y : Nat} : (marks L p t y).length = 2 ^ L := by simp [marks]
theorem marks_at {p t y k : Nat} (hk : k < 2 ^ L) : (marks L p t y)[k]? = some (met L p t k || (decide (fromOf L (p + t) ≤ k) && decide (k < y))) := by simp [marks, hk]
theorem marks_zero (p : Nat) : marks L p 0 (fromOf L p) = List.replicate (2 ^ L) false := by
  apply List.ext_getElem?
  intro k
  by_cases hk : k < 2 ^ L
  · rw [marks_at hk]
    simp [met, hk]
  · rw [List.getElem?_eq_none (by rw [marks_length]; omega), List.getElem?_eq_none (by simp; omega)]
theorem marks_start {p t y : Nat} (hy : y ≤ fromOf L (p + t)) : marks L p t y = marks L p t 0 := by
  unfold marks
  refine List.map_congr_left fun k _ => ?_
  congr 1
  by_cases h : fromOf L (p + t) ≤ k
  · have : ¬ k < y := by omega
    simp [this]
  · simp [h]
theorem marks_push {p t k : Nat} (hk : fromOf L (p + t) ≤ k) : (marks L p t k).set k true = marks L p t (k + 1) := by
  apply List.ext_getElem?
  intro x
  by_cases hx : x < 2 ^ L
  · rw [List.getElem?_set, marks_at hx, marks_at hx, marks_length]
    by_cases e : k = x
    · subst e
      simp [hx, hk]
    · rw [if_neg e]
      have : decide (x < k) = decide (x < k + 1) := by
        rw [Bool.eq_iff_iff]; simp; omega
      rw [this]
  · rw [List.getElem?_eq_none (by rw [List.length_set, marks_length]; omega), List.getElem?_eq_none (by rw [marks_length]; omega)]
theorem marks_next {p t : Nat} : marks L p t (fromOf L (p + t) + 2 ^ bitsOf L (p + t)) = marks L p (t + 1) 0 := by
  unfold marks
  refine List.map_congr_left fun k _ => ?_
  rw [met_succ]
  simp

/-- A state's bits and base. -/
theorem cellAt_eq (i : Nat) : cellAt L ps i = (symAt L ps i, bitsOf L (numAt L ps i), fromOf L (numAt L ps i)) := rfl
end
end Go.Proofs.YtabaholflahepaaDoor
