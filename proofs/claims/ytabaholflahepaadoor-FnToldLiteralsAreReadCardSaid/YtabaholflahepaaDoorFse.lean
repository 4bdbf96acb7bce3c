/-
  Plain law: the states of an FSE table, as a list: what the shares of the symbols, spread over 2^L places by an odd step, make of it.
-/
import Derived.Laws.BitsLemmas
namespace Go.Proofs.YtabaholflahepaaDoor

/-- The step of the spread, and its inverse. -/
def stepOf (L : Nat) : Nat := 2 ^ L / 2 + 2 ^ L / 8 + 3
def invOf : Nat → Nat
  | 5 => 7
  | 6 => 3
  | 7 => 91
  | 8 => 11
  | _ => 363
/-- The place behind j steps. -/
def goTo (L j : Nat) : Nat := j * stepOf L % 2 ^ L
/-- How many steps lead to place x. -/
def back (L x : Nat) : Nat := x * invOf L % 2 ^ L

theorem pow_pos2 (L : Nat) : 0 < 2 ^ L := Nat.pow_pos (by decide)
theorem goTo_lt (L j : Nat) : goTo L j < 2 ^ L := Nat.mod_lt _ (pow_pos2 L)
theorem back_lt (L x : Nat) : back L x < 2 ^ L := Nat.mod_lt _ (pow_pos2 L)
theorem goTo_zero (L : Nat) : goTo L 0 = 0 := by simp [goTo]
theorem goTo_succ (L j : Nat) : (goTo L j + stepOf L) % 2 ^ L = goTo L (j + 1) := by
  unfold goTo
  rw [Nat.mod_add_mod, Nat.add_mul, Nat.one_mul]
theorem goTo_end (L : Nat) : goTo L (2 ^ L) = 0 := by simp [goTo]

theorem inv_all : ∀ L ∈ [5, 6, 7, 8, 9], stepOf L * invOf L % 2 ^ L = 1 := by decide
theorem inv_step {L : Nat} (h5 : 5 ≤ L) (h9 : L ≤ 9) : stepOf L * invOf L % 2 ^ L = 1 := inv_all L (by
  have : L = 5 ∨ L = 6 ∨ L = 7 ∨ L = 8 ∨ L = 9 := by omega
  rcases this with rfl | rfl | rfl | rfl | rfl <;> decide)

theorem back_goTo {L : Nat} (h5 : 5 ≤ L) (h9 : L ≤ 9) {j : Nat} (hj : j < 2 ^ L) : back L (goTo L j) = j := by
  unfold back goTo
  rw [Nat.mod_mul_mod, Nat.mul_assoc, Nat.mul_mod, inv_step h5 h9, Nat.mul_one, Nat.mod_mod, Nat.mod_eq_of_lt hj]
theorem goTo_back {L : Nat} (h5 : 5 ≤ L) (h9 : L ≤ 9) {x : Nat} (hx : x < 2 ^ L) : goTo L (back L x) = x := by
  unfold back goTo
  rw [Nat.mod_mul_mod, Nat.mul_assoc, Nat.mul_comm (invOf L), Nat.mul_mod, inv_step h5 h9, Nat.mul_one, Nat.mod_mod, Nat.mod_eq_of_lt hx]

/-- How many of the first j places lie below h. -/
def cnt (L h : Nat) : Nat → Nat
  | 0 => 0
  | j + 1 => cnt L h j + if goTo L j < h then 1 else 0

theorem cnt_mono (L h : Nat) {i j : Nat} (hij : i ≤ j) : cnt L h i ≤ cnt L h j := by
  induction j with
  | zero => obtain rfl : i = 0 := by omega
            exact Nat.le_refl _
  | succ j ih =>
    by_cases he : i = j + 1
    · subst he; exact Nat.le_refl _
    · have := ih (by omega)
      simp only [cnt]; omega

theorem cnt_low (L : Nat) : ∀ j, cnt L 0 j = 0
  | 0 => rfl
  | j + 1 => by simp [cnt, cnt_low L j]

/-- One place more below. -/
theorem cnt_up {L : Nat} (h5 : 5 ≤ L) (h9 : L ≤ 9) {h : Nat} (hh : h < 2 ^ L) : ∀ j, j ≤ 2 ^ L → cnt L (h + 1) j = cnt L h j + if back L h < j then 1 else 0
  | 0, _ => by simp [cnt]
  | j + 1, hj => by
    simp only [cnt, cnt_up h5 h9 hh j (by omega)]
    have hb : goTo L j = h ↔ back L h = j := by
      constructor
      · intro e; rw [← e]; exact back_goTo h5 h9 (by omega)
      · intro e; rw [← e]; exact goTo_back h5 h9 hh
    by_cases e : goTo L j = h
    · have := hb.1 e
      rw [if_pos (show goTo L j < h + 1 by omega), if_neg (show ¬ goTo L j < h by omega), if_neg (show ¬ back L h < j by omega), if_pos (show back L h < j + 1 by omega)]
    · have hne : back L h ≠ j := fun h' => e (hb.2 h')
      by_cases e2 : goTo L j < h
      · rw [if_pos (show goTo L j < h + 1 by omega), if_pos e2]
        by_cases e3 : back L h < j
        · rw [if_pos e3, if_pos (by omega)]
        · rw [if_neg e3, if_neg (by omega)]
      · rw [if_neg (show ¬ goTo L j < h + 1 by omega), if_neg e2]
        by_cases e3 : back L h < j
        · rw [if_pos e3, if_pos (by omega)]
        · rw [if_neg e3, if_neg (by omega)]

/-- All places below h. -/
theorem cnt_total {L : Nat} (h5 : 5 ≤ L) (h9 : L ≤ 9) : ∀ h, h ≤ 2 ^ L → cnt L h (2 ^ L) = h
  | 0, _ => cnt_low L _
  | h + 1, hh => by rw [cnt_up h5 h9 (by omega) _ (Nat.le_refl _), cnt_total h5 h9 h (by omega), if_pos (back_lt L h)]

theorem cnt_lt {L : Nat} (h5 : 5 ≤ L) (h9 : L ≤ 9) {h x : Nat} (hh : h ≤ 2 ^ L) (hx : x < h) : cnt L h (back L x) < h := by
  have h1 := cnt_mono L h (show back L x + 1 ≤ 2 ^ L from back_lt L x)
  rw [cnt_total h5 h9 h hh] at h1
  have h2 := goTo_back h5 h9 (show x < 2 ^ L by omega)
  simp only [cnt, h2, if_pos hx] at h1
  omega

/-- The symbols with a share above 0, each as often as its share; those with a share below 0. -/
def expand : Nat → List Int → List Nat
  | _, [] => []
  | s, p :: r => List.replicate p.toNat s ++ expand (s + 1) r
def lows : Nat → List Int → List Nat
  | _, [] => []
  | s, p :: r => (if p = -1 then [s] else []) ++ lows (s + 1) r

theorem expand_append : ∀ (l r : List Int) (s : Nat), expand s (l ++ r) = expand s l ++ expand (s + l.length) r
  | [], r, s => by simp [expand]
  | p :: l, r, s => by simp [expand, expand_append l r, Nat.add_comm, Nat.add_left_comm]
theorem lows_append : ∀ (l r : List Int) (s : Nat), lows s (l ++ r) = lows s l ++ lows (s + l.length) r
  | [], r, s => by simp [lows]
  | p :: l, r, s => by simp [lows, lows_append l r, Nat.add_comm, Nat.add_left_comm]

theorem expand_push {l : List Int} {k : Nat} {p : Int} (h : l[k]? = some p) : expand 0 (l.take (k + 1)) = expand 0 (l.take k) ++ List.replicate p.toNat k := by
  have hk := (List.getElem?_eq_some_iff.1 h).1
  rw [List.take_add_one, h, expand_append]
  simp [expand, Nat.min_eq_left (Nat.le_of_lt hk)]
theorem lows_push {l : List Int} {k : Nat} {p : Int} (h : l[k]? = some p) : lows 0 (l.take (k + 1)) = lows 0 (l.take k) ++ if p = -1 then [k] else [] := by
  have hk := (List.getElem?_eq_some_iff.1 h).1
  rw [List.take_add_one, h, lows_append]
  simp [lows, Nat.min_eq_left (Nat.le_of_lt hk)]

theorem expand_mem : ∀ (l : List Int) (s x : Nat), x ∈ expand s l → s ≤ x ∧ x < s + l.length ∧ 0 < l.getD (x - s) 0
  | [], s, x, h => by simp [expand] at h
  | p :: l, s, x, h => by
    simp only [expand, List.mem_append, List.mem_replicate] at h
    rcases h with ⟨h1, rfl⟩ | h
    · refine ⟨Nat.le_refl _, by simp, ?_⟩
      simp; omega
    · have := expand_mem l (s + 1) x h
      refine ⟨by omega, by simp; omega, ?_⟩
      obtain ⟨d, hd⟩ : ∃ d, x - s = d + 1 := ⟨x - s - 1, by omega⟩
      rw [hd, List.getD_cons_succ]
      rw [show x - (s + 1) = d by omega] at this
      exact this.2.2
theorem lows_mem : ∀ (l : List Int) (s x : Nat), x ∈ lows s l → s ≤ x ∧ x < s + l.length ∧ l.getD (x - s) 0 = -1
  | [], s, x, h => by simp [lows] at h
  | p :: l, s, x, h => by
    simp only [lows, List.mem_append] at h
    rcases h with h | h
    · split at h
      · rename_i hp
        simp only [List.mem_singleton] at h
        subst h
        exact ⟨Nat.le_refl _, by simp, by simpa using hp⟩
      · simp at h
    · have := lows_mem l (s + 1) x h
      refine ⟨by omega, by simp; omega, ?_⟩
      obtain ⟨d, hd⟩ : ∃ d, x - s = d + 1 := ⟨x - s - 1, by omega⟩
      rw [hd, List.getD_cons_succ]
      rw [show x - (s + 1) = d by omega] at this
      exact this.2.2
theorem lows_nodup : ∀ (l : List Int) (s : Nat), (lows s l).Nodup
  | [], s => by simp [lows]
  | p :: l, s => by
    simp only [lows]
    split
    · simp only [List.cons_append, List.nil_append, List.nodup_cons]
      refine ⟨fun h => ?_, lows_nodup l (s + 1)⟩
      have := lows_mem l (s + 1) s h
      omega
    · simpa using lows_nodup l (s + 1)
theorem count_expand : ∀ (l : List Int) (s x : Nat), s ≤ x → (expand s l).count x = (l.getD (x - s) 0).toNat
  | [], s, x, _ => by simp [expand]
  | p :: l, s, x, h => by
    simp only [expand, List.count_append, List.count_replicate]
    by_cases e : s = x
    · subst e
      have : (expand (s + 1) l).count s = 0 := List.count_eq_zero.2 fun hm => by have := expand_mem l (s + 1) s hm; omega
      simp [this]
    · obtain ⟨d, hd⟩ : ∃ d, x - s = d + 1 := ⟨x - s - 1, by omega⟩
      rw [count_expand l (s + 1) x (by omega), hd, List.getD_cons_succ, show x - (s + 1) = d by omega]
      simp [e]

/-- Shares that add up to 2^L. -/
structure IsShares (L : Nat) (ps : List Int) : Prop where
  five : 5 ≤ L
  nine : L ≤ 9
  least : ∀ p ∈ ps, -1 ≤ p
  sum : (expand 0 ps).length + (lows 0 ps).length = 2 ^ L

/-- The places that are spread over. -/
def highOf (ps : List Int) : Nat := (expand 0 ps).length
/-- The symbol at place x. -/
def symAt (L : Nat) (ps : List Int) (x : Nat) : Nat := if x < highOf ps then (expand 0 ps).getD (cnt L (highOf ps) (back L x)) 0 else (lows 0 ps).getD (2 ^ L - 1 - x) 0
def syms (L : Nat) (ps : List Int) : List Nat := (List.range (2 ^ L)).map (symAt L ps)
/-- What place i's state is reckoned from. -/
def numAt (L : Nat) (ps : List Int) (i : Nat) : Nat := if i < highOf ps then (ps.getD (symAt L ps i) 0).toNat + ((syms L ps).take i).count (symAt L ps i) else 1
/-- A state: symbol, bits, base. -/
def cellAt (L : Nat) (ps : List Int) (i : Nat) : Nat × Nat × Nat := (symAt L ps i, L - Nat.log2 (numAt L ps i), numAt L ps i * 2 ^ (L - Nat.log2 (numAt L ps i)) - 2 ^ L)
def tab (L : Nat) (ps : List Int) : List (Nat × Nat × Nat) := (List.range (2 ^ L)).map (cellAt L ps)

section
variable {L : Nat} {ps : List Int}
theorem tab_length : (tab L ps).length = 2 ^ L := by simp [tab]
theorem syms_length : (syms L ps).length = 2 ^ L := by simp [syms]
theorem high_le (h : IsShares L ps) : highOf ps ≤ 2 ^ L := by have := h.sum; unfold highOf; omega
theorem sym_low (h : IsShares L ps) {x : Nat} (hx : x < highOf ps) : symAt L ps x ∈ expand 0 ps := by
  have h1 := cnt_lt h.five h.nine (high_le h) hx
  rw [symAt, if_pos hx, List.getD_eq_getElem?_getD, List.getElem?_eq_getElem h1]
  exact List.getElem_mem h1
theorem sym_high (h : IsShares L ps) {x : Nat} (hx : highOf ps ≤ x) (hx2 : x < 2 ^ L) : symAt L ps x ∈ lows 0 ps := by
  have hs := h.sum
  have h1 : 2 ^ L - 1 - x < (lows 0 ps).length := by unfold highOf at hx; omega
  rw [symAt, if_neg (by omega), List.getD_eq_getElem?_getD, List.getElem?_eq_getElem h1]
  exact List.getElem_mem h1
theorem sym_lt (h : IsShares L ps) {x : Nat} (hx : x < 2 ^ L) : symAt L ps x < ps.length := by
  by_cases hh : x < highOf ps
  · have := expand_mem ps 0 _ (sym_low h hh); omega
  · have := lows_mem ps 0 _ (sym_high h (by omega) hx); omega
theorem share_pos (h : IsShares L ps) {x : Nat} (hx : x < highOf ps) : 0 < ps.getD (symAt L ps x) 0 := by
  have := (expand_mem ps 0 _ (sym_low h hx)).2.2
  rwa [Nat.sub_zero] at this
theorem share_neg (h : IsShares L ps) {x : Nat} (hx : highOf ps ≤ x) (hx2 : x < 2 ^ L) : ps.getD (symAt L ps x) 0 = -1 := by
  have := (lows_mem ps 0 _ (sym_high h hx hx2)).2.2
  rwa [Nat.sub_zero] at this
theorem syms_at {i : Nat} (hi : i < 2 ^ L) : (syms L ps)[i]? = some (symAt L ps i) := by simp [syms, hi]
theorem syms_push {i : Nat} (hi : i < 2 ^ L) : (syms L ps).take (i + 1) = (syms L ps).take i ++ [symAt L ps i] := by
  rw [List.take_add_one, syms_at hi]; rfl

/-- The next step's place below, from j on. -/
theorem jump_from (L h : Nat) (hh : 0 < h) : ∀ d j, j + d = 2 ^ L → ∃ k, j ≤ k ∧ k ≤ 2 ^ L ∧ goTo L k < h ∧ cnt L h k = cnt L h j ∧ ∀ i, j ≤ i → i < k → ¬ goTo L i < h
  | 0, j, hd => ⟨j, Nat.le_refl _, by omega, by rw [show j = 2 ^ L by omega, goTo_end]; exact hh, rfl, fun i h1 h2 => by omega⟩
  | d + 1, j, hd => by
    by_cases hg : goTo L j < h
    · exact ⟨j, Nat.le_refl _, by omega, hg, rfl, fun i h1 h2 => by omega⟩
    · obtain ⟨k, h1, h2, h3, h4, h5⟩ := jump_from L h hh d (j + 1) (by omega)
      refine ⟨k, by omega, h2, h3, ?_, fun i hi hk => ?_⟩
      · rw [h4, cnt, if_neg hg]; omega
      · by_cases e : i = j
        · subst e; exact hg
        · exact h5 i (by omega) hk

/-- The spread behind t symbols: the steps that were made, and the table. -/
structure Spread (L : Nat) (ps : List Int) (base : List (Nat × Nat × Nat)) (t j : Nat) (cs : List (Nat × Nat × Nat)) : Prop where
  len : cs.length = 2 ^ L
  steps : j ≤ 2 ^ L
  at_low : 0 < highOf ps → goTo L j < highOf ps
  done : cnt L (highOf ps) j = t
  none : t = 0 → j = 0
  cell : ∀ x, x < 2 ^ L → cs[x]? = if x < highOf ps ∧ back L x < j then some (symAt L ps x, (base.getD x (0, 0, 0)).2) else base[x]?

theorem Spread.start {base : List (Nat × Nat × Nat)} (hb : base.length = 2 ^ L) : Spread L ps base 0 0 base :=
  ⟨hb, by omega, fun h0 => by rw [goTo_zero]; exact h0, rfl, fun _ => rfl, fun x _ => by rw [if_neg (by omega)]⟩

/-- One symbol more is set. -/
theorem Spread.next (h : IsShares L ps) {base cs : List (Nat × Nat × Nat)} {t j k s : Nat} (hs : Spread L ps base t j cs) (ht : (expand 0 ps)[t]? = some s)
    (hk1 : j + 1 ≤ k) (hk2 : k ≤ 2 ^ L) (hk3 : goTo L k < highOf ps) (hk4 : cnt L (highOf ps) k = cnt L (highOf ps) (j + 1)) (hk5 : ∀ i, j + 1 ≤ i → i < k → ¬ goTo L i < highOf ps) :
    Spread L ps base (t + 1) k (cs.set (goTo L j) (s, (base.getD (goTo L j) (0, 0, 0)).2)) := by
  have h0 : 0 < highOf ps := by
    have := (List.getElem?_eq_some_iff.1 ht).1
    unfold highOf; omega
  have hj := hs.at_low h0
  refine ⟨by rw [List.length_set, hs.len], hk2, fun _ => hk3, by rw [hk4, cnt, if_pos hj, hs.done], fun h => by omega, fun x hx => ?_⟩
  rw [List.getElem?_set]
  have hbj : back L (goTo L j) = j := back_goTo h.five h.nine (by omega)
  by_cases e : goTo L j = x
  · subst e
    rw [if_pos rfl, if_pos (by rw [hs.len]; exact goTo_lt L j), if_pos ⟨hj, by omega⟩]
    have : symAt L ps (goTo L j) = s := by
      rw [symAt, if_pos hj, hbj, hs.done, List.getD_eq_getElem?_getD, ht]; rfl
    rw [this]
  · rw [if_neg e, hs.cell x hx]
    by_cases hxh : x < highOf ps
    · have hgx := goTo_back h.five h.nine hx
      have hne : back L x ≠ j := fun h' => e (by rw [← h', hgx])
      by_cases hbx : back L x < j
      · rw [if_pos ⟨hxh, hbx⟩, if_pos ⟨hxh, by omega⟩]
      · rw [if_neg (by omega)]
        have : ¬ back L x < k := fun hlt => hk5 (back L x) (by omega) hlt (by rw [hgx]; exact hxh)
        rw [if_neg (by omega)]
    · rw [if_neg (by omega), if_neg (by omega)]

/-- Behind all symbols the place is the first one again, and every place below has its symbol. -/
theorem Spread.all (h : IsShares L ps) {base cs : List (Nat × Nat × Nat)} {j : Nat} (hs : Spread L ps base (highOf ps) j cs) : goTo L j = 0 ∧ ∀ x, x < highOf ps → cs[x]? = some (symAt L ps x, (base.getD x (0, 0, 0)).2) := by
  have ht := cnt_total h.five h.nine _ (high_le h)
  have hj : j = 2 ^ L ∨ highOf ps = 0 := by
    by_cases h0 : highOf ps = 0
    · exact .inr h0
    · left
      refine Classical.byContradiction fun hne => ?_
      have h1 := hs.at_low (by omega)
      have h2 := cnt_mono L (highOf ps) (show j + 1 ≤ 2 ^ L by have := hs.steps; omega)
      simp only [cnt, if_pos h1, hs.done, ht] at h2
      omega
  rcases hj with rfl | h0
  · refine ⟨goTo_end L, fun x hx => ?_⟩
    rw [hs.cell x (by have := high_le h; omega), if_pos ⟨hx, back_lt L x⟩]
  · refine ⟨?_, fun x hx => by omega⟩
    rw [hs.none h0, goTo_zero]

/-- The numbers that states are reckoned from. -/
theorem numAt_pos (h : IsShares L ps) (i : Nat) : 0 < numAt L ps i := by
  unfold numAt
  split
  · rename_i hi
    have := share_pos h hi
    omega
  · omega
theorem share_le (ps : List Int) (s : Nat) : (ps.getD s 0).toNat ≤ highOf ps := by
  have := count_expand ps 0 s (Nat.zero_le _)
  rw [Nat.sub_zero] at this
  rw [← this]
  exact List.count_le_length
theorem numAt_lt (h : IsShares L ps) {i : Nat} (hi : i < 2 ^ L) : numAt L ps i < 2 ^ (L + 1) := by
  have hp := high_le h
  unfold numAt
  split
  · rename_i hl
    have h1 := share_le ps (symAt L ps i)
    have h2 : ((syms L ps).take i).count (symAt L ps i) ≤ i := Nat.le_trans List.count_le_length (by rw [List.length_take]; exact Nat.min_le_left ..)
    rw [Nat.pow_succ]; omega
  · have := Nat.pow_le_pow_right (n := 2) (by decide) (show 1 ≤ L + 1 by omega)
    omega

/-- The table with the first m symbols of a share below 0, from the end on. -/
def baseList (L : Nat) (ps : List Int) (m : Nat) : List (Nat × Nat × Nat) := (List.range (2 ^ L)).map fun x => if 2 ^ L - m ≤ x then ((lows 0 ps).getD (2 ^ L - 1 - x) 0, L, 0) else (0, 0, 0)
theorem baseList_length (m : Nat) : (baseList L ps m).length = 2 ^ L := by simp [baseList]
theorem baseList_at (m : Nat) {x : Nat} (hx : x < 2 ^ L) : (baseList L ps m)[x]? = some (if 2 ^ L - m ≤ x then ((lows 0 ps).getD (2 ^ L - 1 - x) 0, L, 0) else (0, 0, 0)) := by
  simp [baseList, hx]
theorem baseList_zero : baseList L ps 0 = List.replicate (2 ^ L) (0, 0, 0) := by
  apply List.ext_getElem?
  intro x
  by_cases hx : x < 2 ^ L
  · rw [baseList_at 0 hx, if_neg (by omega)]; simp [hx]
  · rw [List.getElem?_eq_none (by rw [baseList_length]; omega), List.getElem?_eq_none (by simp; omega)]
theorem baseList_push {m s : Nat} (hm : m < 2 ^ L) (hs : (lows 0 ps)[m]? = some s) : (baseList L ps m).set (2 ^ L - m - 1) (s, L, 0) = baseList L ps (m + 1) := by
  apply List.ext_getElem?
  intro x
  by_cases hx : x < 2 ^ L
  · rw [List.getElem?_set, baseList_length, baseList_at m hx, baseList_at (m + 1) hx]
    by_cases e : 2 ^ L - m - 1 = x
    · rw [if_pos e, if_pos (by omega), if_pos (by omega), show 2 ^ L - 1 - x = m by omega, List.getD_eq_getElem?_getD, hs]; rfl
    · rw [if_neg e]
      by_cases e2 : 2 ^ L - m ≤ x
      · rw [if_pos e2, if_pos (by omega)]
      · rw [if_neg e2, if_neg (by omega)]
  · rw [List.getElem?_eq_none (by rw [List.length_set, baseList_length]; omega), List.getElem?_eq_none (by rw [baseList_length]; omega)]

/-- How often each symbol has had a state yet, on top of its share. -/
def nextList (L : Nat) (ps : List Int) (i : Nat) : List Int := (List.range ps.length).map fun s => ps.getD s 0 + (((syms L ps).take i).count s : Nat)
theorem nextList_length (i : Nat) : (nextList L ps i).length = ps.length := by simp [nextList]
theorem nextList_at (i : Nat) {s : Nat} (hs : s < ps.length) : (nextList L ps i)[s]? = some (ps.getD s 0 + (((syms L ps).take i).count s : Nat)) := by simp [nextList, hs]
theorem nextList_zero : nextList L ps 0 = ps := by
  apply List.ext_getElem?
  intro s
  by_cases hs : s < ps.length
  · rw [nextList_at 0 hs, List.getD_eq_getElem?_getD, List.getElem?_eq_getElem hs]; simp
  · rw [List.getElem?_eq_none (by rw [nextList_length]; omega), List.getElem?_eq_none (by omega)]
theorem nextList_num (h : IsShares L ps) {i : Nat} (hi : i < highOf ps) : (nextList L ps i)[symAt L ps i]? = some (numAt L ps i : Int) := by
  have h2 := high_le h
  rw [nextList_at i (sym_lt h (by omega)), numAt, if_pos hi]
  have := share_pos h hi
  congr 1
  omega
theorem nextList_push (h : IsShares L ps) {i : Nat} (hi : i < highOf ps) : (nextList L ps i).set (symAt L ps i) ((numAt L ps i : Int) + 1) = nextList L ps (i + 1) := by
  have h2 := high_le h
  have hnum := nextList_num h hi
  have hlt := sym_lt h (show i < 2 ^ L by omega)
  apply List.ext_getElem?
  intro s
  by_cases hs : s < ps.length
  · rw [List.getElem?_set, nextList_length, nextList_at (i + 1) hs, syms_push (by omega), List.count_append]
    by_cases e : symAt L ps i = s
    · rw [if_pos e, if_pos hlt]
      rw [nextList_at i hlt] at hnum
      subst e
      simp only [Option.some.injEq] at hnum ⊢
      rw [← hnum]
      simp
      omega
    · rw [if_neg e, nextList_at i hs]
      simp [e]
  · rw [List.getElem?_eq_none (by rw [List.length_set, nextList_length]; omega), List.getElem?_eq_none (by rw [nextList_length]; omega)]

/-- The table whose first i states are reckoned. -/
def stage (L : Nat) (ps : List Int) (i : Nat) : List (Nat × Nat × Nat) := (List.range (2 ^ L)).map fun x => if i ≤ x ∧ x < highOf ps then (symAt L ps x, 0, 0) else cellAt L ps x
theorem stage_length (i : Nat) : (stage L ps i).length = 2 ^ L := by simp [stage]
theorem stage_at (i : Nat) {x : Nat} (hx : x < 2 ^ L) : (stage L ps i)[x]? = some (if i ≤ x ∧ x < highOf ps then (symAt L ps x, 0, 0) else cellAt L ps x) := by simp [stage, hx]
theorem stage_all : stage L ps (highOf ps) = tab L ps := by
  unfold stage tab
  refine List.map_congr_left fun x _ => ?_
  rw [if_neg (by omega)]
theorem stage_push {i : Nat} (c : Nat × Nat × Nat) (hc : c = cellAt L ps i) : (stage L ps i).set i c = stage L ps (i + 1) := by
  apply List.ext_getElem?
  intro x
  by_cases hx : x < 2 ^ L
  · rw [List.getElem?_set, stage_length, stage_at i hx, stage_at (i + 1) hx]
    by_cases e : i = x
    · subst e
      rw [if_pos rfl, if_pos hx, if_neg (by omega), hc]
    · rw [if_neg e]
      by_cases e2 : i ≤ x ∧ x < highOf ps
      · rw [if_pos e2, if_pos (by omega)]
      · rw [if_neg e2, if_neg (by omega)]
  · rw [List.getElem?_eq_none (by rw [List.length_set, stage_length]; omega), List.getElem?_eq_none (by rw [stage_length]; omega)]
theorem cell_high {x : Nat} (hx : highOf ps ≤ x) : cellAt L ps x = (symAt L ps x, L, 0) := by
  have hn : numAt L ps x = 1 := by rw [numAt, if_neg (by omega)]
  rw [cellAt, hn, show Nat.log2 1 = 0 by decide]
  simp
theorem Spread.stage (h : IsShares L ps) {cs : List (Nat × Nat × Nat)} {j : Nat} (hs : Spread L ps (baseList L ps (lows 0 ps).length) (highOf ps) j cs) : cs = stage L ps 0 := by
  have hsum := h.sum
  have ha := (hs.all h).2
  apply List.ext_getElem?
  intro x
  by_cases hx : x < 2 ^ L
  · rw [stage_at 0 hx]
    by_cases hh : x < highOf ps
    · rw [ha x hh, if_pos ⟨Nat.zero_le _, hh⟩, List.getD_eq_getElem?_getD, baseList_at _ hx, if_neg (by unfold highOf at hh; omega)]
      rfl
    · rw [hs.cell x hx, if_neg (by omega), if_neg (by omega), baseList_at _ hx, if_pos (by unfold highOf at hh; omega), cell_high (by omega), symAt, if_neg hh]
  · rw [List.getElem?_eq_none (by rw [hs.len]; omega), List.getElem?_eq_none (by rw [stage_length]; omega)]

/-- How far a number is shifted to reach 2^L. -/
theorem shift_lt {L n b : Nat} (hn : 0 < n) (hL : Nat.log2 n ≤ L) : n * 2 ^ b < 2 ^ L ↔ b < L - Nat.log2 n := by
  have h1 : 2 ^ Nat.log2 n ≤ n := Nat.log2_self_le (by omega)
  have h2 : n < 2 ^ (Nat.log2 n + 1) := Nat.lt_log2_self
  constructor
  · intro h
    refine Classical.byContradiction fun hb => ?_
    have h3 : 2 ^ L ≤ 2 ^ (Nat.log2 n + b) := Nat.pow_le_pow_right (by decide) (by omega)
    rw [Nat.pow_add] at h3
    have := Nat.mul_le_mul_right (2 ^ b) h1
    omega
  · intro h
    have h3 : 2 ^ (Nat.log2 n + 1 + b) ≤ 2 ^ L := Nat.pow_le_pow_right (by decide) (by omega)
    rw [Nat.pow_add] at h3
    have := Nat.mul_lt_mul_of_pos_right h2 (Nat.pow_pos (n := b) (show 0 < 2 by decide))
    omega
theorem log_num (h : IsShares L ps) {i : Nat} (hi : i < 2 ^ L) : Nat.log2 (numAt L ps i) ≤ L := by
  have h1 := numAt_lt h hi
  have h0 := numAt_pos h i
  have := (Nat.log2_lt (n := numAt L ps i) (k := L + 1) (by omega)).2 h1
  omega
end
end Go.Proofs.YtabaholflahepaaDoor
