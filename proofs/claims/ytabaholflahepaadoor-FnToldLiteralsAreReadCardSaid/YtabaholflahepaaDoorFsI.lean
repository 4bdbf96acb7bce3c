/-
  Plain law: the steps of buildFSE as lists: the low symbols' places, the spread, the states one by one.
-/
import Derived.Test.YtabaholflahepaaDoorSta
namespace Go.Proofs.YtabaholflahepaaDoor

section
variable {L : Nat} {ps : List Int}

/-- The table with the first m symbols of a share below 0, from the end on; what else stood there stands as it stood. -/
def lowTab (L : Nat) (ps : List Int) (cs : List (Nat × Nat × Nat)) (m : Nat) : List (Nat × Nat × Nat) :=
  (List.range (2 ^ L)).map fun x => if 2 ^ L - m ≤ x then ((lows 0 ps).getD (2 ^ L - 1 - x) 0, (cs.getD x (0, 0, 0)).2) else cs.getD x (0, 0, 0)
theorem lowTab_length {cs : List (Nat × Nat × Nat)} (m : Nat) : (lowTab L ps cs m).length = 2 ^ L := by simp [lowTab]
theorem lowTab_at {cs : List (Nat × Nat × Nat)} (m : Nat) {x : Nat} (hx : x < 2 ^ L) :
    (lowTab L ps cs m)[x]? = some (if 2 ^ L - m ≤ x then ((lows 0 ps).getD (2 ^ L - 1 - x) 0, (cs.getD x (0, 0, 0)).2) else cs.getD x (0, 0, 0)) := by simp [lowTab, hx]
theorem lowTab_zero {cs : List (Nat × Nat × Nat)} (hc : cs.length = 2 ^ L) : lowTab L ps cs 0 = cs := by
  apply List.ext_getElem?
  intro x
  by_cases hx : x < 2 ^ L
  · rw [lowTab_at 0 hx, if_neg (by omega), List.getD_eq_getElem?_getD, List.getElem?_eq_getElem (by omega)]; rfl
  · rw [List.getElem?_eq_none (by rw [lowTab_length]; omega), List.getElem?_eq_none (by omega)]
theorem lowTab_push {cs : List (Nat × Nat × Nat)} {m s : Nat} (hm : m < 2 ^ L) (hs : (lows 0 ps)[m]? = some s) :
    (lowTab L ps cs m).set (2 ^ L - m - 1) (s, (cs.getD (2 ^ L - m - 1) (0, 0, 0)).2) = lowTab L ps cs (m + 1) := by
  apply List.ext_getElem?
  intro x
  by_cases hx : x < 2 ^ L
  · rw [List.getElem?_set, lowTab_length, lowTab_at m hx, lowTab_at (m + 1) hx]
    by_cases e : 2 ^ L - m - 1 = x
    · subst e
      rw [if_pos rfl, if_pos hx, if_pos (by omega), show 2 ^ L - 1 - (2 ^ L - m - 1) = m by omega, show (lows 0 ps).getD m 0 = s by rw [List.getD_eq_getElem?_getD, hs]; rfl]
    · rw [if_neg e]
      by_cases e2 : 2 ^ L - m ≤ x
      · rw [if_pos e2, if_pos (by omega)]
      · rw [if_neg e2, if_neg (by omega)]
  · rw [List.getElem?_eq_none (by rw [List.length_set, lowTab_length]; omega), List.getElem?_eq_none (by rw [lowTab_length]; omega)]
theorem lowTab_old {cs : List (Nat × Nat × Nat)} {m : Nat} {x : Nat} (hx : x < 2 ^ L - m) : (lowTab L ps cs m)[x]? = some (cs.getD x (0, 0, 0)) := by
  rw [lowTab_at m (by omega), if_neg (by omega)]

/-- The table whose first i states are reckoned: each other place has its symbol. -/
def part (L : Nat) (ps : List Int) (cs : List (Nat × Nat × Nat)) (i : Nat) : List (Nat × Nat × Nat) :=
  (List.range (2 ^ L)).map fun x => if x < i then cellAt L ps x else (symAt L ps x, (cs.getD x (0, 0, 0)).2)
theorem part_length {cs : List (Nat × Nat × Nat)} (i : Nat) : (part L ps cs i).length = 2 ^ L := by simp [part]
theorem part_at {cs : List (Nat × Nat × Nat)} (i : Nat) {x : Nat} (hx : x < 2 ^ L) : (part L ps cs i)[x]? = some (if x < i then cellAt L ps x else (symAt L ps x, (cs.getD x (0, 0, 0)).2)) := by
  simp [part, hx]
theorem part_all {cs : List (Nat × Nat × Nat)} : part L ps cs (2 ^ L) = tab L ps := by
  unfold part tab
  refine List.map_congr_left fun x hx => ?_
  rw [if_pos (List.mem_range.1 hx)]
theorem part_push {cs : List (Nat × Nat × Nat)} {i : Nat} (c : Nat × Nat × Nat) (hc : c = cellAt L ps i) : (part L ps cs i).set i c = part L ps cs (i + 1) := by
  apply List.ext_getElem?
  intro x
  by_cases hx : x < 2 ^ L
  · rw [List.getElem?_set, part_length, part_at i hx, part_at (i + 1) hx]
    by_cases e : i = x
    · subst e
      rw [if_pos rfl, if_pos hx, if_pos (by omega), hc]
    · rw [if_neg e]
      by_cases e2 : x < i
      · rw [if_pos e2, if_pos (by omega)]
      · rw [if_neg e2, if_neg (by omega)]
  · rw [List.getElem?_eq_none (by rw [List.length_set, part_length]; omega), List.getElem?_eq_none (by rw [part_length]; omega)]
theorem Spread.part (h : IsShares L ps) {os cs : List (Nat × Nat × Nat)} {j : Nat} (hs : Spread L ps (lowTab L ps os (lows 0 ps).length) (highOf ps) j cs) : cs = part L ps os 0 := by
  have hsum := h.sum
  have ha := (hs.all h).2
  apply List.ext_getElem?
  intro x
  by_cases hx : x < 2 ^ L
  · rw [part_at 0 hx, if_neg (by omega)]
    by_cases hh : x < highOf ps
    · rw [ha x hh, List.getD_eq_getElem?_getD, lowTab_at _ hx, if_neg (by unfold highOf at hh; omega)]
      rfl
    · rw [hs.cell x hx, if_neg (by omega), lowTab_at _ hx, if_pos (by unfold highOf at hh; omega), symAt, if_neg hh]
  · rw [List.getElem?_eq_none (by rw [hs.len]; omega), List.getElem?_eq_none (by rw [part_length]; omega)]

/-- The numbers that next is laid with, for the first k symbols; behind i states. -/
def nextStart (ps : List Int) (k : Nat) : List Nat := (List.range 256).map fun s => if s < k then (ps.getD s 0).natAbs else 0
def nextNow (L : Nat) (ps : List Int) (i : Nat) : List Nat := (List.range 256).map fun s => (ps.getD s 0).natAbs + ((syms L ps).take i).count s
theorem nextStart_length (k : Nat) : (nextStart ps k).length = 256 := by simp [nextStart]
theorem nextNow_length (i : Nat) : (nextNow L ps i).length = 256 := by simp [nextNow]
theorem nextStart_zero : nextStart ps 0 = List.replicate 256 0 := by
  apply List.ext_getElem?
  intro x
  by_cases hx : x < 256
  · rw [List.getElem?_replicate, if_pos hx, nextStart, List.getElem?_map, List.getElem?_range hx]; rfl
  · rw [List.getElem?_eq_none (by rw [nextStart, List.length_map, List.length_range]; omega), List.getElem?_eq_none (by rw [List.length_replicate]; omega)]
theorem nextStart_at (k : Nat) {s : Nat} (hs : s < 256) : (nextStart ps k)[s]? = some (if s < k then (ps.getD s 0).natAbs else 0) := by simp [nextStart, hs]
theorem nextNow_at (i : Nat) {s : Nat} (hs : s < 256) : (nextNow L ps i)[s]? = some ((ps.getD s 0).natAbs + ((syms L ps).take i).count s) := by simp [nextNow, hs]
theorem nextStart_push {k : Nat} {p : Int} (hp : ps[k]? = some p) : (nextStart ps k).set k p.natAbs = nextStart ps (k + 1) := by
  apply List.ext_getElem?
  intro s
  by_cases hs : s < 256
  · rw [List.getElem?_set, nextStart_at k hs, nextStart_at (k + 1) hs, nextStart_length]
    by_cases e : k = s
    · subst e
      rw [if_pos rfl, if_pos hs, if_pos (by omega), List.getD_eq_getElem?_getD, hp]; rfl
    · rw [if_neg e]
      by_cases e2 : s < k
      · rw [if_pos e2, if_pos (by omega)]
      · rw [if_neg e2, if_neg (by omega)]
  · rw [List.getElem?_eq_none (by rw [List.length_set, nextStart_length]; omega), List.getElem?_eq_none (by rw [nextStart_length]; omega)]
theorem nextStart_all : nextStart ps ps.length = nextNow L ps 0 := by
  unfold nextStart nextNow
  refine List.map_congr_left fun s _ => ?_
  by_cases h : s < ps.length
  · simp [h]
  · rw [if_neg h, List.getD_eq_getElem?_getD, List.getElem?_eq_none (by omega)]; simp
theorem nextNow_num (h : IsShares L ps) (hl : ps.length ≤ 256) {i : Nat} (hi : i < 2 ^ L) : (nextNow L ps i)[symAt L ps i]? = some (numAt L ps i) := by
  rw [nextNow_at i (Nat.lt_of_lt_of_le (sym_lt h hi) hl), numAt_eq h hi]
theorem nextNow_push (h : IsShares L ps) {i : Nat} (hi : i < 2 ^ L) : (nextNow L ps i).set (symAt L ps i) (numAt L ps i + 1) = nextNow L ps (i + 1) := by
  have hlt := sym_lt h hi
  apply List.ext_getElem?
  intro s
  by_cases hs : s < 256
  · rw [List.getElem?_set, nextNow_length, nextNow_at (i + 1) hs, syms_push hi, List.count_append]
    by_cases e : symAt L ps i = s
    · subst e
      rw [if_pos rfl, if_pos hs, numAt_eq h hi]
      simp
      omega
    · rw [if_neg e, nextNow_at i hs]
      simp [e]
  · rw [List.getElem?_eq_none (by rw [List.length_set, nextNow_length]; omega), List.getElem?_eq_none (by rw [nextNow_length]; omega)]
end
end Go.Proofs.YtabaholflahepaaDoor
