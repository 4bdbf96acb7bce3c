/-
  Plain law: XXH64 of a list of bytes: stripes of 32 bytes, what is left of them, the end.
-/
import Derived.Test.YtabaholflahepaaSumWord
namespace Go.Proofs.Ytabaholflahepaa

/-- Lane i of a stripe. -/
def lane (l : List Nat) (i : Nat) : Nat := num ((l.drop (8 * i)).take 8)
/-- Accumulators, of which the first i have taken their lanes. -/
def partOf (v l : List Nat) (i : Nat) : List Nat := (List.range 4).map fun j => if j < i then rnd (v.getD j 0) (lane l j) else v.getD j 0
def stripe (v l : List Nat) : List Nat := partOf v l 4
def stripes : Nat → List Nat → List Nat → List Nat
  | 0, v, _ => v
  | n + 1, v, l => stripes n (stripe v l) (l.drop 32)
/-- Behind all stripes of a text. -/
def accOf (v l : List Nat) : List Nat := stripes (l.length / 32) v l
/-- What is left behind them. -/
def restOf (l : List Nat) : List Nat := l.drop (32 * (l.length / 32))
def acc0 : List Nat := [6983438078262162902, 14029467366897019727, 0, 7046029288634856825]

theorem partOf_length (v l : List Nat) (i : Nat) : (partOf v l i).length = 4 := by simp [partOf]
theorem partOf_at (v l : List Nat) (i : Nat) {j : Nat} (hj : j < 4) : (partOf v l i)[j]? = some (if j < i then rnd (v.getD j 0) (lane l j) else v.getD j 0) := by simp [partOf, hj]
theorem partOf_zero {v l : List Nat} (hv : v.length = 4) : partOf v l 0 = v := by
  apply List.ext_getElem?
  intro j
  by_cases hj : j < 4
  · rw [partOf_at _ _ _ hj, if_neg (by omega), List.getD_eq_getElem?_getD, List.getElem?_eq_getElem (by omega)]; rfl
  · rw [List.getElem?_eq_none (by rw [partOf_length]; omega), List.getElem?_eq_none (by omega)]
theorem partOf_push (v l : List Nat) {i : Nat} : (partOf v l i).set i (rnd (v.getD i 0) (lane l i)) = partOf v l (i + 1) := by
  apply List.ext_getElem?
  intro j
  by_cases hj : j < 4
  · rw [List.getElem?_set, partOf_length, partOf_at _ _ _ hj, partOf_at _ _ _ hj]
    by_cases e : i = j
    · subst e
      rw [if_pos rfl, if_pos hj, if_pos (by omega)]
    · rw [if_neg e]
      by_cases e2 : j < i
      · rw [if_pos e2, if_pos (by omega)]
      · rw [if_neg e2, if_neg (by omega)]
  · rw [List.getElem?_eq_none (by rw [List.length_set, partOf_length]; omega), List.getElem?_eq_none (by rw [partOf_length]; omega)]
theorem stripe_length (v l : List Nat) : (stripe v l).length = 4 := partOf_length v l 4
theorem accOf_step {v l : List Nat} (h : 32 ≤ l.length) : accOf v l = accOf (stripe v l) (l.drop 32) := by
  obtain ⟨n, hn⟩ : ∃ n, l.length / 32 = n + 1 := ⟨l.length / 32 - 1, by omega⟩
  unfold accOf
  rw [hn, List.length_drop, show (l.length - 32) / 32 = n by omega]
  rfl
theorem accOf_short {v l : List Nat} (h : l.length < 32) : accOf v l = v := by
  unfold accOf
  rw [show l.length / 32 = 0 by omega]
  rfl
theorem restOf_step {l : List Nat} (h : 32 ≤ l.length) : restOf l = restOf (l.drop 32) := by
  unfold restOf
  rw [List.drop_drop, List.length_drop]
  congr 1
  omega
theorem restOf_short {l : List Nat} (h : l.length < 32) : restOf l = l := by
  unfold restOf
  rw [show l.length / 32 = 0 by omega]
  rfl
theorem restOf_length (l : List Nat) : (restOf l).length = l.length % 32 := by
  unfold restOf
  rw [List.length_drop]
  omega

/-- The accumulators as one. -/
def conv (v : List Nat) : Nat := add64 (add64 (add64 (rot (v.getD 0 0) 1) (rot (v.getD 1 0) 7)) (rot (v.getD 2 0) 12)) (rot (v.getD 3 0) 18)
def merged (v : List Nat) : Nat := mrg (mrg (mrg (mrg (conv v) (v.getD 0 0)) (v.getD 1 0)) (v.getD 2 0)) (v.getD 3 0)
def by8 (h w : Nat) : Nat := addc (mul64 (rot (h ^^^ rnd 0 w) 27) 11400714785074694791) 9650029242287828579
def by4 (h w : Nat) : Nat := addc (mul64 (rot (h ^^^ mul64 w 11400714785074694791) 23) 14029467366897019727) 1609587929392839161
def by1 (h x : Nat) : Nat := mul64 (rot (h ^^^ mul64 x 2870177450012600261) 11) 11400714785074694791
def tail8 : Nat → Nat → List Nat → Nat
  | 0, h, _ => h
  | n + 1, h, l => tail8 n (by8 h (num (l.take 8))) (l.drop 8)
def end8 (l : List Nat) : List Nat := l.drop (8 * (l.length / 8))
def tail4 (h : Nat) (l : List Nat) : Nat := if 4 ≤ l.length then by4 h (num (l.take 4)) else h
def end4 (l : List Nat) : List Nat := if 4 ≤ l.length then l.drop 4 else l
def aval1 (h : Nat) : Nat := mul64 (h ^^^ h / 8589934592) 14029467366897019727
def aval2 (h : Nat) : Nat := mul64 (h ^^^ h / 536870912) 1609587929392839161
def aval3 (h : Nat) : Nat := h ^^^ h / 4294967296
def endOf (h : Nat) (l : List Nat) : Nat := aval3 (aval2 (aval1 ((end4 (end8 l)).foldl by1 (tail4 (tail8 (l.length / 8) h l) (end8 l)))))
def headOf (l : List Nat) : Nat := if 32 ≤ l.length then merged (accOf acc0 l) else 2870177450012600261
/-- XXH64 of a text. -/
def xxh (l : List Nat) : Nat := endOf (add64 (headOf l) l.length) (restOf l)
theorem xxh_nil : xxh [] = 17241709254077376921 := by decide +kernel

theorem tail8_step {h : Nat} {l : List Nat} (hl : 8 ≤ l.length) : tail8 (l.length / 8) h l = tail8 ((l.drop 8).length / 8) (by8 h (num (l.take 8))) (l.drop 8) := by
  obtain ⟨n, hn⟩ : ∃ n, l.length / 8 = n + 1 := ⟨l.length / 8 - 1, by omega⟩
  rw [hn, List.length_drop, show (l.length - 8) / 8 = n by omega]
  rfl
theorem tail8_short {h : Nat} {l : List Nat} (hl : l.length < 8) : tail8 (l.length / 8) h l = h := by
  rw [show l.length / 8 = 0 by omega]; rfl
theorem end8_step {l : List Nat} (hl : 8 ≤ l.length) : end8 l = end8 (l.drop 8) := by
  unfold end8
  rw [List.drop_drop, List.length_drop]
  congr 1
  omega
theorem end8_short {l : List Nat} (hl : l.length < 8) : end8 l = l := by
  unfold end8
  rw [show l.length / 8 = 0 by omega]; rfl
theorem by8_lt (h w : Nat) : U64 (by8 h w) := addc_lt _ _
theorem by4_lt (h w : Nat) : U64 (by4 h w) := addc_lt _ _
theorem by1_lt (h w : Nat) : U64 (by1 h w) := mul64_lt _ _
end Go.Proofs.Ytabaholflahepaa
