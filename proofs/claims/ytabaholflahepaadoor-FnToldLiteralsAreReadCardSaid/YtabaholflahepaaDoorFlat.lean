/-
  Rows of elements that have several cells: a list of structs as a list of cells.
-/
import Derived.Test.YtabaholflahepaaDoorRow
namespace Go.Proofs.YtabaholflahepaaDoor
open Go.RowKit

/-- The cells of a list of structs. -/
def flat {α : Type} (f : α → List Value) (xs : List α) : List Value := xs.flatMap f

section
variable {α : Type} {f : α → List Value} {K : Nat}
theorem flat_length (hf : ∀ x, (f x).length = K) (xs : List α) : (flat f xs).length = xs.length * K := by
  induction xs with
  | nil => simp [flat]
  | cons x r ih =>
    simp only [flat, List.flatMap_cons, List.length_append, List.length_cons, hf] at *
    rw [ih, Nat.add_mul, Nat.one_mul, Nat.add_comm]
theorem flat_at (hf : ∀ x, (f x).length = K) : ∀ {xs : List α} {i : Nat} {x : α} (j : Nat), xs[i]? = some x → j < K → (flat f xs)[i * K + j]? = (f x)[j]?
  | [], i, x, j, h, _ => by simp at h
  | y :: r, 0, x, j, h, hj => by
    obtain rfl : y = x := by simpa using h
    simp only [flat, List.flatMap_cons, Nat.zero_mul, Nat.zero_add]
    rw [List.getElem?_append_left (by rw [hf]; exact hj)]
  | y :: r, i + 1, x, j, h, hj => by
    simp only [flat, List.flatMap_cons]
    rw [List.getElem?_append_right (by rw [hf, Nat.add_mul]; omega), hf, show (i + 1) * K + j - K = i * K + j by rw [Nat.add_mul]; omega]
    exact flat_at hf j (by simpa using h) hj
theorem flat_set (hf : ∀ x, (f x).length = K) : ∀ {xs : List α} {i : Nat} {x : α} (j : Nat) (v : Value) (y : α), xs[i]? = some x → j < K → f y = (f x).set j v → (flat f xs).set (i * K + j) v = flat f (xs.set i y)
  | [], i, x, j, v, y, h, _, _ => by simp at h
  | z :: r, 0, x, j, v, y, h, hj, hy => by
    obtain rfl : z = x := by simpa using h
    simp only [flat, List.flatMap_cons, Nat.zero_mul, Nat.zero_add, List.set_cons_zero, hy]
    rw [List.set_append_left _ _ (by rw [hf]; exact hj)]
  | z :: r, i + 1, x, j, v, y, h, hj, hy => by
    simp only [flat, List.flatMap_cons, List.set_cons_succ]
    rw [List.set_append_right _ _ (by rw [hf, Nat.add_mul]; omega), hf, show (i + 1) * K + j - K = i * K + j by rw [Nat.add_mul]; omega]
    have := flat_set hf (xs := r) (i := i) j v y (by simpa using h) hj hy
    simp only [flat] at this
    rw [this]
theorem flat_append (f : α → List Value) (xs ys : List α) : flat f (xs ++ ys) = flat f xs ++ flat f ys := by simp [flat]
theorem flat_one (hf : ∀ x, ∀ u ∈ f x, u.oneCell' = true) (xs : List α) : ∀ u ∈ flat f xs, u.oneCell' = true := by
  intro u hu
  obtain ⟨x, _, hx⟩ := List.mem_flatMap.1 hu
  exact hf x u hx
theorem flat_lt {xs : List α} {i j : Nat} (hi : i < xs.length) (hj : j < K) : i * K + j < xs.length * K := by
  have : (i + 1) * K ≤ xs.length * K := Nat.mul_le_mul_right _ hi
  rw [Nat.add_mul] at this
  omega
theorem take_flat (hf : ∀ x, (f x).length = K) (xs : List α) (n : Nat) : (flat f xs).take (n * K) = flat f (xs.take n) := by
  induction xs generalizing n with
  | nil => simp [flat]
  | cons x r ih =>
    cases n with
    | zero => simp [flat]
    | succ n =>
      simp only [flat, List.flatMap_cons, List.take_succ_cons] at *
      rw [List.take_append, hf, show (n + 1) * K - K = n * K by rw [Nat.add_mul]; omega, ih, List.take_of_length_le (by rw [hf, Nat.add_mul]; omega)]

variable {w : World} {R : Nat → Prop} {A : Option Addr}
/-- One struct of a slice of structs: where its cells are read. -/
theorem Sl.row {xs : List α} (hf : ∀ x, (f x).length = K) (hK : 0 < K) (h : Sl w R A (flat f xs)) {i : Nat} (hi : i < xs.length) :
    ∃ g o x, R g ∧ A = some ⟨g, o, none⟩ ∧ Hid (xs[i]? = some x) ∧ ∀ j u, (f x)[j]? = some u → w.cell? ⟨g, o + i * K + j, none⟩ = some u := by
  obtain ⟨g, o, hR, hA, hc⟩ := h.get (by rw [flat_length hf]; exact Nat.mul_pos (by omega) hK)
  refine ⟨g, o, xs[i], hR, hA, List.getElem?_eq_getElem hi, fun j u hu => ?_⟩
  have hj : j < K := by
    have := (List.getElem?_eq_some_iff.1 hu).1
    rwa [hf] at this
  rw [Nat.add_assoc]
  exact hc _ u (by rw [flat_at hf j (List.getElem?_eq_getElem hi) hj]; exact hu)
/-- In a block that is known whole. -/
theorem Blk.row {b : Nat} {t : TypeId} {xs : List α} (hf : ∀ x, (f x).length = K) (h : Blk w b t (flat f xs)) {i j : Nat} {x : α} {u : Value} (hi : xs[i]? = some x) (hu : (f x)[j]? = some u) :
    w.cell? ⟨b, i * K + j, none⟩ = some u := by
  have hj : j < K := by
    have := (List.getElem?_eq_some_iff.1 hu).1
    rwa [hf] at this
  rw [h.cell, flat_at hf j hi hj, hu]
/-- What make lays of structs. -/
theorem made_flat {f : α → List Value} (z : Value) (d : α) (hz : z.cells.toList = f d) (hK : (f d).length = K) (hp : 0 < K) (n : Nat) : (madeCells z.cells (n * K)).toList = flat f (List.replicate n d) := by
  have hs : z.cells.size = K := by rw [← Array.length_toList, hz, hK]
  apply List.ext_getElem?
  intro i
  simp only [madeCells, Array.toList_map, List.getElem?_map, Array.toList_range, hs]
  have hl : (flat f (List.replicate n d)).length = n * K := by simp [flat, hK]
  by_cases hi : i < n * K
  · have hd : i = i / K * K + i % K := by rw [Nat.mul_comm]; exact (Nat.div_add_mod i K).symm
    have hm := Nat.mod_lt i hp
    have hq : i / K < n := (Nat.div_lt_iff_lt_mul hp).2 hi
    have key : ∀ (m q r : Nat), q < m → r < K → (flat f (List.replicate m d))[q * K + r]? = (f d)[r]? := by
      intro m
      induction m with
      | zero => intro q r h; omega
      | succ m ih =>
        intro q r hq hr
        simp only [flat, List.replicate_succ, List.flatMap_cons] at *
        cases q with
        | zero => rw [Nat.zero_mul, Nat.zero_add, List.getElem?_append_left (by omega)]
        | succ q =>
          rw [List.getElem?_append_right (by rw [hK, Nat.add_mul]; omega), hK, show (q + 1) * K + r - K = q * K + r by rw [Nat.add_mul]; omega]
          exact ih q r (by omega) hr
    rw [List.getElem?_range hi]
    conv => rhs; rw [hd]
    rw [key n _ _ hq hm, ← hz]
    simp [hs, hm]
  · rw [List.getElem?_eq_none (by simpa using hi), List.getElem?_eq_none (by omega)]; rfl
end
end Go.Proofs.YtabaholflahepaaDoor
