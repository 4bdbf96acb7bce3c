/-
  Contracts of the window: reset, save, len, appendTo. It holds the last bytes of a text, in a ring of S bytes.
-/
import Derived.Test.YtabaholflahepaaStr
import Derived.Laws.MakeOwn
namespace Go.Proofs.Ytabaholflahepaa
open Go.RowKit

theorem el25 : El Try.prog 25 5 (.int .u8 0) 1 1 := ⟨Try.underlying25, by kernel_rfl, rfl, by decide, by decide⟩

/-- What the numbers of a window are: S cells cs, of which n are in use; the oldest byte stands at off. -/
structure WinAt (S : Nat) (cs : List Nat) (n off : Nat) (T : List Nat) : Prop where
  len : cs.length = S
  used : n ≤ S
  within : off ≤ n
  flat : n < S → off = 0
  text : T = (cs.take n).drop off ++ (cs.take n).take off

/-- The last S of a text. -/
def lastOf {α : Type} (S : Nat) (T : List α) : List α := T.drop (T.length - S)

theorem WinAt.length {S : Nat} {cs : List Nat} {n off : Nat} {T : List Nat} (h : WinAt S cs n off T) : T.length = n := by
  have h1 := h.len; have h2 := h.used; have h3 := h.within
  rw [h.text]; simp; omega

theorem splice_zero {α : Type} (l x : List α) : splice l 0 x = x ++ l.drop x.length := by simp [splice]

section
variable {S : Nat} {cs : List Nat} {n off : Nat} {T buf : List Nat}

theorem WinAt.start (S : Nat) : WinAt S (List.replicate S 0) 0 0 [] := ⟨by simp, by omega, by omega, fun _ => rfl, by simp⟩

/-- Nothing is saved. -/
theorem WinAt.none (h : WinAt S cs n off T) : lastOf S (T ++ []) = T := by
  have h1 := h.length; have h2 := h.used
  unfold lastOf
  rw [List.append_nil, show T.length - S = 0 by omega, List.drop_zero]

/-- More than it holds is saved. -/
theorem WinAt.full (h : WinAt S cs n off T) (hb : S ≤ buf.length) : WinAt S (splice cs 0 (buf.drop (buf.length - S))) S 0 (lastOf S (T ++ buf)) := by
  have h1 := h.len
  have hl : (buf.drop (buf.length - S)).length = S := by simp; omega
  have e : splice cs 0 (buf.drop (buf.length - S)) = buf.drop (buf.length - S) := by
    rw [splice_zero, hl, List.drop_eq_nil_of_le (Nat.le_of_eq h1), List.append_nil]
  rw [e]
  refine ⟨hl, Nat.le_refl _, by omega, fun h => by omega, ?_⟩
  rw [List.drop_zero, List.take_zero, List.append_nil, List.take_of_length_le (by omega)]
  unfold lastOf
  rw [List.length_append, show T.length + buf.length - S = T.length + (buf.length - S) by omega, List.drop_append]
  rw [List.drop_eq_nil_of_le (by omega), Nat.add_sub_cancel_left, List.nil_append]

/-- There is room. -/
theorem WinAt.room (h : WinAt S cs n off T) (hf : n < S) (hb : buf.length ≤ S - n) : WinAt S (splice cs n buf) (n + buf.length) 0 (lastOf S (T ++ buf)) := by
  have h1 := h.len
  have h2 := h.length
  obtain rfl := h.flat hf
  have ht : T = cs.take n := by have := h.text; simpa using this
  refine ⟨by rw [length_splice _ _ _ (by omega), h1], by omega, by omega, fun _ => rfl, ?_⟩
  unfold lastOf
  rw [List.length_append, show T.length + buf.length - S = 0 by omega, List.drop_zero, List.drop_zero, List.take_zero, List.append_nil]
  simp only [splice]
  rw [← List.append_assoc, List.take_append_of_le_length (by simp; omega), List.take_of_length_le (by simp; omega), ← ht]

/-- There is too little room: the ring is closed. -/
theorem WinAt.wrap (h : WinAt S cs n off T) (hf : n < S) (hb : S - n < buf.length) (hl : buf.length < S) :
    WinAt S (splice (splice cs n (buf.take (S - n))) 0 (buf.drop (S - n))) S (buf.length - (S - n)) (lastOf S (T ++ buf)) := by
  have h1 := h.len
  have h2 := h.length
  obtain rfl := h.flat hf
  have ht : T = cs.take n := by have := h.text; simpa using this
  have e1 : splice cs n (buf.take (S - n)) = T ++ buf.take (S - n) := by
    simp only [splice]
    rw [← ht, List.drop_eq_nil_of_le (by simp; omega), List.append_nil]
  have hl1 : (T ++ buf.take (S - n)).length = S := by simp; omega
  rw [e1]
  obtain ⟨x, hx⟩ : ∃ x, x = buf.drop (S - n) := ⟨_, rfl⟩
  have hxl : x.length = buf.length - (S - n) := by rw [hx]; simp
  rw [← hx, ← hxl]
  have hl2 : (splice (T ++ buf.take (S - n)) 0 x).length = S := by rw [length_splice _ _ _ (by omega), hl1]
  refine ⟨hl2, Nat.le_refl _, by omega, fun h => by omega, ?_⟩
  rw [List.take_of_length_le (by omega), splice_zero, List.drop_left, List.take_left, List.drop_append_of_le_length (by omega)]
  unfold lastOf
  rw [List.length_append, show T.length + buf.length - S = x.length by omega, List.drop_append_of_le_length (by omega), List.append_assoc, hx, List.take_append_drop]

/-- The ring is full; what is saved ends in front of its end. -/
theorem WinAt.turn (h : WinAt S cs S off T) (hb : off + buf.length ≤ S) : WinAt S (splice cs off buf) S (off + buf.length) (lastOf S (T ++ buf)) := by
  have h1 := h.len
  have h2 := h.length
  have h3 := h.within
  have ht : T = cs.drop off ++ cs.take off := by have := h.text; rwa [List.take_of_length_le (by omega)] at this
  have hl : (splice cs off buf).length = S := by rw [length_splice _ _ _ (by omega), h1]
  refine ⟨hl, Nat.le_refl _, hb, fun h => by omega, ?_⟩
  rw [List.take_of_length_le (by omega)]
  have e1 : (splice cs off buf).take (off + buf.length) = cs.take off ++ buf := by
    simp only [splice]
    rw [← List.append_assoc, List.take_append_of_le_length (by simp; omega), List.take_of_length_le (by simp; omega)]
  have e2 : (splice cs off buf).drop (off + buf.length) = cs.drop (off + buf.length) := by
    simp only [splice]
    rw [← List.append_assoc, List.drop_append, List.drop_eq_nil_of_le (by simp; omega), List.nil_append]
    rw [show off + buf.length - (cs.take off ++ buf).length = 0 by simp; omega, List.drop_zero]
  rw [e1, e2]
  unfold lastOf
  rw [List.length_append, h2, show S + buf.length - S = buf.length by omega, ht, List.append_assoc, List.drop_append, List.drop_drop]
  rw [show buf.length - (cs.drop off).length = 0 by simp; omega, List.drop_zero]

/-- The ring is full; what is saved goes over its end. -/
theorem WinAt.over (h : WinAt S cs S off T) (hb : S < off + buf.length) (hl : buf.length < S) :
    WinAt S (splice (splice cs off (buf.take (S - off))) 0 (buf.drop (S - off))) S (buf.length - (S - off)) (lastOf S (T ++ buf)) := by
  have h1 := h.len
  have h2 := h.length
  have h3 := h.within
  have ht : T = cs.drop off ++ cs.take off := by have := h.text; rwa [List.take_of_length_le (by omega)] at this
  have e1 : splice cs off (buf.take (S - off)) = cs.take off ++ buf.take (S - off) := by
    simp only [splice]
    rw [List.drop_eq_nil_of_le (by simp; omega), List.append_nil]
  have hl1 : (cs.take off ++ buf.take (S - off)).length = S := by simp; omega
  rw [e1]
  obtain ⟨x, hx⟩ : ∃ x, x = buf.drop (S - off) := ⟨_, rfl⟩
  have hxl : x.length = buf.length - (S - off) := by rw [hx]; simp
  rw [← hx, ← hxl]
  have hl2 : (splice (cs.take off ++ buf.take (S - off)) 0 x).length = S := by rw [length_splice _ _ _ (by omega), hl1]
  refine ⟨hl2, Nat.le_refl _, by omega, fun h => by omega, ?_⟩
  have hcl : (cs.take off).length = off := by simp; omega
  rw [List.take_of_length_le (by omega), splice_zero, List.drop_left, List.take_left, List.drop_append_of_le_length (by omega)]
  unfold lastOf
  have e2 : (cs.drop off).drop buf.length = [] := List.drop_eq_nil_of_le (by simp; omega)
  rw [List.length_append, h2, show S + buf.length - S = buf.length by omega, ht, List.append_assoc, List.drop_append, e2, List.nil_append]
  rw [show buf.length - (cs.drop off).length = x.length by simp; omega, List.drop_append_of_le_length (by omega), List.append_assoc, hx, List.take_append_drop]

/-- A part of the text. -/
theorem WinAt.part (h : WinAt S cs n off T) {i j : Nat} (hij : i ≤ j) (hj : j ≤ n) :
    (T.drop i).take (j - i) =
      if j + off ≤ n then ((cs.take n).drop (i + off)).take (j - i)
      else if i + off ≤ n then (cs.take n).drop (i + off) ++ (cs.take n).take (j + off - n)
      else ((cs.take n).drop (i + off - n)).take (j - i) := by
  have h1 := h.len; have h2 := h.used; have h3 := h.within
  obtain ⟨D, hD⟩ : ∃ D, D = cs.take n := ⟨_, rfl⟩
  have hl : D.length = n := by rw [hD]; simp; omega
  rw [h.text, ← hD]
  apply List.ext_getElem?
  intro k
  split
  · rw [List.getElem?_take, List.getElem?_take, List.getElem?_drop, List.getElem?_drop]
    split
    · rw [List.getElem?_append_left (by simp; omega), List.getElem?_drop]
      congr 1; omega
    · rfl
  · split
    · rw [List.getElem?_take, List.getElem?_drop]
      by_cases hk : k < n - (i + off)
      · rw [if_pos (by omega), List.getElem?_append_left (by simp; omega), List.getElem?_append_left (by simp; omega), List.getElem?_drop, List.getElem?_drop]
        congr 1; omega
      · rw [List.getElem?_append_right (l₁ := D.drop (i + off)) (by simp; omega), List.getElem?_append_right (l₁ := D.drop off) (by simp; omega), List.getElem?_take, List.getElem?_take]
        simp only [List.length_drop, hl]
        by_cases hk2 : k < j - i
        · rw [if_pos hk2, if_pos (by omega), if_pos (by omega)]
          congr 1; omega
        · rw [if_neg hk2, if_neg (by omega)]
    · rw [List.getElem?_take, List.getElem?_take, List.getElem?_drop, List.getElem?_drop]
      split
      · rw [List.getElem?_append_right (by simp; omega), List.getElem?_take]
        simp only [List.length_drop, hl]
        rw [if_pos (by omega)]
        congr 1; omega
      · rfl
end
end Go.Proofs.Ytabaholflahepaa
