/-
  Plain law: a tree's description, read. (Contract of spec.treeOf: under way.)
-/
import Derived.Test.YtabaholflahepaaDoorTreeG
import Derived.Test.YtabaholflahepaaDoorTreeX
namespace Go.Proofs.YtabaholflahepaaDoor
open Go.RowKit

theorem symOf_lt {L : Nat} {ps : List Int} (h : IsShares L ps) (hl : ps.length ≤ 256) (a : Nat) : symOf (tab L ps) a < 256 := by
  by_cases ha : a < 2 ^ L
  · have hg := tab_get (tb := tab L ps) (a := a) (by rw [tab_length]; exact ha)
    have hc : (tab L ps)[a]? = some (cellAt L ps a) := by simp [tab, ha]
    have he := Option.some.inj (hg.symm.trans hc)
    simp only [cellAt, Prod.mk.injEq] at he
    have := sym_lt h ha
    rw [he.1]
    omega
  · have : (tab L ps)[a]? = none := List.getElem?_eq_none (by rw [tab_length]; omega)
    unfold symOf
    rw [List.getD_eq_getElem?_getD, this]
    decide

theorem wts_fine {N : Nat} {tb : List (Nat × Nat × Nat)} (hs : ∀ a, symOf tb a < 256) : ∀ (f a b L : Nat) (out ws : List Nat), (∀ x ∈ out, x < 256) → wts N tb f a b L out = some ws → (∀ x ∈ ws, x < 256) ∧ ws.length ≤ 255
  | 0, _, _, _, _, _, _, h => by simp [wts] at h
  | f + 1, a, b, L, out, ws, ho, h => by
    by_cases h1 : L < bitsS tb a
    · by_cases h2 : out.length + 2 ≤ 255
      · rw [wts_end h1 h2] at h
        obtain rfl := Option.some.inj h
        refine ⟨fun x hx => ?_, by simp; omega⟩
        rcases List.mem_append.1 hx with hx | hx
        · exact ho x hx
        · simp only [List.mem_cons, List.not_mem_nil, or_false] at hx
          rcases hx with rfl | rfl
          · exact hs a
          · exact hs b
      · rw [wts_end_bad h1 (by omega)] at h
        cases h
    · by_cases h2 : out.length + 1 ≤ 255
      · rw [wts_step (by omega) h2] at h
        refine wts_fine hs f _ _ _ _ ws (fun x hx => ?_) h
        rcases List.mem_append.1 hx with hx | hx
        · exact ho x hx
        · simp only [List.mem_singleton] at hx
          subst hx
          exact hs a
      · rw [wts_bad (by omega) (by omega)] at h
        cases h

theorem wtsOf_fine {ds ws : List Nat} (h : wtsOf ds = some ws) : (∀ x ∈ ws, x < 256) ∧ ws.length ≤ 255 := by
  unfold wtsOf at h
  split at h
  · cases h
  · rename_i L ps q hde
    have hds := desc_some hde (by decide)
    have hsh := hds.2.2.2.2.2.1
    have hpl := hds.2.2.2.2.2.2.1
    split at h
    · cases h
    · split at h
      · cases h
      · exact wts_fine (symOf_lt hsh (by omega)) _ _ _ _ _ _ (fun x hx => by cases hx) h

/-- Half-bytes behind the head. -/
def nibAt (ds : List Nat) (i : Nat) : Nat := ds.getD (1 + i / 2) 0 / 2 ^ (4 - i % 2 * 4) % 16
def nibs (ds : List Nat) (n : Nat) : List Nat := (List.range n).map (nibAt ds)
theorem nibs_succ (ds : List Nat) (n : Nat) : nibs ds (n + 1) = nibs ds n ++ [nibAt ds n] := by simp [nibs, List.range_succ]
theorem nibs_length (ds : List Nat) (n : Nat) : (nibs ds n).length = n := by simp [nibs]
theorem nibAt_lt (ds : List Nat) (i : Nat) : nibAt ds i < 16 := Nat.mod_lt _ (by decide)
theorem nibs_lt {ds : List Nat} {n x : Nat} (h : x ∈ nibs ds n) : x < 16 := by
  simp only [nibs, List.mem_map] at h
  obtain ⟨i, _, rfl⟩ := h
  exact nibAt_lt ds i

/-- How many bytes lie behind the head. -/
def bodyOf (h : Nat) : Nat := if 128 ≤ h then (h - 126) / 2 else h
/-- The weights that a description tells. -/
def wtsIn (ds : List Nat) : Option (List Nat) := if 128 ≤ ds.getD 0 0 then some (nibs ds (ds.getD 0 0 - 127)) else wtsOf ((ds.drop 1).take (ds.getD 0 0))
/-- The tree of a description, and how long the description is. -/
def treeS (ds : List Nat) : Option (List Nat × Nat × Nat) :=
  if ds.length = 0 then none
  else if ds.length < 1 + bodyOf (ds.getD 0 0) then none
  else (wtsIn ds).bind fun ws => (treeP ws).map fun t => (t.1, t.2, 1 + bodyOf (ds.getD 0 0))
theorem wtsIn_fine {ds ws : List Nat} (hd : Bytes ds) (h : wtsIn ds = some ws) : (∀ x ∈ ws, x < 256) ∧ ws.length ≤ 255 := by
  unfold wtsIn at h
  split at h
  · obtain rfl := Option.some.inj h
    refine ⟨fun x hx => Nat.lt_of_lt_of_le (nibs_lt hx) (by decide), ?_⟩
    rw [nibs_length]
    have : ds.getD 0 0 < 256 := by
      rw [List.getD_eq_getElem?_getD]
      cases hg : ds[0]? with
      | none => decide
      | some x => exact hd x (List.mem_of_getElem? hg)
    omega
  · exact wtsOf_fine h
end Go.Proofs.YtabaholflahepaaDoor
