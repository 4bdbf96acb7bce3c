/-
  Plain law: the tree of weights. And more of its kind (TreeX, TreeM).
-/
import Derived.Test.YtabaholflahepaaDoorTreeP
import Derived.Test.YtabaholflahepaaDoorCells
import Derived.Test.YtabaholflahepaaDoorCopies
import Derived.Test.YtabaholflahepaaDoorShares
import Derived.Test.YtabaholflahepaaDoorLow
import Derived.Test.YtabaholflahepaaDoorToldA
namespace Go.Proofs.YtabaholflahepaaDoor
open Go.RowKit

section
def mostW (ws : List Nat) : Nat := Nat.log2 (wsum ws) + 1
def restW (ws : List Nat) : Nat := 2 ^ mostW ws - wsum ws
/-- The tree of weights, of which the last one is missing: all weights, the most bits. -/
def treeP (ws : List Nat) : Option (List Nat × Nat) :=
  if (∃ w ∈ ws, 11 < w) ∨ wsum ws = 0 ∨ 11 < mostW ws ∨ 2 ^ Nat.log2 (restW ws) ≠ restW ws then none else some (ws ++ [Nat.log2 (restW ws) + 1], mostW ws)
theorem mostW_low {ws : List Nat} (h : wsum ws ≠ 0) : 2 ^ (mostW ws - 1) ≤ wsum ws ∧ wsum ws < 2 ^ mostW ws := ⟨Nat.log2_self_le h, Nat.lt_log2_self⟩
theorem restW_pos {ws : List Nat} (h : wsum ws ≠ 0) : 0 < restW ws := by
  have := (mostW_low h).2
  unfold restW
  omega
theorem treeP_some {ws al : List Nat} {m : Nat} (h : treeP ws = some (al, m)) : (∀ w ∈ ws, w ≤ 11) ∧ wsum ws ≠ 0 ∧ m = mostW ws ∧ m ≤ 11 ∧ al = ws ++ [Nat.log2 (restW ws) + 1] ∧ 2 ^ Nat.log2 (restW ws) = restW ws ∧ wsum al = 2 ^ m ∧ ∀ w ∈ al, w ≤ m := by
  unfold treeP at h
  split at h
  · cases h
  · rename_i hc
    simp only [Option.some.injEq, Prod.mk.injEq] at h
    obtain ⟨rfl, rfl⟩ := h
    have h1 : ∀ w ∈ ws, w ≤ 11 := fun w hw => Nat.le_of_not_lt fun hl => hc (.inl ⟨w, hw, hl⟩)
    have h2 : wsum ws ≠ 0 := fun h => hc (.inr (.inl h))
    have h3 : mostW ws ≤ 11 := Nat.le_of_not_lt fun h => hc (.inr (.inr (.inl h)))
    have h4 : 2 ^ Nat.log2 (restW ws) = restW ws := Classical.byContradiction fun h => hc (.inr (.inr (.inr h)))
    have h5 := mostW_low h2
    have h6 : wsum (ws ++ [Nat.log2 (restW ws) + 1]) = 2 ^ mostW ws := by
      rw [wsum_append]
      simp only [wsum, List.map_cons, List.map_nil, List.sum_cons, List.sum_nil, wc_succ, h4, Nat.add_zero]
      have : wsum ws = (ws.map wc).sum := rfl
      unfold restW
      omega
    refine ⟨h1, h2, rfl, h3, rfl, h4, h6, fun w hw => ?_⟩
    have h7 := wsum_mem hw
    rw [h6] at h7
    rcases Nat.eq_zero_or_pos w with h0 | h0
    · omega
    · obtain ⟨v, rfl⟩ : ∃ v, w = v + 1 := ⟨w - 1, by omega⟩
      rw [wc_succ] at h7
      rcases List.mem_append.1 hw with hw | hw
      · have h8 := wsum_mem hw
        rw [wc_succ] at h8
        have : v < mostW ws := (Nat.pow_lt_pow_iff_right (a := 2) (by decide)).1 (by omega)
        omega
      · simp only [List.mem_singleton] at hw
        have h9 : restW ws < 2 ^ mostW ws := by unfold restW; omega
        rw [← h4] at h9
        have := (Nat.pow_lt_pow_iff_right (a := 2) (by decide)).1 h9
        omega

/-- Pairs as two slices that a tree holds. -/
def TreeAt (w : World) (b base most n : Nat) (rs : List (Nat × Nat)) : Prop :=
  ∃ A1 c1 A2 c2, Blk w b 135 [.slice A1 n c1, .slice A2 n c2, .int .i64 (most : Int)] ∧ n = rs.length ∧ w.ownsRow base 3 1 (.slice A1 n c1) n (nats (rs.map (·.1))) ∧ w.ownsRow base 3 1 (.slice A2 n c2) n (nats (rs.map (·.2))) ∧
    ((Value.slice A1 n c1).ownBlock = none ∨ (Value.slice A1 n c1).ownBlock ≠ (Value.slice A2 n c2).ownBlock)

theorem ownBlock_map (A : Option Addr) (n c : Nat) : (Value.slice A n c).ownBlock = A.map (·.block) := by cases A <;> rfl
theorem apart_new {A7 : Option Addr} {n7 c7 sz : Nat} {o5 o6 : Option Nat} (h7 : A7.map (·.block) = o5 ∨ A7 = some ⟨sz, 0, none⟩) (h : o5 = none ∨ o5 ≠ o6) (hlt : ∀ k, o6 = some k → k < sz) :
    (Value.slice A7 n7 c7).ownBlock = none ∨ (Value.slice A7 n7 c7).ownBlock ≠ o6 := by
  rw [ownBlock_map]
  rcases h7 with h7 | h7
  · rw [h7]; exact h
  · refine .inr fun hh => ?_
    rw [h7] at hh
    have := hlt sz hh.symm
    omega
theorem mostW_le {ws : List Nat} (hw : ∀ w ∈ ws, w ≤ 12) (hl : ws.length ≤ 256) : mostW ws ≤ 20 := by
  by_cases h0 : wsum ws = 0
  · unfold mostW; rw [h0]; decide
  · have h1 := (mostW_low h0).1
    have h2 := wsum_le hw
    have h3 : 2 ^ (mostW ws - 1) < 2 ^ 20 := by omega
    have := (Nat.pow_lt_pow_iff_right (a := 2) (by decide)).1 h3
    omega

/-- The least power that reaches x. -/
def upLog (x : Nat) : Nat := if 2 ^ Nat.log2 x = x then Nat.log2 x else Nat.log2 x + 1
theorem upLog_lt {x l : Nat} (h0 : x ≠ 0) : 2 ^ l < x ↔ l < upLog x := by
  have h1 := Nat.log2_self_le h0
  have h2 : x < 2 ^ (Nat.log2 x + 1) := Nat.lt_log2_self
  have hm : ∀ a b : Nat, 2 ^ a < 2 ^ b ↔ a < b := fun a b => Nat.pow_lt_pow_iff_right (by decide)
  unfold upLog
  split
  · rename_i h
    have := hm l (Nat.log2 x)
    rwa [h] at this
  · rename_i h
    constructor
    · intro h3
      have := (hm l (Nat.log2 x + 1)).1 (by omega)
      omega
    · intro h3
      have : 2 ^ l ≤ 2 ^ Nat.log2 x := Nat.pow_le_pow_right (by decide) (by omega)
      omega
theorem upLog_eq {x : Nat} : 2 ^ upLog x = x ↔ 2 ^ Nat.log2 x = x := by
  unfold upLog
  split
  · rename_i h
    exact ⟨fun _ => h, fun _ => h⟩
  · rename_i h
    constructor
    · intro h3
      have h2 : x < 2 ^ (Nat.log2 x + 1) := Nat.lt_log2_self
      omega
    · intro h3; exact absurd h3 h
end

section
theorem u16s_at {l : List Nat} {i x : Nat} (h : l[i]? = some x) : (u16s l)[i]? = some (.int .u16 (x : Nat)) := by simp [u16s, List.getElem?_map, h]
theorem u16s_set (l : List Nat) (i x : Nat) : (u16s l).set i (.int .u16 (x : Nat)) = u16s (l.set i x) := by simp [u16s, List.map_set]
theorem u32s_get {l : List Nat} {i x : Nat} (h : l[i]? = some x) : (u32s l)[i]? = some (.int .u32 (x : Nat)) := by simp [u32s, List.getElem?_map, h]
theorem u32s_set (l : List Nat) (i x : Nat) : (u32s l).set i (.int .u32 (x : Nat)) = u32s (l.set i x) := by simp [u32s, List.map_set]
theorem u8s_get {l : List Nat} {i x : Nat} (h : l[i]? = some x) : (u8s l)[i]? = some (.int .u8 (x : Nat)) := by simp [u8s, List.getElem?_map, h]
theorem u8s_set (l : List Nat) (i x : Nat) : (u8s l).set i (.int .u8 (x : Nat)) = u8s (l.set i x) := by simp [u8s, List.map_set]

/-- Thirteen numbers by a function. -/
def mk13 (f : Nat → Nat) : List Nat := (List.range 13).map f
theorem mk13_at (f : Nat → Nat) {w : Nat} (h : w < 13) : (mk13 f)[w]? = some (f w) := by simp [mk13, h]
@[simp] theorem mk13_length (f : Nat → Nat) : (mk13 f).length = 13 := by simp [mk13]
theorem mk13_set {f g : Nat → Nat} {i x : Nat} (_hi : i < 13) (hx : g i = x) (hn : ∀ j, j < 13 → j ≠ i → g j = f j) : (mk13 f).set i x = mk13 g := by
  refine List.ext_getElem? fun j => ?_
  by_cases hj : j < 13
  · by_cases hji : i = j
    · subst hji
      rw [List.getElem?_set_self (by simpa using hj), mk13_at g hj, hx]
    · rw [List.getElem?_set_ne hji, mk13_at f hj, mk13_at g hj, hn j hj (Ne.symm hji)]
  · rw [List.getElem?_eq_none (by simp; omega), List.getElem?_eq_none (by simp; omega)]
theorem mk13_eq {f g : Nat → Nat} (h : ∀ j, j < 13 → f j = g j) : mk13 f = mk13 g := by
  refine List.ext_getElem? fun j => ?_
  by_cases hj : j < 13
  · rw [mk13_at f hj, mk13_at g hj, h j hj]
  · rw [List.getElem?_eq_none (by simp; omega), List.getElem?_eq_none (by simp; omega)]

def cnts (ws : List Nat) (w : Nat) : Nat := ws.count w
def wmarks (ws : List Nat) : List Nat := mk13 (cnts ws)
theorem wmarks_at (ws : List Nat) {w : Nat} (h : w < 13) : (wmarks ws)[w]? = some (ws.count w) := mk13_at _ h
theorem wmarks_nil : wmarks [] = List.replicate 13 0 := by decide
theorem wmarks_snoc (ws : List Nat) {x : Nat} (hx : x < 13) : (wmarks ws).set x (ws.count x + 1) = wmarks (ws ++ [x]) := by
  refine mk13_set hx ?_ fun j _ hj => ?_
  · simp [cnts]
  · simp only [cnts, List.count_append, List.count_singleton, beq_iff_eq]
    rw [if_neg (Ne.symm hj)]; rfl
theorem wmarks_push {ws : List Nat} {k x : Nat} (h : ws[k]? = some x) (hx : x < 13) : (wmarks (ws.take k)).set x ((ws.take k).count x + 1) = wmarks (ws.take (k + 1)) := by
  rw [take_push h, wmarks_snoc _ hx]

def startF (al : List Nat) (m i w : Nat) : Nat := if 1 ≤ w ∧ w ≤ i then (rowsTo al m (w - 1)).length else al.count w
def starts (al : List Nat) (m i : Nat) : List Nat := mk13 (startF al m i)
theorem starts_zero (al : List Nat) (m : Nat) : starts al m 0 = wmarks al := mk13_eq fun j _ => by unfold startF cnts; rw [if_neg (by omega)]
theorem starts_at (al : List Nat) (m : Nat) {i : Nat} (h : i + 1 < 13) : (starts al m i)[i + 1]? = some (al.count (i + 1)) := by
  rw [starts, mk13_at _ h, startF, if_neg (by omega)]
theorem starts_step (al : List Nat) (m : Nat) {i : Nat} (h : i + 1 < 13) : (starts al m i).set (i + 1) (rowsTo al m i).length = starts al m (i + 1) := by
  refine mk13_set h ?_ fun j _ hj => ?_
  · rw [startF, if_pos (by omega)]; rfl
  · unfold startF
    by_cases hc : 1 ≤ j ∧ j ≤ i
    · rw [if_pos hc, if_pos (by omega)]
    · rw [if_neg hc, if_neg (by omega)]
theorem rows_next (al : List Nat) (m i : Nat) : (rowsTo al m (i + 1)).length = (rowsTo al m i).length + al.count (i + 1) * 2 ^ i := by
  rw [rowsTo_succ, List.length_append, rowsW_length, idxs_count, wc_succ]

def placeF (al : List Nat) (m k w : Nat) : Nat := if 1 ≤ w ∧ w ≤ m then (rowsTo al m (w - 1)).length + (idxs w 0 (al.take k)).length * wc w else al.count w
def places (al : List Nat) (m k : Nat) : List Nat := mk13 (placeF al m k)
theorem places_zero (al : List Nat) (m : Nat) : places al m 0 = starts al m m := mk13_eq fun j _ => by
  unfold placeF startF
  by_cases hc : 1 ≤ j ∧ j ≤ m
  · rw [if_pos hc, if_pos hc]; simp [idxs]
  · rw [if_neg hc, if_neg hc]
theorem places_at (al : List Nat) {m w : Nat} (k : Nat) (h0 : 1 ≤ w) (h1 : w ≤ m) (h2 : m < 13) : (places al m k)[w]? = some ((rowsTo al m (w - 1)).length + (idxs w 0 (al.take k)).length * wc w) := by
  rw [places, mk13_at _ (by omega), placeF, if_pos ⟨h0, h1⟩]
theorem idxs_other {v : Nat} {l : List Nat} {k x : Nat} (h : l[k]? = some x) (hx : x ≠ v) : idxs v 0 (l.take (k + 1)) = idxs v 0 (l.take k) := by
  rw [idxs_push h, if_neg hx, List.append_nil]
theorem places_push {al : List Nat} {m k w : Nat} (h : al[k]? = some w) (h0 : 1 ≤ w) (h1 : w ≤ m) (h2 : m < 13) :
    (places al m k).set w ((rowsTo al m (w - 1)).length + (idxs w 0 (al.take k)).length * wc w + wc w) = places al m (k + 1) := by
  refine mk13_set (by omega) ?_ fun j _ hj => ?_
  · rw [placeF, if_pos ⟨h0, h1⟩, idxs_push h, if_pos rfl, List.length_append, Nat.add_mul]
    simp
    omega
  · unfold placeF
    rw [idxs_other h (Ne.symm hj)]
theorem places_skip {al : List Nat} {m k : Nat} (h : al[k]? = some 0) : places al m (k + 1) = places al m k := mk13_eq fun j _ => by
  unfold placeF
  by_cases hc : 1 ≤ j ∧ j ≤ m
  · rw [if_pos hc, if_pos hc, idxs_other h (by omega)]
  · rw [if_neg hc, if_neg hc]

/-- A row as 16 bits. -/
def enc (x : Nat × Nat) : Nat := x.1 * 256 + x.2
def encTo (k : Nat) (x : Nat × Nat) : Nat := if x.1 < k then enc x else 0
def filled (al : List Nat) (m k : Nat) : List Nat := (rowsTo al m m).map (encTo k)
theorem filled_length {al : List Nat} {m : Nat} (h : ∀ w ∈ al, w ≤ m) (hs : wsum al = 2 ^ m) (k : Nat) : (filled al m k).length = 2 ^ m := by
  rw [filled, List.length_map, rows_length h, hs]
theorem filled_zero (al : List Nat) (m : Nat) : filled al m 0 = List.replicate (rowsTo al m m).length 0 := by
  refine List.eq_replicate_iff.2 ⟨by simp [filled], fun b hb => ?_⟩
  obtain ⟨x, _, rfl⟩ := List.mem_map.1 hb
  simp [encTo]
theorem filled_all (al : List Nat) (m : Nat) : filled al m al.length = (rowsTo al m m).map enc := by
  refine List.map_congr_left fun x hx => ?_
  obtain ⟨v, _, _, h, _⟩ := rowsTo_mem hx
  have := (List.getElem?_eq_some_iff.1 h).1
  rw [encTo, if_pos this]
theorem filled_skip {al : List Nat} {m k : Nat} (h : al[k]? = some 0) : filled al m (k + 1) = filled al m k := by
  refine List.map_congr_left fun x hx => ?_
  obtain ⟨v, hv, _, h2, _⟩ := rowsTo_mem hx
  have : x.1 ≠ k := by
    rintro rfl
    rw [h] at h2
    have := Option.some.inj h2
    omega
  unfold encTo
  by_cases hc : x.1 < k
  · rw [if_pos hc, if_pos (by omega)]
  · rw [if_neg hc, if_neg (by omega)]
theorem filled_split {al : List Nat} {m k w : Nat} (h : al[k]? = some w) (h0 : 0 < w) (hm : w ≤ m) :
    ∃ a b, filled al m k = a ++ (List.replicate (wc w) 0 ++ b) ∧ filled al m (k + 1) = a ++ (List.replicate (wc w) (k * 256 + (m + 1 - w)) ++ b) ∧
      a.length = (rowsTo al m (w - 1)).length + (idxs w 0 (al.take k)).length * wc w := by
  obtain ⟨a, b, e, hl, ha, hb⟩ := rows_split h h0 hm
  have hc : ∀ l : List (Nat × Nat), (∀ x ∈ l, x.1 ≠ k) → l.map (encTo (k + 1)) = l.map (encTo k) := fun l hl => List.map_congr_left fun x hx => by
    have := hl x hx
    unfold encTo
    by_cases hc : x.1 < k
    · rw [if_pos hc, if_pos (by omega)]
    · rw [if_neg hc, if_neg (by omega)]
  refine ⟨a.map (encTo k), b.map (encTo k), ?_, ?_, by rw [List.length_map, hl]⟩
  · rw [filled, e, List.map_append, List.map_append, List.map_replicate]
    simp [encTo]
  · rw [filled, e, List.map_append, List.map_append, List.map_replicate, hc a ha, hc b hb]
    simp [encTo, enc]

/-- Filling a run of zeros. -/
theorem fill_step (a b : List Nat) {n j x : Nat} (hj : j < n) : (a ++ (List.replicate j x ++ (List.replicate (n - j) 0 ++ b))).set (a.length + j) x = a ++ (List.replicate (j + 1) x ++ (List.replicate (n - (j + 1)) 0 ++ b)) := by
  rw [List.set_append_right _ _ (by omega), Nat.add_sub_cancel_left, List.set_append_right _ _ (by simp), List.length_replicate, Nat.sub_self, show n - j = (n - (j + 1)) + 1 by omega, List.replicate_succ]
  simp only [List.cons_append, List.set_cons_zero, List.replicate_succ' (n := j), List.append_assoc, List.nil_append]

/-- Whether a symbol has the weight 1: by the first row. -/
theorem first_row {al : List Nat} {m : Nat} (h : ∀ w ∈ al, w ≤ m) (hs : wsum al = 2 ^ m) (hm : 1 ≤ m) : ∃ x r, rowsTo al m m = x :: r ∧ (x.2 < m ↔ 1 ∉ al) ∧ x.2 ≤ m := by
  have hl := rows_length h
  rw [hs] at hl
  have hp := pow_pos' m
  cases hr : rowsTo al m m with
  | nil => rw [hr] at hl; simp at hl; omega
  | cons x r =>
    refine ⟨x, r, rfl, ?_, ?_⟩
    · by_cases h1 : 1 ∈ al
      · obtain ⟨r', h2, _⟩ := rowsTo_prefix (al := al) (most := m) (j := 1) hm
        have h3 : (rowsTo al m 1).length = al.count 1 := by rw [rows_next]; simp [rowsTo]
        have h4 : 0 < al.count 1 := List.count_pos_iff.2 h1
        have hx : x ∈ rowsTo al m 1 := by
          cases hq : rowsTo al m 1 with
          | nil => rw [hq] at h3; simp at h3; omega
          | cons y r2 =>
            rw [hr, hq] at h2
            simp only [List.cons_append, List.cons.injEq] at h2
            rw [h2.1]
            exact List.mem_cons_self ..
        obtain ⟨v, e1, e2, _, e4⟩ := rowsTo_mem hx
        constructor
        · intro h5; omega
        · intro h5; exact absurd h1 h5
      · have hx : x ∈ rowsTo al m m := by rw [hr]; exact List.mem_cons_self ..
        obtain ⟨v, e1, e2, e3, e4⟩ := rowsTo_mem hx
        constructor
        · intro _; exact h1
        · intro _
          have : v ≠ 1 := by
            rintro rfl
            exact h1 (List.mem_of_getElem? e3)
          omega
    · have hx : x ∈ rowsTo al m m := by rw [hr]; exact List.mem_cons_self ..
      obtain ⟨v, e1, e2, e3, e4⟩ := rowsTo_mem hx
      omega
end
end Go.Proofs.YtabaholflahepaaDoor
