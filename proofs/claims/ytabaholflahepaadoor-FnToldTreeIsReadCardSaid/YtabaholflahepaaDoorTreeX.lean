/-
  Plain law: the tree of weights.
-/
import Derived.Test.YtabaholflahepaaDoorTreeP
import Derived.Test.YtabaholflahepaaDoorCells
import Derived.Test.YtabaholflahepaaDoorTold
namespace Go.Proofs.YtabaholflahepaaDoor
open Go.RowKit

def mostW (ws : List Nat) : Nat := Nat.log2 (wsum ws) + 1
def restW (ws : List Nat) : Nat := 2 ^ mostW ws - wsum ws
/-- The tree of weights, of which the last one is missing: all weights, the most bits. -/
def treeP (ws : List Nat) : Option (List Nat × Nat) :=
  if (∃ w ∈ ws, 11 < w) ∨ wsum ws = 0 ∨ 11 < mostW ws ∨ 2 ^ Nat.log2 (restW ws) ≠ restW ws then none else some (ws ++ [Nat.log2 (restW ws) + 1], mostW ws)
theorem mostW_low {ws : List Nat} (h : wsum ws ≠ 0) : 2 ^ (mostW ws - 1) ≤ wsum ws ∧ wsum ws < 2 ^ mostW ws := ⟨Nat.log2_self_le h, Nat.lt_log2_self⟩
theorem restW_pos {ws : List Nat} (h : wsum ws ≠ 0) : 0 < restW ws := by
  have := (mostW_low h).2
  unfold restW
  omega
theorem treeP_some {ws al : List Nat} {m : Nat} (h : treeP ws = some (al, m)) : (∀ w ∈ ws, w ≤ 11) ∧ wsum ws ≠ 0 ∧ m = mostW ws ∧ m ≤ 11 ∧ al = ws ++ [Nat.log2 (restW ws) + 1] ∧ 2 ^ Nat.log2 (restW ws) = restW ws ∧ wsum al = 2 ^ m ∧ ∀ w ∈ al, w ≤ m := by
  unfold treeP at h
  split at h
  · cases h
  · rename_i hc
    simp only [Option.some.injEq, Prod.mk.injEq] at h
    obtain ⟨rfl, rfl⟩ := h
    have h1 : ∀ w ∈ ws, w ≤ 11 := fun w hw => Nat.le_of_not_lt fun hl => hc (.inl ⟨w, hw, hl⟩)
    have h2 : wsum ws ≠ 0 := fun h => hc (.inr (.inl h))
    have h3 : mostW ws ≤ 11 := Nat.le_of_not_lt fun h => hc (.inr (.inr (.inl h)))
    have h4 : 2 ^ Nat.log2 (restW ws) = restW ws := Classical.byContradiction fun h => hc (.inr (.inr (.inr h)))
    have h5 := mostW_low h2
    have h6 : wsum (ws ++ [Nat.log2 (restW ws) + 1]) = 2 ^ mostW ws := by
      rw [wsum_append]
      simp only [wsum, List.map_cons, List.map_nil, List.sum_cons, List.sum_nil, wc_succ, h4, Nat.add_zero]
      have : wsum ws = (ws.map wc).sum := rfl
      unfold restW
      omega
    refine ⟨h1, h2, rfl, h3, rfl, h4, h6, fun w hw => ?_⟩
    have h7 := wsum_mem hw
    rw [h6] at h7
    rcases Nat.eq_zero_or_pos w with h0 | h0
    · omega
    · obtain ⟨v, rfl⟩ : ∃ v, w = v + 1 := ⟨w - 1, by omega⟩
      rw [wc_succ] at h7
      rcases List.mem_append.1 hw with hw | hw
      · have h8 := wsum_mem hw
        rw [wc_succ] at h8
        have : v < mostW ws := (Nat.pow_lt_pow_iff_right (a := 2) (by decide)).1 (by omega)
        omega
      · simp only [List.mem_singleton] at hw
        have h9 : restW ws < 2 ^ mostW ws := by unfold restW; omega
        rw [← h4] at h9
        have := (Nat.pow_lt_pow_iff_right (a := 2) (by decide)).1 h9
        omega

/-- Pairs as two slices that a tree holds. -/
def TreeAt (w : World) (b base most n : Nat) (rs : List (Nat × Nat)) : Prop :=
  ∃ A1 c1 A2 c2, Blk w b 135 [.slice A1 n c1, .slice A2 n c2, .int .i64 (most : Int)] ∧ n = rs.length ∧ w.ownsRow base 3 1 (.slice A1 n c1) n (nats (rs.map (·.1))) ∧ w.ownsRow base 3 1 (.slice A2 n c2) n (nats (rs.map (·.2))) ∧
    ((Value.slice A1 n c1).ownBlock = none ∨ (Value.slice A1 n c1).ownBlock ≠ (Value.slice A2 n c2).ownBlock)

theorem ownBlock_map (A : Option Addr) (n c : Nat) : (Value.slice A n c).ownBlock = A.map (·.block) := by cases A <;> rfl
theorem apart_new {A7 : Option Addr} {n7 c7 sz : Nat} {o5 o6 : Option Nat} (h7 : A7.map (·.block) = o5 ∨ A7 = some ⟨sz, 0, none⟩) (h : o5 = none ∨ o5 ≠ o6) (hlt : ∀ k, o6 = some k → k < sz) :
    (Value.slice A7 n7 c7).ownBlock = none ∨ (Value.slice A7 n7 c7).ownBlock ≠ o6 := by
  rw [ownBlock_map]
  rcases h7 with h7 | h7
  · rw [h7]; exact h
  · refine .inr fun hh => ?_
    rw [h7] at hh
    have := hlt sz hh.symm
    omega
theorem mostW_le {ws : List Nat} (hw : ∀ w ∈ ws, w ≤ 12) (hl : ws.length ≤ 256) : mostW ws ≤ 20 := by
  by_cases h0 : wsum ws = 0
  · unfold mostW; rw [h0]; decide
  · have h1 := (mostW_low h0).1
    have h2 := wsum_le hw
    have h3 : 2 ^ (mostW ws - 1) < 2 ^ 20 := by omega
    have := (Nat.pow_lt_pow_iff_right (a := 2) (by decide)).1 h3
    omega

/-- The least power that reaches x. -/
def upLog (x : Nat) : Nat := if 2 ^ Nat.log2 x = x then Nat.log2 x else Nat.log2 x + 1
theorem upLog_lt {x l : Nat} (h0 : x ≠ 0) : 2 ^ l < x ↔ l < upLog x := by
  have h1 := Nat.log2_self_le h0
  have h2 : x < 2 ^ (Nat.log2 x + 1) := Nat.lt_log2_self
  have hm : ∀ a b : Nat, 2 ^ a < 2 ^ b ↔ a < b := fun a b => Nat.pow_lt_pow_iff_right (by decide)
  unfold upLog
  split
  · rename_i h
    have := hm l (Nat.log2 x)
    rwa [h] at this
  · rename_i h
    constructor
    · intro h3
      have := (hm l (Nat.log2 x + 1)).1 (by omega)
      omega
    · intro h3
      have : 2 ^ l ≤ 2 ^ Nat.log2 x := Nat.pow_le_pow_right (by decide) (by omega)
      omega
theorem upLog_eq {x : Nat} : 2 ^ upLog x = x ↔ 2 ^ Nat.log2 x = x := by
  unfold upLog
  split
  · rename_i h
    exact ⟨fun _ => h, fun _ => h⟩
  · rename_i h
    constructor
    · intro h3
      have h2 : x < 2 ^ (Nat.log2 x + 1) := Nat.lt_log2_self
      omega
    · intro h3; exact absurd h3 h
end Go.Proofs.YtabaholflahepaaDoor
