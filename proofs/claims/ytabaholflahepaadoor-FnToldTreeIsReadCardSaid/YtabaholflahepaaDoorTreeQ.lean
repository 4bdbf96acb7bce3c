/-
  Plain law: a description of shares in a window of the data and in all of them; weights that the one and the other tell.
-/
import Derived.Test.YtabaholflahepaaDoorTreeS
import Derived.Test.YtabaholflahepaaDoorBitsP
namespace Go.Proofs.YtabaholflahepaaDoor
open Go.RowKit

theorem pr_pos {N T S : Nat} : ∀ (n : Nat) (z : Bool) (pos left : Nat) (out ps : List Int) (e : Nat), T - pos < n → pr N T S z pos left out = some (ps, e) → pos ≤ e := by
  intro n
  induction n with
  | zero => intro z pos left out ps e h; omega
  | succ n ih =>
    intro z pos left out ps e hn he
    cases z with
    | true =>
      by_cases h : T < pos + 2 ∨ S < out.length + rdb N pos 2
      · rw [pr_zeros_bad h] at he; cases he
      · rw [pr_zeros (by omega) (by omega)] at he
        have := ih _ _ _ _ _ _ (by omega) he
        omega
    | false =>
      by_cases h0 : left = 0
      · subst h0
        rw [pr_done] at he
        simp only [Option.some.injEq, Prod.mk.injEq] at he
        omega
      · by_cases h : T < pos + wof N pos left ∨ S ≤ out.length
        · rw [pr_bad h0 h] at he; cases he
        · have hw := wof_pos N pos h0
          rw [pr_step h0 (by omega) (by omega)] at he
          have := ih _ _ _ _ _ _ (by omega) he
          omega

/-- What is told within K bits behind bit s. -/
def cutAt (s K : Nat) (r : Option (List Int × Nat)) : Option (List Int × Nat) := r.bind fun x => if x.2 ≤ s + K then some (x.1, x.2 - s) else none
theorem cutAt_none (s K : Nat) : cutAt s K none = none := rfl
theorem cutAt_late {s K p : Nat} {r : Option (List Int × Nat)} (h : ∀ ps e, r = some (ps, e) → p ≤ e) (hp : s + K < p) : cutAt s K r = none := by
  cases r with
  | none => rfl
  | some x =>
    have := h x.1 x.2 rfl
    simp only [cutAt, Option.bind_some]
    rw [if_neg (by omega)]

theorem pr_window {N' N s K T S : Nat} (H : ∀ pos n, pos + n ≤ K → rdb N' pos n = rdb N (s + pos) n) (hK : s + K ≤ T) :
    ∀ (n : Nat) (z : Bool) (pos left : Nat) (out : List Int), K - pos < n → pos ≤ K → pr N' K S z pos left out = cutAt s K (pr N T S z (s + pos) left out) := by
  intro n
  induction n with
  | zero => intro z pos left out h; omega
  | succ n ih =>
    intro z pos left out hn hp
    cases z with
    | true =>
      by_cases h1 : K < pos + 2
      · rw [pr_zeros_bad (.inl h1)]
        by_cases h2 : T < s + pos + 2 ∨ S < out.length + rdb N (s + pos) 2
        · rw [pr_zeros_bad h2, cutAt_none]
        · rw [pr_zeros (by omega) (by omega)]
          exact (cutAt_late (fun ps e he => pr_pos _ _ _ _ _ _ _ (Nat.lt_succ_self _) he) (by omega)).symm
      · have e := H pos 2 (by omega)
        by_cases h2 : S < out.length + rdb N (s + pos) 2
        · rw [pr_zeros_bad (.inr (by rw [e]; exact h2)), pr_zeros_bad (.inr h2), cutAt_none]
        · rw [pr_zeros (by omega) (by rw [e]; omega), pr_zeros (by omega) (by omega), e, ih _ _ _ _ (by omega) (by omega), Nat.add_assoc]
    | false =>
      by_cases h0 : left = 0
      · subst h0
        rw [pr_done, pr_done]
        simp only [cutAt, Option.bind_some]
        rw [if_pos (by omega), Nat.add_sub_cancel_left]
      · by_cases hv : pos + vk left ≤ K
        · have e := H pos (vk left) hv
          have ew : wof N' pos left = wof N (s + pos) left := by unfold wof; rw [e]
          by_cases hw : pos + wof N (s + pos) left ≤ K
          · have ev : vof N' pos left = vof N (s + pos) left := by
              unfold vof
              rw [e]
              by_cases hf : rdb N (s + pos) (vk left) < vfew left
              · rw [if_pos hf, if_pos hf]
              · have e2 : wof N (s + pos) left = vk left + 1 := by unfold wof; rw [if_neg hf]
                rw [e2] at hw
                rw [H pos (vk left + 1) (by omega)]
            have hwp := wof_pos N (s + pos) h0
            by_cases hS : S ≤ out.length
            · rw [pr_bad h0 (.inr hS), pr_bad h0 (.inr hS), cutAt_none]
            · rw [pr_step h0 (by rw [ew]; exact hw) (by omega), pr_step h0 (by omega) (by omega), ev, ew, ih _ _ _ _ (by omega) hw, Nat.add_assoc]
          · rw [pr_bad h0 (.inl (by rw [ew]; omega))]
            by_cases h2 : T < s + pos + wof N (s + pos) left ∨ S ≤ out.length
            · rw [pr_bad h0 h2, cutAt_none]
            · rw [pr_step h0 (by omega) (by omega)]
              exact (cutAt_late (fun ps e he => pr_pos _ _ _ _ _ _ _ (Nat.lt_succ_self _) he) (by omega)).symm
        · have w1 : vk left ≤ wof N' pos left := by unfold wof; split <;> omega
          have w2 : vk left ≤ wof N (s + pos) left := by unfold wof; split <;> omega
          rw [pr_bad h0 (.inl (by omega))]
          by_cases h2 : T < s + pos + wof N (s + pos) left ∨ S ≤ out.length
          · rw [pr_bad h0 h2, cutAt_none]
          · rw [pr_step h0 (by omega) (by omega)]
            exact (cutAt_late (fun ps e he => pr_pos _ _ _ _ _ _ _ (Nat.lt_succ_self _) he) (by omega)).symm

theorem desc_window {N' N s K T S M : Nat} (H : ∀ pos n, pos + n ≤ K → rdb N' pos n = rdb N (s + pos) n) (hK : s + K ≤ T) (L : Nat) (ps : List Int) (e : Nat) :
    desc N' K S M 0 = some (L, ps, e) ↔ desc N T S M s = some (L, ps, s + e) ∧ e ≤ K := by
  unfold desc
  by_cases h4 : K < 4
  · rw [if_pos (.inl (by omega))]
    constructor
    · intro h; cases h
    · rintro ⟨h, he⟩
      split at h
      · cases h
      · obtain ⟨⟨qs, e'⟩, h1, h2⟩ := Option.map_eq_some_iff.1 h
        have := pr_pos _ _ _ _ _ _ _ (Nat.lt_succ_self _) h1
        simp only [Prod.mk.injEq] at h2
        omega
  · have e4 := H 0 4 (by omega)
    rw [Nat.add_zero] at e4
    rw [e4]
    by_cases hM : M < rdb N s 4 + 5
    · rw [if_pos (.inr hM), if_pos (.inr hM)]
      constructor
      · intro h; cases h
      · rintro ⟨h, _⟩; cases h
    · rw [if_neg (by omega), if_neg (by omega), Nat.zero_add, pr_window H hK _ _ 4 _ _ (Nat.lt_succ_self _) (by omega)]
      cases hp : pr N T S false (s + 4) (2 ^ (rdb N s 4 + 5)) [] with
      | none => simp [cutAt]
      | some x =>
        have := pr_pos _ _ _ _ _ x.1 x.2 (Nat.lt_succ_self _) hp
        simp only [cutAt, Option.bind_some, Option.map_some]
        by_cases hx : x.2 ≤ s + K
        · rw [if_pos hx]
          simp only [Option.map_some, Option.some.injEq, Prod.mk.injEq]
          constructor
          · rintro ⟨rfl, rfl, rfl⟩
            exact ⟨⟨rfl, rfl, by omega⟩, by omega⟩
          · rintro ⟨⟨rfl, rfl, h⟩, _⟩
            exact ⟨rfl, rfl, by omega⟩
        · rw [if_neg hx]
          simp only [Option.map_none, Option.some.injEq, Prod.mk.injEq]
          constructor
          · intro h; cases h
          · rintro ⟨⟨rfl, rfl, h⟩, _⟩
            omega

/-- A window of bytes. -/
theorem rdb_window {ds : List Nat} (hd : Bytes ds) {o h pos n : Nat} (hf : pos + n ≤ 8 * h) : rdb (num ((ds.drop o).take h)) pos n = rdb (num ds) (8 * o + pos) n := by
  by_cases hl : h ≤ (ds.drop o).length
  · have hd2 : Bytes (ds.drop o) := fun x hx => hd x (List.mem_of_mem_drop hx)
    have hd3 : Bytes ((ds.drop o).take h) := fun x hx => hd2 x (List.mem_of_mem_take hx)
    have e1 : num (ds.drop o) = num ((ds.drop o).take h) + num ((ds.drop o).drop h) * 2 ^ (8 * h) := by
      have := num_append ((ds.drop o).take h) ((ds.drop o).drop h)
      rw [List.take_append_drop, List.length_take, Nat.min_eq_left hl] at this
      exact this
    have e2 : num ((ds.drop o).take h) < 2 ^ (8 * h) := by
      have := num_lt hd3
      rwa [List.length_take, Nat.min_eq_left hl] at this
    have e3 : num (ds.drop o) % 2 ^ (8 * h) = num ((ds.drop o).take h) := by rw [e1, Nat.add_mul_mod_self_right, Nat.mod_eq_of_lt e2]
    unfold rdb
    rw [← e3, mod_pow_div (by omega), mod_pow_mod (by omega), ← num_drop hd, div_pow_div]
  · rw [List.take_of_length_le (by omega), ← num_drop hd]
    unfold rdb
    rw [div_pow_div]

/-- Weights by turns, read out of other numbers. -/
theorem wts_window {N' N s K : Nat} (H : ∀ pos n, pos + n ≤ K → rdb N' pos n = rdb N (s + pos) n) {L n : Nat} (hL : L ≤ K) (hn : n ≤ L) : N' / 2 ^ (L - n) % 2 ^ n = N / 2 ^ (s + L - n) % 2 ^ n := by
  have := H (L - n) n (by omega)
  unfold rdb at this
  rw [this]
  congr 3
  omega

/-- How a description that tells a tree begins. -/
theorem treeS_some {ds al : List Nat} {m q : Nat} (h : treeS ds = some (al, m, q)) : ds ≠ [] ∧ q = 1 + bodyOf (ds.getD 0 0) ∧ q ≤ ds.length ∧ ∃ ws, wtsIn ds = some ws ∧ treeP ws = some (al, m) := by
  unfold treeS at h
  split at h
  · cases h
  · split at h
    · cases h
    · obtain ⟨ws, h1, h2⟩ := Option.bind_eq_some_iff.1 h
      obtain ⟨⟨al', m'⟩, h3, h4⟩ := Option.map_eq_some_iff.1 h2
      simp only [Prod.mk.injEq] at h4
      obtain ⟨rfl, rfl, rfl⟩ := h4
      refine ⟨?_, rfl, by omega, ws, h1, h3⟩
      rintro rfl
      simp at *
theorem treeS_of {ds al ws : List Nat} {m : Nat} (h0 : 1 + bodyOf (ds.getD 0 0) ≤ ds.length) (h1 : wtsIn ds = some ws) (h2 : treeP ws = some (al, m)) : treeS ds = some (al, m, 1 + bodyOf (ds.getD 0 0)) := by
  unfold treeS
  rw [if_neg (by omega), if_neg (by omega), h1]
  simp [h2]

/-- The weight 1 comes as often as it must. -/
theorem one_even {al : List Nat} {m : Nat} (hs : wsum al = 2 ^ m) (hm : 1 ≤ m) : al.count 1 % 2 = 0 := by
  have h : ∀ l : List Nat, wsum l % 2 = l.count 1 % 2 := by
    intro l
    induction l with
    | nil => rfl
    | cons x r ih =>
      have e : wsum (x :: r) = wc x + wsum r := by simp [wsum]
      rw [e, List.count_cons]
      rcases Nat.eq_zero_or_pos x with h0 | h0
      · subst h0
        simp [wc_zero, ih]
      · obtain ⟨v, rfl⟩ : ∃ v, x = v + 1 := ⟨x - 1, by omega⟩
        rw [wc_succ]
        cases v with
        | zero => simp; omega
        | succ u =>
          have : ¬ u + 1 + 1 = 1 := by omega
          rw [Nat.pow_succ]
          simp only [beq_iff_eq, if_neg this]
          omega
  rw [← h, hs]
  obtain ⟨v, rfl⟩ : ∃ v, m = v + 1 := ⟨m - 1, by omega⟩
  rw [Nat.pow_succ]
  omega
end Go.Proofs.YtabaholflahepaaDoor
