/-
  Plain law: the description of an FSE table, shares told bit by bit.
-/
import Derived.Test.YtabaholflahepaaDoorCells
import Derived.Test.YtabaholflahepaaDoorCopies
import Derived.Test.YtabaholflahepaaDoorShares
import Derived.Test.YtabaholflahepaaDoorLow
namespace Go.Proofs.YtabaholflahepaaDoor

/-- n bits of N from bit pos on. -/
def rdb (N pos n : Nat) : Nat := N / 2 ^ pos % 2 ^ n
theorem rdb_lt (N pos n : Nat) : rdb N pos n < 2 ^ n := Nat.mod_lt _ (pow_pos' _)
theorem rdb_succ (N pos n : Nat) : rdb N pos (n + 1) = rdb N pos n + 2 ^ n * rdb N (pos + n) 1 := by
  unfold rdb
  rw [mod_pow_add, div_pow_div]
theorem rdb_mod (N pos : Nat) {a b : Nat} (h : b ≤ a) : rdb N pos a % 2 ^ b = rdb N pos b := mod_pow_mod h
theorem rdb_div (N pos : Nat) {a b : Nat} (h : b ≤ a) : rdb N pos a / 2 ^ b = rdb N (pos + b) (a - b) := by
  unfold rdb
  rw [mod_pow_div h, div_pow_div]

/-- A value from 0 to left + 1: the bits of a small one. -/
def vk (left : Nat) : Nat := Nat.log2 (left + 1)
/-- How many values are small. -/
def vfew (left : Nat) : Nat := 2 ^ (vk left + 1) - 2 - left
def vof (N pos left : Nat) : Nat :=
  if rdb N pos (vk left) < vfew left then rdb N pos (vk left)
  else if 2 ^ vk left ≤ rdb N pos (vk left + 1) then rdb N pos (vk left + 1) - vfew left else rdb N pos (vk left + 1)
def wof (N pos left : Nat) : Nat := if rdb N pos (vk left) < vfew left then vk left else vk left + 1
theorem vk_low (left : Nat) : 2 ^ vk left ≤ left + 1 := Nat.log2_self_le (by omega)
theorem vk_high (left : Nat) : left + 1 < 2 ^ (vk left + 1) := Nat.lt_log2_self
theorem vk_eq {left k : Nat} (h1 : 2 ^ k ≤ left + 1) (h2 : left + 1 < 2 ^ (k + 1)) : vk left = k := by
  have h3 := vk_low left
  have h4 := vk_high left
  have h5 : vk left < k + 1 := (Nat.pow_lt_pow_iff_right (a := 2) (by decide)).1 (Nat.lt_of_le_of_lt h3 h2)
  have h6 : k < vk left + 1 := (Nat.pow_lt_pow_iff_right (a := 2) (by decide)).1 (Nat.lt_of_le_of_lt h1 h4)
  omega
theorem vk_pos {left : Nat} (h : left ≠ 0) : 0 < vk left := by
  rcases Nat.eq_zero_or_pos (vk left) with h0 | h0
  · have := vk_high left
    rw [h0] at this
    simp at this
    omega
  · exact h0
theorem wof_pos (N pos : Nat) {left : Nat} (h : left ≠ 0) : 0 < wof N pos left := by
  have := vk_pos h
  unfold wof
  split <;> omega
theorem wof_le (N pos left : Nat) : wof N pos left ≤ vk left + 1 := by unfold wof; split <;> omega
theorem vof_le (N pos left : Nat) : vof N pos left ≤ left + 1 := by
  have h1 := vk_low left
  have h2 := vk_high left
  have h3 := rdb_lt N pos (vk left)
  have h4 := rdb_lt N pos (vk left + 1)
  unfold vof vfew
  rw [Nat.pow_succ] at *
  split
  · omega
  · split <;> omega

/-- The shares behind bit pos: left of them are not told yet; z: behind a share of 0 it is told how many more there are. -/
def pr (N T S : Nat) (z : Bool) (pos left : Nat) (out : List Int) : Option (List Int × Nat) :=
  match z with
  | true =>
    if _h : T < pos + 2 ∨ S < out.length + rdb N pos 2 then none
    else pr N T S (rdb N pos 2 == 3) (pos + 2) left (out ++ List.replicate (rdb N pos 2) 0)
  | false =>
    if _h0 : left = 0 then some (out, pos)
    else if _h : T < pos + wof N pos left ∨ S ≤ out.length then none
    else pr N T S (vof N pos left == 1) (pos + wof N pos left) (left - ((vof N pos left : Int) - 1).natAbs) (out ++ [(vof N pos left : Int) - 1])
termination_by T - pos
decreasing_by
  · omega
  · have := wof_pos N pos _h0
    omega

section
variable {N T S pos left : Nat} {out : List Int}
theorem pr_zeros_bad (h : T < pos + 2 ∨ S < out.length + rdb N pos 2) : pr N T S true pos left out = none := by rw [pr]; simp only [dif_pos h]
theorem pr_zeros (h1 : pos + 2 ≤ T) (h2 : out.length + rdb N pos 2 ≤ S) : pr N T S true pos left out = pr N T S (rdb N pos 2 == 3) (pos + 2) left (out ++ List.replicate (rdb N pos 2) 0) := by
  rw [pr]; simp only [dif_neg (show ¬ (T < pos + 2 ∨ S < out.length + rdb N pos 2) by omega)]
theorem pr_done : pr N T S false pos 0 out = some (out, pos) := by rw [pr]; simp
theorem pr_bad (h0 : left ≠ 0) (h : T < pos + wof N pos left ∨ S ≤ out.length) : pr N T S false pos left out = none := by rw [pr]; simp only [dif_neg h0, dif_pos h]
theorem pr_step (h0 : left ≠ 0) (h1 : pos + wof N pos left ≤ T) (h2 : out.length < S) :
    pr N T S false pos left out = pr N T S (vof N pos left == 1) (pos + wof N pos left) (left - ((vof N pos left : Int) - 1).natAbs) (out ++ [(vof N pos left : Int) - 1]) := by
  rw [pr]; simp only [dif_neg h0, dif_neg (show ¬ (T < pos + wof N pos left ∨ S ≤ out.length) by omega)]
end

theorem Going.zeros {L left : Nat} {out : List Int} (h : Going L out left) (hl : 0 < left) : ∀ n, Going L (out ++ List.replicate n 0) left
  | 0 => by simpa using h
  | n + 1 => by
    have h1 := (Going.zeros h hl n).push hl (p := 0) (by decide) (by omega)
    rw [List.replicate_succ', ← List.append_assoc]
    simpa using h1

/-- What is told adds up. -/
theorem pr_some {N T S L : Nat} : ∀ (n : Nat) (z : Bool) (pos left : Nat) (out ps : List Int) (e : Nat), T - pos < n → pr N T S z pos left out = some (ps, e) → pos ≤ T → out.length ≤ S → (z = true → 0 < left) → Going L out left →
    Going L ps 0 ∧ ps.length ≤ S ∧ pos ≤ e ∧ e ≤ T := by
  intro n
  induction n with
  | zero => intro z pos left out ps e h; omega
  | succ n ih =>
    intro z pos left out ps e hn he hp ho hz hg
    cases z with
    | true =>
      by_cases h : T < pos + 2 ∨ S < out.length + rdb N pos 2
      · rw [pr_zeros_bad h] at he; cases he
      · rw [pr_zeros (by omega) (by omega)] at he
        have h1 := ih _ _ _ _ _ _ (by omega) he (by omega) (by simp; omega) (fun _ => hz rfl) (hg.zeros (hz rfl) _)
        exact ⟨h1.1, h1.2.1, by omega, h1.2.2.2⟩
    | false =>
      by_cases h0 : left = 0
      · subst h0
        rw [pr_done] at he
        simp only [Option.some.injEq, Prod.mk.injEq] at he
        obtain ⟨rfl, rfl⟩ := he
        exact ⟨hg, ho, Nat.le_refl _, hp⟩
      · by_cases h : T < pos + wof N pos left ∨ S ≤ out.length
        · rw [pr_bad h0 h] at he; cases he
        · have hw := wof_pos N pos h0
          have hv := vof_le N pos left
          rw [pr_step h0 (by omega) (by omega)] at he
          have h1 := ih _ _ _ _ _ _ (by omega) he (by omega) (by simp; omega) (fun hv1 => by simp at hv1; rw [hv1]; simp; omega) (hg.push (by omega) (by omega) (by omega))
          exact ⟨h1.1, h1.2.1, by omega, h1.2.2.2⟩

/-- A description behind bit pos: how many bits a state has, the shares, where it ends. -/
def desc (N T S M pos : Nat) : Option (Nat × List Int × Nat) :=
  if T < pos + 4 ∨ M < rdb N pos 4 + 5 then none
  else (pr N T S false (pos + 4) (2 ^ (rdb N pos 4 + 5)) []).map fun x => (rdb N pos 4 + 5, x.1, x.2)

theorem Going.start (L : Nat) : Going L [] (2 ^ L) := ⟨by simp, by simp [tot], by simp⟩
theorem Going.shares {L : Nat} {ps : List Int} (h : Going L ps 0) (h5 : 5 ≤ L) (h9 : L ≤ 9) : IsShares L ps :=
  ⟨h5, h9, h.least, (tot_expand ps 0 h.least).trans (by have := h.sum; omega)⟩
theorem desc_some {N T S M pos L e : Nat} {ps : List Int} (h : desc N T S M pos = some (L, ps, e)) (hM : M ≤ 9) :
    pos + 4 ≤ T ∧ L = rdb N pos 4 + 5 ∧ L ≤ M ∧ pr N T S false (pos + 4) (2 ^ L) [] = some (ps, e) ∧ Going L ps 0 ∧ IsShares L ps ∧ ps.length ≤ S ∧ pos + 4 ≤ e ∧ e ≤ T := by
  unfold desc at h
  split at h
  · cases h
  · rename_i hc
    obtain ⟨⟨qs, e'⟩, h1, h2⟩ := Option.map_eq_some_iff.1 h
    simp only [Prod.mk.injEq] at h2
    obtain ⟨rfl, rfl, rfl⟩ := h2
    have h3 := pr_some _ _ _ _ _ _ _ (Nat.lt_succ_self _) h1 (by omega) (by simp) (by simp) (Going.start _)
    exact ⟨by omega, rfl, by omega, h1, h3.1, h3.1.shares (by omega) (by omega), h3.2.1, h3.2.2.1, h3.2.2.2⟩
end Go.Proofs.YtabaholflahepaaDoor
