/-
  Plain law for readFSE: runs of shares of 0, shares of 0 behind the last one, the array of shares, words of bits.
-/
import Derived.Test.YtabaholflahepaaDoorProb
import Derived.Test.YtabaholflahepaaDoorBuild
namespace Go.Proofs.YtabaholflahepaaDoor

/-- Where a description goes on to, it ends no earlier. -/
def Late (T pos : Nat) (Rr : Option (List Int × Nat)) : Prop := ∀ ps e, Rr = some (ps, e) → pos ≤ e ∧ e ≤ T
theorem late {N T S L pos left : Nat} {z : Bool} {out : List Int} {Rr : Option (List Int × Nat)} (h : pr N T S z pos left out = Rr) (hp : pos ≤ T) (ho : out.length ≤ S) (hz : z = true → 0 < left) (hg : Going L out left) : Late T pos Rr := by
  intro ps e he
  have := pr_some _ _ _ _ _ _ _ (Nat.lt_succ_self _) (h.trans he) hp ho hz hg
  exact this.2.2
theorem Late.none {T pos : Nat} : Late T pos none := by intro ps e h; cases h

/-- In a run of shares of 0: zs of them were counted. -/
def AtZ (N T S : Nat) (Rr : Option (List Int × Nat)) (left : Nat) (out : List Int) (pos zs : Nat) : Prop :=
  (out.length + zs ≤ S ∧ pr N T S true pos left (out ++ List.replicate zs 0) = Rr) ∨ (S < out.length + zs ∧ Rr = none)
section
variable {N T S L left pos zs : Nat} {out : List Int} {Rr : Option (List Int × Nat)}
theorem AtZ.start (h : pr N T S true pos left out = Rr) (ho : out.length ≤ S) : AtZ N T S Rr left out pos 0 := .inl ⟨ho, by simpa using h⟩
theorem AtZ.three (h : AtZ N T S Rr left out pos zs) (hr : rdb N pos 2 = 3) (hT : pos + 2 ≤ T) : AtZ N T S Rr left out (pos + 2) (zs + 3) := by
  rcases h with ⟨h1, h2⟩ | ⟨h1, h2⟩
  · by_cases hs : out.length + (zs + 3) ≤ S
    · refine .inl ⟨hs, ?_⟩
      rw [← h2, pr_zeros hT (by rw [hr]; simp; omega), hr, List.append_assoc, List.replicate_append_replicate]
      rfl
    · refine .inr ⟨by omega, ?_⟩
      rw [← h2, pr_zeros_bad (.inr (by rw [hr]; simp; omega))]
  · exact .inr ⟨by omega, h2⟩
theorem two_of {b k : Nat} (hr : rdb N pos b = 2 ^ b - 1) (hk : k + 2 ≤ b) : rdb N (pos + k) 2 = 3 := by
  have e1 := rdb_div N pos (show k ≤ b by omega)
  have e2 := rdb_mod N (pos + k) (show 2 ≤ b - k by omega)
  rw [← e2, ← e1, hr]
  obtain ⟨d, rfl⟩ : ∃ d, b = k + (2 + d) := ⟨b - k - 2, by omega⟩
  have hp := pow_pos' k
  have hp2 := pow_pos' d
  have e3 : (2 ^ (k + (2 + d)) - 1) / 2 ^ k = 2 ^ (2 + d) - 1 := by
    rw [Nat.pow_add]
    have : 2 ^ k * 2 ^ (2 + d) - 1 = 2 ^ k * (2 ^ (2 + d) - 1) + (2 ^ k - 1) := by
      rw [Nat.mul_sub, Nat.mul_one]
      have : 2 ^ k ≤ 2 ^ k * 2 ^ (2 + d) := Nat.le_mul_of_pos_right _ (pow_pos' _)
      omega
    rw [this, Nat.mul_add_div hp, Nat.div_eq_of_lt (by omega), Nat.add_zero]
  rw [e3, Nat.pow_add]
  omega
theorem AtZ.six (h : AtZ N T S Rr left out pos zs) (hr : rdb N pos 12 = 4095) (hT : pos + 12 ≤ T) : AtZ N T S Rr left out (pos + 12) (zs + 18) := by
  have h0 := two_of (k := 0) (b := 12) hr (by decide)
  have h1 := two_of (k := 2) (b := 12) hr (by decide)
  have h2 := two_of (k := 4) (b := 12) hr (by decide)
  have h3 := two_of (k := 6) (b := 12) hr (by decide)
  have h4 := two_of (k := 8) (b := 12) hr (by decide)
  have h5 := two_of (k := 10) (b := 12) hr (by decide)
  exact (((((h.three h0 (by omega)).three h1 (by omega)).three h2 (by omega)).three h3 (by omega)).three h4 (by omega)).three h5 (by omega)
theorem AtZ.stop (h : AtZ N T S Rr left out pos zs) {n : Nat} (hn : n = rdb N pos 2) (h3 : n ≠ 3) (hT : pos + 2 ≤ T) (hl : 0 < left) :
    (out.length + zs + n < S → pr N T S false (pos + 2) left (out ++ List.replicate (zs + n) 0) = Rr) ∧ (S ≤ out.length + zs + n → Rr = none) := by
  subst hn
  have hb : (rdb N pos 2 == 3) = false := beq_eq_false_iff_ne.2 h3
  rcases h with ⟨h1, h2⟩ | ⟨h1, h2⟩
  · refine ⟨fun hs => ?_, fun hs => ?_⟩
    · rw [← h2, pr_zeros hT (by simp; omega), hb, List.append_assoc, List.replicate_append_replicate]
    · rw [← h2]
      by_cases he : out.length + zs + rdb N pos 2 = S
      · rw [pr_zeros hT (by simp; omega), hb, pr_bad (by omega) (.inr (by simp; omega))]
      · rw [pr_zeros_bad (.inr (by simp; omega))]
  · exact ⟨fun hs => by omega, fun _ => h2⟩
theorem AtZ.late (h : AtZ N T S Rr left out pos zs) (hp : pos ≤ T) (hl : 0 < left) (hg : Going L out left) : Late T pos Rr := by
  rcases h with ⟨h1, h2⟩ | ⟨_, h2⟩
  · exact Go.Proofs.YtabaholflahepaaDoor.late h2 hp (by simp; omega) (fun _ => hl) (hg.zeros hl zs)
  · rw [h2]; exact Late.none
end

theorem pr_full {N T S pos left : Nat} {out : List Int} (z : Bool) (h0 : left ≠ 0) (h : S ≤ out.length) : pr N T S z pos left out = none := by
  cases z with
  | false => exact pr_bad h0 (.inr h)
  | true =>
    by_cases h2 : T < pos + 2 ∨ S < out.length + rdb N pos 2
    · exact pr_zeros_bad h2
    · have hz : rdb N pos 2 = 0 := by omega
      rw [pr_zeros (by omega) (by omega), hz]
      exact pr_bad h0 (.inr (by simpa using h))
/-- The array of shares: 256 of them. -/
def normOf (out : List Int) : List Int := out ++ List.replicate (256 - out.length) 0
theorem i16s_set (l : List Int) (i : Nat) (p : Int) : (i16s l).set i (.int .i16 p) = i16s (l.set i p) := by simp [i16s, List.map_set]
theorem norm_cell {w : World} {b : Nat} {t : TypeId} {out : List Int} (h : Blk w b t (i16s (normOf out))) (hl : out.length ≤ 256) {j : Nat} (hj : j < 256) : ∃ u, w.cell? ⟨b, j, none⟩ = some u := by
  have hn : (normOf out).length = 256 := by simp [normOf]; omega
  exact ⟨_, (h.cell j).trans (i16s_at (by rw [hn]; exact hj))⟩
theorem normOf_length {out : List Int} (h : out.length ≤ 256) : (normOf out).length = 256 := by simp [normOf]; omega
theorem normOf_push {out : List Int} (h : out.length < 256) (p : Int) : (normOf out).set out.length p = normOf (out ++ [p]) := by
  unfold normOf
  rw [List.set_append_right _ _ (Nat.le_refl _), Nat.sub_self, show 256 - out.length = (255 - out.length) + 1 by omega, List.replicate_succ, List.set_cons_zero, List.length_append]
  simp [show 256 - (out.length + 1) = 255 - out.length by omega]
theorem norm_set {w : World} {b : Nat} {t : TypeId} {out : List Int} (h : Blk w b t (i16s (normOf out))) {j : Nat} (hj : out.length = j) (hl : j < 256) (p : Int) : Blk (w.setCell ⟨b, j, none⟩ (.int .i16 p)) b t (i16s (normOf (out ++ [p]))) := by
  subst hj
  refine Blk.cast (h.set _ _) ?_
  rw [i16s_set, normOf_push hl]
theorem normOf_take {out : List Int} {S : Nat} (h1 : out.length = S) : (normOf out).take S = out := by
  unfold normOf
  rw [← h1, List.take_left]

/-- Shares of 0 behind the last one change nothing. -/
theorem expand_zeros : ∀ (n s : Nat), expand s (List.replicate n 0) = []
  | 0, _ => rfl
  | n + 1, s => by rw [List.replicate_succ, expand, expand_zeros n]; rfl
theorem lows_zeros : ∀ (n s : Nat), lows s (List.replicate n 0) = []
  | 0, _ => rfl
  | n + 1, s => by rw [List.replicate_succ, lows, lows_zeros n]; rfl
theorem getD_zeros (ps : List Int) (n i : Nat) : (ps ++ List.replicate n 0).getD i 0 = ps.getD i 0 := by
  rw [List.getD_eq_getElem?_getD, List.getD_eq_getElem?_getD]
  by_cases h : i < ps.length
  · rw [List.getElem?_append_left h]
  · rw [List.getElem?_append_right (by omega), List.getElem?_eq_none (l := ps) (by omega)]
    by_cases h2 : i - ps.length < n
    · simp [h2]
    · simp [h2]
theorem tab_zeros (L : Nat) (ps : List Int) (n : Nat) : tab L (ps ++ List.replicate n 0) = tab L ps := by
  have e1 : expand 0 (ps ++ List.replicate n 0) = expand 0 ps := by rw [expand_append, expand_zeros, List.append_nil]
  have e2 : lows 0 (ps ++ List.replicate n 0) = lows 0 ps := by rw [lows_append, lows_zeros, List.append_nil]
  have e3 : highOf (ps ++ List.replicate n 0) = highOf ps := by unfold highOf; rw [e1]
  have e4 : symAt L (ps ++ List.replicate n 0) = symAt L ps := by funext x; unfold symAt; rw [e1, e2, e3]
  have e5 : syms L (ps ++ List.replicate n 0) = syms L ps := by unfold syms; rw [e4]
  have e6 : numAt L (ps ++ List.replicate n 0) = numAt L ps := by funext x; unfold numAt; rw [e3, e4, e5, getD_zeros]
  have e7 : cellAt L (ps ++ List.replicate n 0) = cellAt L ps := by funext x; unfold cellAt; rw [e4, e6]
  unfold tab
  rw [e7]
theorem IsShares.zeros {L : Nat} {ps : List Int} (h : IsShares L ps) (n : Nat) : IsShares L (ps ++ List.replicate n 0) := by
  refine ⟨h.five, h.nine, fun p hp => ?_, ?_⟩
  · rcases List.mem_append.1 hp with hp | hp
    · exact h.least p hp
    · rw [List.mem_replicate] at hp; omega
  · rw [expand_append, expand_zeros, List.append_nil, lows_append, lows_zeros, List.append_nil]
    exact h.sum

/-- How a value of a share is read off the bits at hand. -/
theorem val_read {N pos left t m b : Nat} (ht : t = 2 ^ vk left) (hm : m + left + 2 = 2 * t) (hb : b % (2 * t) = rdb N pos (vk left + 1)) :
    (b % t < m → vof N pos left = b % t ∧ wof N pos left = vk left) ∧
    (m ≤ b % t → b % (2 * t) < t → vof N pos left = b % (2 * t) ∧ wof N pos left = vk left + 1) ∧
    (m ≤ b % t → t ≤ b % (2 * t) → vof N pos left = b % (2 * t) - m ∧ wof N pos left = vk left + 1) := by
  have e2 : m = vfew left := by
    have h2 := vk_high left
    unfold vfew
    rw [Nat.pow_succ] at *
    omega
  have e1 : b % t = rdb N pos (vk left) := by
    rw [← rdb_mod N pos (Nat.le_succ (vk left)), ← hb, ← ht]
    exact (Nat.mod_mul_left_mod b 2 t).symm
  rw [e1, hb, ht]
  subst e2
  unfold vof wof
  refine ⟨fun h => ?_, fun h h2 => ?_, fun h h2 => ?_⟩
  · rw [if_pos h, if_pos h]; exact ⟨rfl, rfl⟩
  · have hns : ¬ rdb N pos (vk left) < vfew left := by omega
    rw [if_neg hns, if_neg hns, if_neg (by omega)]; exact ⟨rfl, rfl⟩
  · have hns : ¬ rdb N pos (vk left) < vfew left := by omega
    rw [if_neg hns, if_neg hns, if_pos (by omega)]; exact ⟨rfl, rfl⟩
theorem vfew_sum (left : Nat) : vfew left + left + 2 = 2 * 2 ^ vk left := by
  have h2 := vk_high left
  unfold vfew
  rw [Nat.pow_succ] at *
  omega
theorem vk_mono {a b : Nat} (h : a ≤ b) : vk a ≤ vk b := by
  have h1 := vk_low a
  have h2 := vk_high b
  have : vk a < vk b + 1 := (Nat.pow_lt_pow_iff_right (a := 2) (by decide)).1 (by omega)
  omega
end Go.Proofs.YtabaholflahepaaDoor
