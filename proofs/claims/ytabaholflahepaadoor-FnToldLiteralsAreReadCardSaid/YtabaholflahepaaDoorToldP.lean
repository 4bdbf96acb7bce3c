/-
  Plain law: shares that are told bit by bit are read as these shares.
-/
import Derived.Test.YtabaholflahepaaDoorProb
namespace Go.Proofs.YtabaholflahepaaDoor

/-- Fields of bits, the first one lowest: as one number, and how many bits. -/
def fnum : List (Nat × Nat) → Nat
  | [] => 0
  | x :: r => x.1 + 2 ^ x.2 * fnum r
def flen (l : List (Nat × Nat)) : Nat := (l.map (·.2)).sum
@[simp] theorem flen_nil : flen [] = 0 := rfl
@[simp] theorem flen_cons (x : Nat × Nat) (r : List (Nat × Nat)) : flen (x :: r) = x.2 + flen r := by simp [flen]
theorem flen_append (a b : List (Nat × Nat)) : flen (a ++ b) = flen a + flen b := by simp [flen]
def Fits (l : List (Nat × Nat)) : Prop := ∀ x ∈ l, x.1 < 2 ^ x.2
theorem fnum_lt : ∀ {l : List (Nat × Nat)}, Fits l → fnum l < 2 ^ flen l
  | [], _ => by simp [fnum]
  | x :: r, h => by
    have h1 := h x (List.mem_cons_self ..)
    have h2 := fnum_lt fun y hy => h y (List.mem_cons_of_mem _ hy)
    rw [fnum, flen_cons, Nat.pow_add]
    calc x.1 + 2 ^ x.2 * fnum r < 2 ^ x.2 + 2 ^ x.2 * fnum r := by omega
      _ = 2 ^ x.2 * (fnum r + 1) := by rw [Nat.mul_add, Nat.mul_one, Nat.add_comm]
      _ ≤ _ := Nat.mul_le_mul_left _ h2
theorem fnum_append : ∀ (a b : List (Nat × Nat)), fnum (a ++ b) = fnum a + 2 ^ flen a * fnum b
  | [], b => by simp [fnum]
  | x :: r, b => by
    rw [List.cons_append, fnum, fnum, fnum_append r b, flen_cons, Nat.pow_add, Nat.mul_add, Nat.mul_assoc, Nat.add_assoc]
/-- N has these fields from bit pos on. -/
def Has (N : Nat) : Nat → List (Nat × Nat) → Prop
  | _, [] => True
  | pos, x :: r => rdb N pos x.2 = x.1 ∧ Has N (pos + x.2) r
theorem has_of {N : Nat} : ∀ (l : List (Nat × Nat)) (pos : Nat), Fits l → N / 2 ^ pos % 2 ^ flen l = fnum l → Has N pos l
  | [], _, _, _ => trivial
  | x :: r, pos, h, e => by
    have h1 := h x (List.mem_cons_self ..)
    rw [flen_cons, mod_pow_add, fnum] at e
    have h3 : N / 2 ^ pos % 2 ^ x.2 < 2 ^ x.2 := Nat.mod_lt _ (pow_pos' _)
    have e1 : N / 2 ^ pos % 2 ^ x.2 = x.1 := by
      have := congrArg (· % 2 ^ x.2) e
      simpa [Nat.add_mul_mod_self_left, Nat.mod_eq_of_lt h1] using this
    refine ⟨e1, has_of r _ (fun y hy => h y (List.mem_cons_of_mem _ hy)) ?_⟩
    rw [e1] at e
    have e2 : 2 ^ x.2 * (N / 2 ^ pos / 2 ^ x.2 % 2 ^ flen r) = 2 ^ x.2 * fnum r := by omega
    have e3 := Nat.eq_of_mul_eq_mul_left (pow_pos' x.2) e2
    rwa [div_pow_div] at e3

/-- How a share is told where left are not told yet. -/
def codeV (left : Nat) (p : Int) : Nat × Nat :=
  if (p + 1).toNat < vfew left then ((p + 1).toNat, vk left)
  else if (p + 1).toNat < 2 ^ vk left then ((p + 1).toNat, vk left + 1)
  else ((p + 1).toNat + vfew left, vk left + 1)
theorem vfew_eq (left : Nat) : vfew left + left + 2 = 2 * 2 ^ vk left := by
  have h2 := vk_high left
  unfold vfew
  rw [Nat.pow_succ] at *
  omega
theorem codeV_fits {left : Nat} {p : Int} (h2 : p ≤ left) : (codeV left p).1 < 2 ^ (codeV left p).2 := by
  have h3 := vfew_eq left
  have h4 := vk_low left
  unfold codeV
  split
  · show (p + 1).toNat < 2 ^ vk left
    omega
  · split
    · show (p + 1).toNat < 2 ^ (vk left + 1)
      rw [Nat.pow_succ]; omega
    · show (p + 1).toNat + vfew left < 2 ^ (vk left + 1)
      rw [Nat.pow_succ]; omega
theorem codeV_read {N pos left : Nat} {p : Int} (_h1 : -1 ≤ p) (h2 : p ≤ left) (h : rdb N pos (codeV left p).2 = (codeV left p).1) : vof N pos left = (p + 1).toNat ∧ wof N pos left = (codeV left p).2 := by
  have h3 := vfew_eq left
  have h4 := vk_low left
  unfold codeV at h ⊢
  split at h
  · rename_i hs
    rw [if_pos hs]
    simp only at h ⊢
    unfold vof wof
    rw [h, if_pos hs, if_pos hs]
    exact ⟨rfl, rfl⟩
  · rename_i hs
    rw [if_neg hs]
    split at h
    · rename_i hm
      rw [if_pos hm]
      simp only at h ⊢
      have e : rdb N pos (vk left) = (p + 1).toNat := by
        rw [← rdb_mod N pos (Nat.le_succ (vk left)), h, Nat.mod_eq_of_lt hm]
      unfold vof wof
      rw [e, if_neg hs, if_neg hs, h, if_neg (by omega)]
      exact ⟨rfl, rfl⟩
    · rename_i hm
      rw [if_neg hm]
      simp only at h ⊢
      have e : rdb N pos (vk left) = (p + 1).toNat + vfew left - 2 ^ vk left := by
        rw [← rdb_mod N pos (Nat.le_succ (vk left)), h, Nat.mod_eq_sub_mod (by omega), Nat.mod_eq_of_lt (by omega)]
      have hns : ¬ (p + 1).toNat + vfew left - 2 ^ vk left < vfew left := by omega
      unfold vof wof
      rw [e, if_neg hns, if_neg hns, h, if_pos (by omega), Nat.add_sub_cancel]
      exact ⟨rfl, rfl⟩

/-- How many shares of 0 come first. -/
def lead : List Int → Nat
  | [] => 0
  | p :: r => if p = 0 then lead r + 1 else 0
theorem lead_le : ∀ (l : List Int), lead l ≤ l.length
  | [] => Nat.le_refl _
  | p :: r => by
    have := lead_le r
    unfold lead
    split <;> simp <;> omega
theorem lead_split : ∀ (l : List Int) (n : Nat), n ≤ lead l → l = List.replicate n 0 ++ l.drop n
  | l, 0, _ => by simp
  | [], n + 1, h => by simp [lead] at h
  | p :: r, n + 1, h => by
    unfold lead at h
    split at h
    · rename_i hp
      subst hp
      have := lead_split r n (by omega)
      rw [List.replicate_succ, List.cons_append, List.drop_succ_cons, ← this]
    · omega
theorem lead_drop : ∀ (l : List Int) (n : Nat), n ≤ lead l → lead (l.drop n) = lead l - n
  | l, 0, _ => by simp
  | [], n + 1, h => by simp [lead] at h
  | p :: r, n + 1, h => by
    unfold lead at h
    split at h
    · rename_i hp
      rw [List.drop_succ_cons, lead_drop r n (by omega)]
      simp only [lead, if_pos hp]
      omega
    · omega

/-- How the shares are told; z: behind a share of 0 it is told how many more there are. -/
def encs (z : Bool) (left : Nat) (ps : List Int) : List (Nat × Nat) :=
  match z, ps with
  | true, ps => if _h : 3 ≤ lead ps then (3, 2) :: encs true left (ps.drop 3) else (lead ps, 2) :: encs false left (ps.drop (lead ps))
  | false, [] => []
  | false, p :: r => codeV left p :: encs (p == 0) (left - p.natAbs) r
termination_by 2 * ps.length + (if z then 1 else 0)
decreasing_by
  · have := lead_le ps
    simp
    omega
  · simp
    omega
  · simp
    split <;> omega
theorem encs_three {left : Nat} {ps : List Int} (h : 3 ≤ lead ps) : encs true left ps = (3, 2) :: encs true left (ps.drop 3) := by rw [encs, dif_pos h]
theorem encs_few {left : Nat} {ps : List Int} (h : ¬ 3 ≤ lead ps) : encs true left ps = (lead ps, 2) :: encs false left (ps.drop (lead ps)) := by rw [encs, dif_neg h]
theorem encs_nil {left : Nat} : encs false left [] = [] := by rw [encs]
theorem encs_cons {left : Nat} {p : Int} {r : List Int} : encs false left (p :: r) = codeV left p :: encs (p == 0) (left - p.natAbs) r := by rw [encs]
/-- A run of 0 as a whole. -/
theorem encs_run {left : Nat} : ∀ (n : Nat) (ps : List Int), lead ps = n → encs true left ps = List.replicate (n / 3) (3, 2) ++ (n % 3, 2) :: encs false left (ps.drop n) := by
  intro n
  induction n using Nat.strongRecOn with
  | ind n ih =>
    intro ps h
    by_cases h3 : 3 ≤ lead ps
    · rw [encs_three h3, ih (n - 3) (by omega) (ps.drop 3) (by rw [lead_drop ps 3 h3, h])]
      rw [show n / 3 = (n - 3) / 3 + 1 by omega, List.replicate_succ, List.cons_append, List.drop_drop, show 3 + (n - 3) = n by omega, show (n - 3) % 3 = n % 3 by omega]
    · rw [encs_few h3, h, show n / 3 = 0 by omega, show n % 3 = n by omega]
      simp

/-- Shares that are left to tell. -/
structure Rest (ps : List Int) (left : Nat) : Prop where
  least : ∀ p ∈ ps, -1 ≤ p
  sum : tot ps = left
  before : ∀ k, k < ps.length → tot (ps.take k) < left
theorem Rest.step {p : Int} {r : List Int} {left : Nat} (h : Rest (p :: r) left) : 0 < left ∧ -1 ≤ p ∧ p ≤ left ∧ p.natAbs ≤ left ∧ Rest r (left - p.natAbs) := by
  have h0 := h.before 0 (by simp)
  have h1 := h.least p (List.mem_cons_self ..)
  have h2 : p.natAbs + tot r = left := by
    have := h.sum
    simpa [tot] using this
  refine ⟨by simpa [tot] using h0, h1, by omega, by omega, fun q hq => h.least q (List.mem_cons_of_mem _ hq), by omega, fun k hk => ?_⟩
  have := h.before (k + 1) (by simpa using hk)
  simp only [List.take_succ_cons, tot, List.map_cons, List.sum_cons] at this
  unfold tot
  omega
theorem Rest.zeros {left : Nat} : ∀ (n : Nat) {ps : List Int}, Rest ps left → n ≤ lead ps → Rest (ps.drop n) left
  | 0, ps, h, _ => by simpa using h
  | n + 1, [], h, hn => by simp [lead] at hn
  | n + 1, p :: r, h, hn => by
    unfold lead at hn
    split at hn
    · rename_i hp
      subst hp
      have := h.step.2.2.2.2
      rw [List.drop_succ_cons]
      exact Rest.zeros n (by simpa using this) (by omega)
    · omega
theorem Made.rest {L : Nat} {ps : List Int} (h : Made L ps) : Rest ps (2 ^ L) := ⟨h.least, h.sum, h.before⟩

theorem encs_fits : ∀ (n : Nat) (z : Bool) (left : Nat) (ps : List Int), 2 * ps.length + (if z then 1 else 0) < n → Rest ps left → Fits (encs z left ps) := by
  intro n
  induction n with
  | zero => intro z left ps h; omega
  | succ n ih =>
    intro z left ps hn h
    cases z with
    | true =>
      have hl := lead_le ps
      simp at hn
      by_cases h3 : 3 ≤ lead ps
      · rw [encs_three h3]
        rintro x hx
        rcases List.mem_cons.1 hx with rfl | hx
        · decide
        · exact ih true left (ps.drop 3) (by simp; omega) (h.zeros 3 h3) x hx
      · rw [encs_few h3]
        rintro x hx
        rcases List.mem_cons.1 hx with rfl | hx
        · show lead ps < 2 ^ 2
          omega
        · exact ih false left (ps.drop (lead ps)) (by simp; omega) (h.zeros _ (Nat.le_refl _)) x hx
    | false =>
      cases ps with
      | nil => rw [encs_nil]; rintro x hx; cases hx
      | cons p r =>
        rw [encs_cons]
        have hs := h.step
        rintro x hx
        rcases List.mem_cons.1 hx with rfl | hx
        · exact codeV_fits hs.2.2.1
        · exact ih (p == 0) _ r (by simp at hn ⊢; split <;> omega) hs.2.2.2.2 x hx

/-- What is told is read. -/
theorem pr_told {N T S : Nat} : ∀ (n : Nat) (z : Bool) (pos left : Nat) (ps out : List Int), 2 * ps.length + (if z then 1 else 0) < n → Rest ps left → (z = true → 0 < left) → Has N pos (encs z left ps) →
    pos + flen (encs z left ps) ≤ T → out.length + ps.length ≤ S → pr N T S z pos left out = some (out ++ ps, pos + flen (encs z left ps)) := by
  intro n
  induction n with
  | zero => intro z pos left ps out h; omega
  | succ n ih =>
    intro z pos left ps out hn h hz hh hT hS
    cases z with
    | true =>
      have hl := lead_le ps
      simp at hn
      by_cases h3 : 3 ≤ lead ps
      · rw [encs_three h3] at hh hT ⊢
        rw [flen_cons] at hT ⊢
        obtain ⟨hr, hh⟩ := hh
        simp only at hr hh hT ⊢
        have hsp := lead_split ps 3 h3
        rw [pr_zeros (by omega) (by rw [hr]; omega), hr, show ((3 : Nat) == 3) = true from rfl, ih true _ _ (ps.drop 3) (out ++ List.replicate 3 0) (by simp; omega) (h.zeros 3 h3) (fun _ => hz rfl) hh (by omega) (by simp; omega)]
        rw [List.append_assoc, ← hsp, Nat.add_assoc]
      · rw [encs_few h3] at hh hT ⊢
        rw [flen_cons] at hT ⊢
        obtain ⟨hr, hh⟩ := hh
        simp only at hr hh hT ⊢
        have hsp := lead_split ps (lead ps) (Nat.le_refl _)
        have hne : (lead ps == 3) = false := beq_eq_false_iff_ne.2 (by omega)
        rw [pr_zeros (by omega) (by rw [hr]; omega), hr, hne, ih false _ _ (ps.drop (lead ps)) (out ++ List.replicate (lead ps) 0) (by simp; omega) (h.zeros _ (Nat.le_refl _)) (by simp) hh (by omega) (by simp; omega)]
        rw [List.append_assoc, ← hsp, Nat.add_assoc]
    | false =>
      cases ps with
      | nil =>
        have := h.sum
        simp [tot] at this
        subst this
        rw [encs_nil, pr_done]
        simp
      | cons p r =>
        obtain ⟨h0, h1, h2, h4, hr⟩ := h.step
        rw [encs_cons] at hh hT ⊢
        rw [flen_cons] at hT ⊢
        obtain ⟨hv, hh⟩ := hh
        obtain ⟨e1, e2⟩ := codeV_read h1 h2 hv
        have e3 : ((vof N pos left : Nat) : Int) - 1 = p := by rw [e1]; omega
        have e4 : (vof N pos left == 1) = (p == 0) := by
          rw [Bool.eq_iff_iff]
          simp only [beq_iff_eq]
          omega
        simp at hS hn
        rw [pr_step (by omega) (by rw [e2]; omega) (by omega), e3, e4, e2, ih (p == 0) _ _ r (out ++ [p]) (by split <;> omega) hr (fun hp => by have := (beq_iff_eq.1 hp); omega) hh (by omega) (by simp; omega)]
        simp [Nat.add_assoc]

theorem vk_nine {left : Nat} (h : left ≤ 512) : vk left ≤ 9 := by
  rcases Nat.lt_or_ge 9 (vk left) with h9 | h9
  · have h1 := vk_low left
    have h2 : 2 ^ 10 ≤ 2 ^ vk left := Nat.pow_le_pow_right (by decide) h9
    omega
  · exact h9
theorem encs_len : ∀ (n : Nat) (z : Bool) (left : Nat) (ps : List Int), 2 * ps.length + (if z then 1 else 0) < n → left ≤ 512 → flen (encs z left ps) ≤ 12 * ps.length + (if z then 2 else 0) := by
  intro n
  induction n with
  | zero => intro z left ps h; omega
  | succ n ih =>
    intro z left ps hn hl
    cases z with
    | true =>
      have hle := lead_le ps
      simp at hn
      by_cases h3 : 3 ≤ lead ps
      · have h4 := ih true left (ps.drop 3) (by simp; omega) hl
        rw [encs_three h3, flen_cons]
        simp at h4 ⊢
        omega
      · have h4 := ih false left (ps.drop (lead ps)) (by simp; omega) hl
        rw [encs_few h3, flen_cons]
        simp at h4 ⊢
        omega
    | false =>
      cases ps with
      | nil => rw [encs_nil]; simp
      | cons p r =>
        have h4 := ih (p == 0) (left - p.natAbs) r (by simp at hn ⊢; split <;> omega) (by omega)
        have h5 : (codeV left p).2 ≤ 10 := by
          have := vk_nine hl
          unfold codeV
          split
          · show vk left ≤ 10
            omega
          · split
            · show vk left + 1 ≤ 10
              omega
            · show vk left + 1 ≤ 10
              omega
        have h6 : (if (p == 0) = true then 2 else 0) ≤ 2 := by split <;> omega
        rw [encs_cons, flen_cons]
        simp only [List.length_cons, Bool.false_eq_true, if_false]
        omega
/-- All of a description. -/
def told (L : Nat) (ps : List Int) : List (Nat × Nat) := (L - 5, 4) :: encs false (2 ^ L) ps
theorem told_fits {L : Nat} {ps : List Int} (h5 : 5 ≤ L) (h9 : L ≤ 9) (h : Rest ps (2 ^ L)) : Fits (told L ps) := by
  rintro x hx
  rcases List.mem_cons.1 hx with rfl | hx
  · show L - 5 < 2 ^ 4
    omega
  · exact encs_fits _ _ _ _ (Nat.lt_succ_self _) h x hx
theorem desc_told {N T S M L : Nat} {ps : List Int} (h5 : 5 ≤ L) (h9 : L ≤ 9) (h : Rest ps (2 ^ L)) (hM : L ≤ M) (hN : N % 2 ^ flen (told L ps) = fnum (told L ps)) (hT : flen (told L ps) ≤ T) (hS : ps.length ≤ S) :
    desc N T S M 0 = some (L, ps, flen (told L ps)) := by
  have hh := has_of (N := N) (told L ps) 0 (told_fits h5 h9 h) (by simpa using hN)
  obtain ⟨h1, h2⟩ := hh
  have h1' : rdb N 0 4 = L - 5 := h1
  have h2' : Has N 4 (encs false (2 ^ L) ps) := by simpa using h2
  have hf : flen (told L ps) = 4 + flen (encs false (2 ^ L) ps) := flen_cons _ _
  rw [hf] at hT ⊢
  unfold desc
  rw [if_neg (by rw [h1']; omega), h1', show L - 5 + 5 = L by omega, Nat.zero_add, pr_told _ _ _ _ _ _ (Nat.lt_succ_self _) h (by simp) h2' (by omega) (by simpa using hS)]
  simp
end Go.Proofs.YtabaholflahepaaDoor
