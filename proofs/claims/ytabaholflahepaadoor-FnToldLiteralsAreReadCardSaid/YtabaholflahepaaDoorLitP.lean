/-
  Plain law: symbols decoded by a tree's rows: with zeros below the stream, and with whatever lies below it.
-/
import Derived.Test.YtabaholflahepaaDoorTreeB
import Derived.Test.YtabaholflahepaaDoorTreeA
namespace Go.Proofs.YtabaholflahepaaDoor
open Go.RowKit

theorem backVal_top (N : Nat) (L : Int) (n : Nat) : ∀ j, backVal N L (n + j) / 2 ^ j = backVal N L n
  | 0 => by simp
  | j + 1 => by
    have h1 := bitAt_lt N (L - (n + j : Nat) - 1)
    rw [← Nat.add_assoc, backVal, Nat.pow_succ, Nat.mul_comm (2 ^ j), ← Nat.div_div_eq_div_mul, show (2 * backVal N L (n + j) + bitAt N (L - (n + j : Nat) - 1)) / 2 = backVal N L (n + j) by omega, backVal_top N L n j]

theorem wc_dvd {u v : Nat} (h : u < v) : 2 ^ u ∣ wc v := by
  obtain ⟨x, rfl⟩ : ∃ x, v = x + 1 := ⟨v - 1, by omega⟩
  rw [wc_succ]
  exact Nat.pow_dvd_pow 2 (by omega)
theorem wsum_dvd {u : Nat} : ∀ (l : List Nat), (∀ w ∈ l, u < w) → 2 ^ u ∣ wsum l
  | [], _ => by simp [wsum]
  | x :: r, h => by
    have e : wsum (x :: r) = wc x + wsum r := by simp [wsum]
    rw [e]
    exact Nat.dvd_add (wc_dvd (h x (List.mem_cons_self ..))) (wsum_dvd r fun w hw => h w (List.mem_cons_of_mem _ hw))
theorem wsum_parts (u : Nat) : ∀ (l : List Nat), wsum l = wsum (l.filter (· ≤ u)) + wsum (l.filter (fun w => u < w))
  | [] => by simp [wsum]
  | x :: r => by
    have e : wsum (x :: r) = wc x + wsum r := by simp [wsum]
    have ih := wsum_parts u r
    rw [List.filter_cons, List.filter_cons]
    by_cases h : x ≤ u
    · have e2 : wsum (x :: r.filter (· ≤ u)) = wc x + wsum (r.filter (· ≤ u)) := by simp [wsum]
      simp only [decide_eq_true h, decide_eq_false (show ¬ u < x by omega), if_true, Bool.false_eq_true, if_false]
      rw [e, e2, ih]; omega
    · have e2 : wsum (x :: r.filter (fun w => u < w)) = wc x + wsum (r.filter (fun w => u < w)) := by simp [wsum]
      simp only [decide_eq_false h, decide_eq_true (show u < x by omega), if_true, Bool.false_eq_true, if_false]
      rw [e, e2, ih]; omega
theorem rowsTo_dvd {al : List Nat} {m u : Nat} (hs : wsum al = 2 ^ m) (hu : u ≤ m) : 2 ^ u ∣ (rowsTo al m u).length := by
  rw [rowsTo_length]
  have h1 := wsum_parts u al
  have h2 : 2 ^ u ∣ wsum (al.filter (fun w => u < w)) := wsum_dvd _ fun w hw => by simpa using (List.mem_filter.1 hw).2
  have h3 : 2 ^ u ∣ wsum al := by rw [hs]; exact Nat.pow_dvd_pow 2 hu
  rw [h1] at h3
  exact (Nat.dvd_add_iff_left h2).2 h3

/-- Rows that begin alike are one symbol's. -/
theorem rows_alike {al : List Nat} {m : Nat} (hs : wsum al = 2 ^ m) {k k' s n : Nat} (h : (rowsTo al m m)[k]? = some (s, n)) (hkk : k / 2 ^ (m - n) = k' / 2 ^ (m - n)) :
    1 ≤ n ∧ n ≤ m ∧ s < al.length ∧ (rowsTo al m m)[k']? = some (s, n) := by
  obtain ⟨v, hv0, hvm, hal, hn⟩ := rowsTo_mem (List.mem_of_getElem? h)
  simp only at hal hn
  obtain ⟨a, b, e, hl, ha, hb⟩ := rows_split hal hv0 hvm
  obtain ⟨u, rfl⟩ : ∃ u, v = u + 1 := ⟨v - 1, by omega⟩
  rw [Nat.add_sub_cancel] at hl
  rw [wc_succ] at e hl
  have hmn : m - n = u := by omega
  rw [hmn] at hkk
  have hp := pow_pos' u
  have hd : 2 ^ u ∣ a.length := by
    rw [hl]
    exact Nat.dvd_add (rowsTo_dvd hs (by omega)) (Nat.dvd_mul_left _ _)
  obtain ⟨q, hq⟩ := hd
  have hk1 : a.length ≤ k ∧ k < a.length + 2 ^ u := by
    rw [e] at h
    rcases Nat.lt_or_ge k a.length with h1 | h1
    · rw [List.getElem?_append_left h1] at h
      exact absurd rfl (ha _ (List.mem_of_getElem? h))
    · rw [List.getElem?_append_right h1] at h
      rcases Nat.lt_or_ge (k - a.length) (2 ^ u) with h2 | h2
      · omega
      · rw [List.getElem?_append_right (by simpa using h2)] at h
        exact absurd rfl (hb _ (List.mem_of_getElem? h))
  have hq1 : k / 2 ^ u = q := by
    rw [hq] at hk1
    have e1 : k = 2 ^ u * q + (k - 2 ^ u * q) := by omega
    rw [e1, Nat.mul_add_div hp, Nat.div_eq_of_lt (by omega)]; rfl
  have hk2 : a.length ≤ k' ∧ k' < a.length + 2 ^ u := by
    rw [hq1] at hkk
    have h1 := Nat.div_add_mod k' (2 ^ u)
    have h2 := Nat.mod_lt k' hp
    rw [← hkk] at h1
    omega
  refine ⟨by omega, by omega, (List.getElem?_eq_some_iff.1 hal).1, ?_⟩
  rw [e, List.getElem?_append_right hk2.1, List.getElem?_append_left (by simp; omega), List.getElem?_replicate, if_pos (by omega), hn]

/-- Symbols, zeros below the stream: what they are, and how many bits are left (below 0: too many were asked for). -/
def decS (N m : Nat) (rs : List (Nat × Nat)) : Nat → Int → List Nat → List Nat × Int
  | 0, L, out => (out, L)
  | f + 1, L, out => decS N m rs f (L - ((rs.getD (backVal N L m) (0, 0)).2 : Nat)) (out ++ [(rs.getD (backVal N L m) (0, 0)).1])
/-- Symbols, by the m bits below p, as long as so many lie above st. -/
def decI (N m st : Nat) (rs : List (Nat × Nat)) : Nat → Nat → List Nat → Option (List Nat)
  | 0, _, out => some out
  | f + 1, p, out => if p < st + m then none else decI N m st rs f (p - (rs.getD (N / 2 ^ (p - m) % 2 ^ m) (0, 0)).2) (out ++ [(rs.getD (N / 2 ^ (p - m) % 2 ^ m) (0, 0)).1])

theorem decS_le {al : List Nat} {m N : Nat} (hal : ∀ w ∈ al, w ≤ m) (hs : wsum al = 2 ^ m) : ∀ (f : Nat) (L : Int) (out : List Nat), (decS N m (rowsTo al m m) f L out).2 ≤ L - f
  | 0, L, out => by simp [decS]
  | f + 1, L, out => by
    have ih := decS_le (N := N) hal hs f (L - (((rowsTo al m m).getD (backVal N L m) (0, 0)).2 : Nat)) (out ++ [((rowsTo al m m).getD (backVal N L m) (0, 0)).1])
    have hk : backVal N L m < (rowsTo al m m).length := by rw [rows_length hal, hs]; exact backVal_lt _ _ _
    have hg : (rowsTo al m m)[backVal N L m]? = some ((rowsTo al m m).getD (backVal N L m) (0, 0)) := by
      rw [List.getD_eq_getElem?_getD, List.getElem?_eq_getElem hk]; rfl
    obtain ⟨v, h1, h2, _, h4⟩ := rowsTo_mem (List.mem_of_getElem? hg)
    rw [decS]
    omega

/-- Where the stream ends just where it should, what lies below it does not matter. -/
theorem dec_same {al : List Nat} {m N N' s K st : Nat} (hal : ∀ w ∈ al, w ≤ m) (hs : wsum al = 2 ^ m) (H : ∀ pos n, pos + n ≤ K → rdb N' pos n = rdb N (s + pos) n) (hst : st + m ≤ s + 1) :
    ∀ (f L : Nat) (out : List Nat), L ≤ K → (decS N' m (rowsTo al m m) f (L : Int) out).2 = 0 → decI N m st (rowsTo al m m) f (s + L) out = some (decS N' m (rowsTo al m m) f (L : Int) out).1
  | 0, L, out, _, _ => rfl
  | f + 1, L, out, hL, h0 => by
    have hle := decS_le (N := N') hal hs f ((L : Int) - (((rowsTo al m m).getD (backVal N' (L : Int) m) (0, 0)).2 : Nat)) (out ++ [((rowsTo al m m).getD (backVal N' (L : Int) m) (0, 0)).1])
    rw [decS] at h0
    have hk : backVal N' (L : Int) m < (rowsTo al m m).length := by rw [rows_length hal, hs]; exact backVal_lt _ _ _
    obtain ⟨x, hx⟩ : ∃ x, x = (rowsTo al m m).getD (backVal N' (L : Int) m) (0, 0) := ⟨_, rfl⟩
    have hg : (rowsTo al m m)[backVal N' (L : Int) m]? = some x := by
      rw [hx, List.getD_eq_getElem?_getD, List.getElem?_eq_getElem hk]; rfl
    obtain ⟨y, n⟩ := x
    rw [decS]
    rw [← hx] at h0 hle ⊢
    simp only at h0 hle ⊢
    have hn := rows_alike hs hg rfl
    have hnL : n ≤ L := by omega
    have hL1 : 1 ≤ L := by omega
    have ht1 : backVal N' (L : Int) m / 2 ^ (m - n) = N' / 2 ^ (L - n) % 2 ^ n := by
      have := backVal_top N' (L : Int) n (m - n)
      rw [show n + (m - n) = m by omega] at this
      rw [this, backVal_in N' L n hnL]
    have ht2 : N / 2 ^ (s + L - m) % 2 ^ m / 2 ^ (m - n) = N / 2 ^ (s + L - n) % 2 ^ n := by
      rw [mod_pow_div (by omega), div_pow_div, show s + L - m + (m - n) = s + L - n by omega, show m - (m - n) = n by omega]
    have ht3 := wts_window H hL hnL
    have hg2 := (rows_alike hs hg (k' := N / 2 ^ (s + L - m) % 2 ^ m) (by rw [ht1, ht2, ht3])).2.2.2
    rw [decI, if_neg (by omega)]
    have hgd : (rowsTo al m m).getD (N / 2 ^ (s + L - m) % 2 ^ m) (0, 0) = (y, n) := by rw [List.getD_eq_getElem?_getD, hg2]; rfl
    rw [hgd]
    simp only
    have e : (L : Int) - ((n : Nat) : Int) = ((L - n : Nat) : Int) := by omega
    rw [e] at h0 ⊢
    rw [show s + L - n = s + (L - n) by omega]
    exact dec_same hal hs H hst f (L - n) _ (by omega) h0
end Go.Proofs.YtabaholflahepaaDoor
