/-
  Contract of spec.Shares: of any numbers it makes shares that add up to 2^L, no part of them before the last one.
-/
import Derived.Test.YtabaholflahepaaDoorTab
import Derived.Test.YtabaholflahepaaDoorLow
namespace Go.Proofs.YtabaholflahepaaDoor
open Go.RowKit

/-- What shares add up to, those below 0 counting as 1. -/
def tot (ps : List Int) : Nat := (ps.map Int.natAbs).sum
theorem tot_push (ps : List Int) (p : Int) : tot (ps ++ [p]) = tot ps + p.natAbs := by simp [tot]
theorem tot_append (ps qs : List Int) : tot (ps ++ qs) = tot ps + tot qs := by simp [tot]
theorem tot_expand : ∀ (ps : List Int) (s : Nat), (∀ p ∈ ps, -1 ≤ p) → (expand s ps).length + (lows s ps).length = tot ps
  | [], s, _ => rfl
  | p :: l, s, h => by
    have h1 := tot_expand l (s + 1) fun q hq => h q (List.mem_cons_of_mem _ hq)
    have h2 := h p (List.mem_cons_self ..)
    have h3 : tot (p :: l) = p.natAbs + tot l := by simp [tot]
    simp only [expand, lows, List.length_append, List.length_replicate]
    split <;> simp <;> omega

/-- Shares that add up to 2^L; less than that before the last one. -/
structure Made (L : Nat) (ps : List Int) : Prop where
  least : ∀ p ∈ ps, -1 ≤ p
  sum : tot ps = 2 ^ L
  before : ∀ k, k < ps.length → tot (ps.take k) < 2 ^ L
  few : ps.length ≤ 252
theorem Made.shares {L : Nat} {ps : List Int} (h : Made L ps) (h5 : 5 ≤ L) (h9 : L ≤ 9) : IsShares L ps :=
  ⟨h5, h9, h.least, (tot_expand ps 0 h.least).trans h.sum⟩
theorem tot_mem {ps : List Int} {p : Int} (h : p ∈ ps) : p.natAbs ≤ tot ps := by
  obtain ⟨a, b, rfl⟩ := List.append_of_mem h
  rw [tot_append]
  simp [tot]
  omega

/-- Shares under way. -/
structure Going (L : Nat) (ps : List Int) (left : Nat) : Prop where
  least : ∀ p ∈ ps, -1 ≤ p
  sum : tot ps + left = 2 ^ L
  before : ∀ k, k < ps.length → tot (ps.take k) < 2 ^ L
theorem Going.push {L : Nat} {ps : List Int} {left : Nat} (h : Going L ps left) (hl : 0 < left) {p : Int} (h1 : -1 ≤ p) (h2 : p ≤ left) : Going L (ps ++ [p]) (left - p.natAbs) := by
  have h0 := h.sum
  refine ⟨fun q hq => ?_, by rw [tot_push]; omega, fun k hk => ?_⟩
  · rcases List.mem_append.1 hq with hq | hq
    · exact h.least q hq
    · rw [List.mem_singleton.1 hq]; exact h1
  · simp only [List.length_append, List.length_cons, List.length_nil] at hk
    rw [List.take_append_of_le_length (by omega)]
    by_cases e : k < ps.length
    · exact h.before k e
    · rw [List.take_of_length_le (by omega)]; omega
theorem Going.made {L : Nat} {ps : List Int} (h : Going L ps 0) (hf : ps.length ≤ 252) : Made L ps := ⟨h.least, by have := h.sum; omega, h.before, hf⟩

/-- spec.Below reduces a number. -/
theorem specBelow_any (x n : Int) (hx : I64 x) (hn : 0 < n) (hn2 : n ≤ 4611686018427387904) (w : World) :
    Calls Tryd.prog 48 #[.int .i64 x, .int .i64 n] w fun e w' => e = .returned (.int .i64 (x % n)) ∧ w = w' := by
  obtain ⟨hx1, hx2⟩ := hx
  have h1 : -n < x.tmod n ∧ x.tmod n < n := ⟨by
    have := Int.lt_tmod_of_pos x hn
    omega, Int.tmod_lt_of_pos x hn⟩
  by_cases hneg : x.tmod n < 0
  · have e1 : x.tmod n + n = x % n := tmod_neg_add x n hn hneg
    have E1 := Lib.hid e1
    clear e1
    go_enter Tryd.func48, Tryd.ntmps48
    go_wp2
    go_ret
    exact ⟨by rw [← E1.out]; rfl, rfl⟩
  · have e1 : x.tmod n = x % n := tmod_nonneg_eq x n hn (by omega)
    have E1 := Lib.hid e1
    clear e1
    go_enter Tryd.func48, Tryd.ntmps48
    go_wp2
    go_ret
    exact ⟨by rw [← E1.out]; rfl, rfl⟩

theorem i64s_push (ps : List Int) (p : Int) : i64s (ps ++ [p]) = i64s ps ++ [.int .i64 p] := by simp [i64s]

set_option maxHeartbeats 1000000 in
theorem shares_any {R : Nat → Prop} (A : Option Addr) (c L : Nat) (xs : List Int) (w : World) (hs : Sl w R A (i64s xs)) (hx : I64s xs) (hlen : xs.length < 2 ^ 31) (h5 : 5 ≤ L) (h9 : L ≤ 9) :
    Calls Tryd.prog 24 #[.slice A xs.length c, .int .i64 L] w fun e w' => ∃ A' c' ps, e = .returned (.slice A' (List.length ps) c') ∧ Made L ps ∧
      w'.ownsRow w.heap.size 3 1 (.slice A' ps.length c') ps.length (i64s ps) ∧ Kept w w' := by
  obtain ⟨N, hN⟩ : ∃ N, N = 2 ^ L := ⟨_, rfl⟩
  have hNi : (2 : Int) ^ L = (N : Int) := by rw [two_pow_int, hN]
  have hN9 : N ≤ 512 := by rw [hN]; exact Nat.pow_le_pow_right (by decide) (show L ≤ 9 from h9)
  have hN5 : 32 ≤ N := by rw [hN]; exact Nat.pow_le_pow_right (n := 2) (by decide) (show 5 ≤ L from h5)
  have HN := Lib.hid hN
  clear hN
  go_enter Tryd.func24, Tryd.ntmps24
  go_wp2
  go_loopg [5, 6, 14] (xs.length + 1) (fun g l v i wr => ∃ (k left n : Nat) (A' : Option Addr) (c' : Nat) (ps : List Int), xs.length - k < g ∧ k ≤ xs.length ∧ i = .int .i64 k ∧ l = .int .i64 left ∧ v = .slice A' n c' ∧ n ≤ 251 ∧ left ≤ N ∧
    wr.ownsRow w.heap.size 3 1 (.slice A' n c') n (i64s ps) ∧ Hid (n = ps.length) ∧ Hid (Going L ps left) ∧ Kept w wr)
  case atStart => exact ⟨0, N, 0, none, 0, [], by omega, by omega, rfl, rfl, rfl, by omega, by omega, World.ownsRow_nil _ _ _ _, rfl, ⟨by simp, by rw [HN.out]; simp [tot], by simp⟩, Keep.refl _ _⟩
  case round =>
    obtain ⟨k, left, n, A', c', ps, q1, q2, rfl, rfl, rfl, q3, q4, qo, qn, qp, qk⟩ := hrel
    by_cases hlt : k < xs.length
    · obtain ⟨g, o, x, hR, rfl, hcx, hxk⟩ := (hs.kept qk).i64 hlt
      have hx1 : I64 x := hx x (List.mem_of_getElem? hxk.out)
      by_cases hstop : left = 0
      · subst hstop
        go_wp2
        go_ret
        exact ⟨A', c', ps, by rw [← qn.out]; rfl, qp.out.made (by rw [← qn.out]; omega), by rw [← qn.out]; exact qo, qk⟩
      · have hl0 : 0 < left := by omega
        have hb1 : ((left : Int) == 0) = false := by rw [beq_eq_false_iff_ne]; omega
        by_cases hstop2 : 250 < n
        · go_wp2_with (at_builtin; refine wpList_push rfl _ _ rfl el23 qk A' n c' _ rfl qo [.int .i64 left] rfl rfl (by simp [Value.oneCell']) (by omega) ?_; intro A2 c2 w2 hown2 hk2 _)
          go_ret
          refine ⟨A2, c2, ps ++ [(left : Int)], by rw [List.length_append, ← qn.out]; rfl, ?_, ?_, hk2⟩
          · have := qp.out.push hl0 (p := (left : Int)) (by omega) (by omega)
            rw [show left - (left : Int).natAbs = 0 by omega] at this
            exact this.made (by rw [List.length_append, ← qn.out]; simp; omega)
          · rw [i64s_push, List.length_append, ← qn.out]; exact hown2
        · have step : ∀ m : Nat, m ≤ left → ∃ r : Nat, x % ((m : Int) + 2) = r ∧ r ≤ m + 1 := fun m hm => ⟨(x % ((m : Int) + 2)).toNat, by have := Int.emod_nonneg x (show ((m : Int) + 2) ≠ 0 by omega); omega, by
            have := Int.emod_lt_of_pos x (show (0 : Int) < (m : Int) + 2 by omega); omega⟩
          have hgo := qp.out
          have Hgo := Lib.hid hgo
          clear hgo
          by_cases hm : (left : Int) ≤ (N : Int) / 4
          all_goals
            obtain ⟨m, hm1, hm2⟩ : ∃ m : Nat, (if (left : Int) ≤ (N : Int) / 4 then (left : Int) else (N : Int) / 4) = m ∧ m ≤ left := by
              first
              | exact ⟨left, by rw [if_pos hm], Nat.le_refl _⟩
              | exact ⟨N / 4, by rw [if_neg hm]; omega, by omega⟩
            simp only [hm, if_true, if_false] at hm1
            first
            | (have hml : m < left := by omega)
            | skip
            obtain ⟨r, hr, hr2⟩ := step m hm2
            rcases Nat.eq_zero_or_pos r with h0 | h0
            · subst h0
              have hpu := Hgo.out.push hl0 (p := -1) (by omega) (by omega)
              have Hpu := Lib.hid hpu
              have Hr := Lib.hid hr
              have Hm1 := Lib.hid hm1
              clear hpu step hr hm1
              go_wp2_with (first
                | (go_at_call 48; refine (specBelow_any x _ hx1 (by omega) (by omega) _).mono ?_; rintro e w' ⟨rfl, rfl⟩; rw [Hm1.out, Hr.out])
                | (at_builtin; refine wpList_push rfl _ _ rfl el23 qk A' n c' _ rfl qo [.int .i64 (-1)] rfl rfl (by simp [Value.oneCell']) (by omega) ?_; intro A2 c2 w2 hown2 hk2 _))
              go_roundg (xs.length - k)
              case measure => exact q1
              case rel =>
                have h1 := Hm1.out
                exact ⟨k + 1, left - 1, n + 1, A2, c2, ps ++ [-1], by omega, by omega, rfl, by congr 1; omega, rfl, by omega, by omega, by rw [i64s_push]; exact hown2, by rw [List.length_append, ← qn.out]; rfl, Hpu.out, hk2⟩
            · obtain ⟨p, rfl⟩ : ∃ p, r = p + 1 := ⟨r - 1, by omega⟩
              have hpu := Hgo.out.push hl0 (p := (p : Int)) (by omega) (by omega)
              have Hpu := Lib.hid hpu
              have Hr := Lib.hid hr
              have Hm1 := Lib.hid hm1
              clear hpu step hr hm1
              go_wp2_with (first
                | (go_at_call 48; refine (specBelow_any x _ hx1 (by omega) (by omega) _).mono ?_; rintro e w' ⟨rfl, rfl⟩; rw [Hm1.out, Hr.out])
                | (at_builtin; refine wpList_push rfl _ _ rfl el23 qk A' n c' _ rfl qo [.int .i64 p] rfl rfl (by simp [Value.oneCell']) (by omega) ?_; intro A2 c2 w2 hown2 hk2 _))
              go_roundg (xs.length - k)
              case measure => exact q1
              case rel =>
                have h1 := Hm1.out
                exact ⟨k + 1, left - p, n + 1, A2, c2, ps ++ [(p : Int)], by omega, by omega, rfl, by congr 1; omega, rfl, by omega, by omega, by rw [i64s_push]; exact hown2, by rw [List.length_append, ← qn.out]; rfl, Hpu.out, hk2⟩
    · obtain rfl : k = xs.length := by omega
      by_cases hstop : left = 0
      · subst hstop
        go_wp2
        go_ret
        exact ⟨A', c', ps, by rw [← qn.out]; rfl, qp.out.made (by rw [← qn.out]; omega), by rw [← qn.out]; exact qo, qk⟩
      · have hl0 : 0 < left := by omega
        go_wp2_with (at_builtin; refine wpList_push rfl _ _ rfl el23 qk A' n c' _ rfl qo [.int .i64 left] rfl rfl (by simp [Value.oneCell']) (by omega) ?_; intro A2 c2 w2 hown2 hk2 _)
        go_ret
        refine ⟨A2, c2, ps ++ [(left : Int)], by rw [List.length_append, ← qn.out]; rfl, ?_, ?_, hk2⟩
        · have := qp.out.push hl0 (p := (left : Int)) (by omega) (by omega)
          rw [show left - (left : Int).natAbs = 0 by omega] at this
          exact this.made (by rw [List.length_append, ← qn.out]; simp; omega)
        · rw [i64s_push, List.length_append, ← qn.out]; exact hown2
end Go.Proofs.YtabaholflahepaaDoor
