/-
  Contracts of spec.most, spec.code and spec.Rows, for lengths of literals (kind 0) and of matches (kind 2).
-/
import Derived.Test.YtabaholflahepaaDoorCopies
namespace Go.Proofs.YtabaholflahepaaDoor
open Go.RowKit

def litBits : List Nat := [1, 1, 1, 1, 2, 2, 3, 3, 4, 6, 7, 8, 9, 10, 11, 12, 13, 14, 15, 16]
def matBits : List Nat := [1, 1, 1, 1, 2, 2, 3, 3, 4, 4, 5, 7, 8, 9, 10, 11, 12, 13, 14, 15, 16]
def sumPow (l : List Nat) : Nat := (l.map (2 ^ ·)).sum
/-- What a kind's codes above the plain ones are: their bits, the first one, its number. -/
def bitsFor (k : Nat) : List Nat := if k = 0 then litBits else matBits
def firstFor (k : Nat) : Nat := if k = 0 then 16 else 32
def plusFor (k : Nat) : Nat := if k = 0 then 0 else 3
def topFor (k : Nat) : Nat := if k = 0 then 35 else 52
/-- With which number a code begins, and how many bits more it has. -/
def codeOf (k c : Nat) : Nat × Nat := if c < firstFor k then (c + plusFor k, 0) else (firstFor k + plusFor k + sumPow ((bitsFor k).take (c - firstFor k)), (bitsFor k).getD (c - firstFor k) 0)

theorem sumPow_push {l : List Nat} {k x : Nat} (h : l[k]? = some x) : sumPow (l.take (k + 1)) = sumPow (l.take k) + 2 ^ x := by
  rw [take_push h]; simp [sumPow]
theorem sumPow_le : ∀ k, sumPow (litBits.take k) ≤ 131072 ∧ sumPow (matBits.take k) ≤ 131072 := by
  intro k
  have h : ∀ l : List Nat, sumPow (l.take k) ≤ sumPow l := by
    intro l
    have e : sumPow l = sumPow (l.take k) + sumPow (l.drop k) := by
      conv => lhs; rw [← List.take_append_drop k l]
      simp only [sumPow, List.map_append, List.sum_append]
    omega
  have h1 : sumPow litBits ≤ 131072 := by decide
  have h2 : sumPow matBits ≤ 131072 := by decide
  exact ⟨Nat.le_trans (h _) h1, Nat.le_trans (h _) h2⟩

theorem lit16 : ∀ x ∈ litBits, x ≤ 16 := by decide
theorem mat16 : ∀ x ∈ matBits, x ≤ 16 := by decide

theorem most_any (k : Nat) (hk : k = 0 ∨ k = 2) (w : World) :
    Calls Tryd.prog 55 #[.int .i64 k] w fun e w' => e = .returned (.tuple #[.int .i64 (topFor k : Nat), .int .i64 9]) ∧ w = w' := by
  rcases hk with rfl | rfl
  all_goals
    go_enter Tryd.func55, Tryd.ntmps55
    go_wp2
    go_ret2
    exact ⟨rfl, rfl⟩

theorem code_low (k c : Nat) (hk : k = 0 ∨ k = 2) (hc : c < firstFor k) (w : World) :
    Calls Tryd.prog 56 #[.int .i64 k, .int .i64 c] w fun e w' => e = .returned (.tuple #[.int .i64 ((codeOf k c).1 : Nat), .int .i64 ((codeOf k c).2 : Nat)]) ∧ Kept w w' := by
  have e1 : codeOf k c = (c + plusFor k, 0) := by rw [codeOf, if_pos hc]
  rw [e1]
  clear e1
  rcases hk with rfl | rfl
  all_goals
    simp only [firstFor, plusFor, if_true, if_false, Nat.reduceEqDiff] at hc ⊢
    go_enter Tryd.func56, Tryd.ntmps56
    go_wp2
    go_ret2
    exact ⟨rfl, Keep.refl _ _⟩

set_option maxHeartbeats 1000000 in
set_option maxRecDepth 4000 in
theorem code_high (k c : Nat) (hk : k = 0 ∨ k = 2) (hc : firstFor k ≤ c) (hc2 : c ≤ topFor k) (w : World) :
    Calls Tryd.prog 56 #[.int .i64 k, .int .i64 c] w fun e w' => e = .returned (.tuple #[.int .i64 ((codeOf k c).1 : Nat), .int .i64 ((codeOf k c).2 : Nat)]) ∧ Kept w w' := by
  have e1 : codeOf k c = (firstFor k + plusFor k + sumPow ((bitsFor k).take (c - firstFor k)), (bitsFor k).getD (c - firstFor k) 0) := by rw [codeOf, if_neg (by omega)]
  rw [e1]
  clear e1
  obtain ⟨d, rfl⟩ : ∃ d, c = firstFor k + d := ⟨c - firstFor k, by omega⟩
  rw [Nat.add_sub_cancel_left]
  rcases hk with rfl | rfl
  · simp only [firstFor, plusFor, bitsFor, topFor, if_true, if_false, Nat.reduceEqDiff, Nat.reduceAdd] at hc hc2 ⊢
    have hd : d < litBits.length := by simp [litBits]; omega
    have hdx : litBits[d]? = some (litBits.getD d 0) := by rw [List.getD_eq_getElem?_getD, List.getElem?_eq_getElem hd]; rfl
    have hd16 : litBits.getD d 0 ≤ 16 := lit16 _ (List.mem_of_getElem? hdx)
    obtain ⟨b, hb⟩ : ∃ b, b = w.heap.size := ⟨_, rfl⟩
    obtain ⟨W, hW⟩ : ∃ W, W = w.alloc (.cells #[.int .i64 1, .int .i64 1, .int .i64 1, .int .i64 1, .int .i64 2, .int .i64 2, .int .i64 3, .int .i64 3, .int .i64 4, .int .i64 6, .int .i64 7, .int .i64 8, .int .i64 9, .int .i64 10, .int .i64 11, .int .i64 12, .int .i64 13, .int .i64 14, .int .i64 15, .int .i64 16] 3) := ⟨_, rfl⟩
    have hb0 : Blk W b 3 (nats litBits) := by rw [hW, hb]; exact Blk.new w _ (nats litBits)
    have hk0 : Kept w W := by rw [hW]; exact (Keep.refl _ _).alloc _
    have HW := Lib.hid hW
    have Hb := Lib.hid hb
    obtain ⟨z, hz⟩ : ∃ z, z = litBits.getD d 0 := ⟨_, rfl⟩
    rw [← hz] at hdx hd16 ⊢
    clear hW hb hz hd
    go_enter Tryd.func56, Tryd.ntmps56
    go_wp2
    rw [← HW.out, ← Hb.out]
    have hdz := hdx
    have Hdz := Lib.hid hdz
    clear hdz hdx
    go_loopg [7, 9] (d + 1) (fun g v i wr => ∃ k s : Nat, d - k < g ∧ k ≤ d ∧ i = .int .i64 (16 + (k : Int)) ∧ v = .int .i64 s ∧ Hid (s = 16 + sumPow (litBits.take k)) ∧ s ≤ 131107 ∧ W = wr)
    case atStart => exact ⟨0, 16, by omega, by omega, rfl, rfl, by simp [Hid, sumPow], by omega, rfl⟩
    case round =>
      obtain ⟨k, s, q1, q2, rfl, rfl, q3, q4, rfl⟩ := hrel
      by_cases hlt : k < d
      · have hkl : k < litBits.length := Nat.lt_trans hlt (List.getElem?_eq_some_iff.1 Hdz.out).1
        obtain ⟨x, hx⟩ : ∃ x, litBits[k]? = some x := ⟨_, List.getElem?_eq_getElem hkl⟩
        have hx16 : x ≤ 16 := lit16 _ (List.mem_of_getElem? hx)
        have hpush := sumPow_push hx
        have c0 : W.cell? ⟨b, k, none⟩ = some (.int .i64 x) := by rw [hb0.cell]; simp [nats, hx]
        obtain ⟨X, hX⟩ : ∃ X, X = 2 ^ x := ⟨_, rfl⟩
        have hXi : (2 : Int) ^ x = (X : Int) := by rw [two_pow_int, hX]
        have hX2 : X ≤ 65536 := by rw [hX]; exact pow_le_16 hx16
        have h2 := (sumPow_le (k + 1)).1
        rw [hpush, ← hX] at h2
        have h3 := q3.out
        have h4 : s + X ≤ 131107 := by omega
        have h5 : s + X = 16 + sumPow (litBits.take (k + 1)) := by rw [hpush, ← hX]; omega
        have H5 := Lib.hid h5
        clear hpush hx hX h2 h3 h5 hkl
        go_wp2
        go_roundg (d - k)
        case measure => exact q1
        case rel => exact ⟨k + 1, s + X, by omega, by omega, by first | rfl | (congr 1; omega), rfl, H5.out, h4, rfl⟩
      · obtain rfl : k = d := by omega
        have c0 : W.cell? ⟨b, k, none⟩ = some (.int .i64 z) := by rw [hb0.cell]; simp [nats, Hdz.out]
        go_wp2
        go_quiet (fail)
        go_wp2
        go_ret2
        exact ⟨by rw [q3.out]; rfl, hk0.drewN _⟩
  · simp only [firstFor, plusFor, bitsFor, topFor, if_true, if_false, Nat.reduceEqDiff, Nat.reduceAdd] at hc hc2 ⊢
    have hd : d < matBits.length := by simp [matBits]; omega
    have hdx : matBits[d]? = some (matBits.getD d 0) := by rw [List.getD_eq_getElem?_getD, List.getElem?_eq_getElem hd]; rfl
    have hd16 : matBits.getD d 0 ≤ 16 := mat16 _ (List.mem_of_getElem? hdx)
    obtain ⟨b, hb⟩ : ∃ b, b = w.heap.size + 1 := ⟨_, rfl⟩
    obtain ⟨W, hW⟩ : ∃ W, W = (w.alloc (.cells #[.int .i64 1, .int .i64 1, .int .i64 1, .int .i64 1, .int .i64 2, .int .i64 2, .int .i64 3, .int .i64 3, .int .i64 4, .int .i64 6, .int .i64 7, .int .i64 8, .int .i64 9, .int .i64 10, .int .i64 11, .int .i64 12, .int .i64 13, .int .i64 14, .int .i64 15, .int .i64 16] 3)).alloc (.cells #[.int .i64 1, .int .i64 1, .int .i64 1, .int .i64 1, .int .i64 2, .int .i64 2, .int .i64 3, .int .i64 3, .int .i64 4, .int .i64 4, .int .i64 5, .int .i64 7, .int .i64 8, .int .i64 9, .int .i64 10, .int .i64 11, .int .i64 12, .int .i64 13, .int .i64 14, .int .i64 15, .int .i64 16] 3) := ⟨_, rfl⟩
    have hb0 : Blk W b 3 (nats matBits) := by rw [hW, hb]; have h := Blk.new (w.alloc (.cells #[.int .i64 1, .int .i64 1, .int .i64 1, .int .i64 1, .int .i64 2, .int .i64 2, .int .i64 3, .int .i64 3, .int .i64 4, .int .i64 6, .int .i64 7, .int .i64 8, .int .i64 9, .int .i64 10, .int .i64 11, .int .i64 12, .int .i64 13, .int .i64 14, .int .i64 15, .int .i64 16] 3)) 3 (nats matBits); have e : (w.alloc (.cells #[.int .i64 1, .int .i64 1, .int .i64 1, .int .i64 1, .int .i64 2, .int .i64 2, .int .i64 3, .int .i64 3, .int .i64 4, .int .i64 6, .int .i64 7, .int .i64 8, .int .i64 9, .int .i64 10, .int .i64 11, .int .i64 12, .int .i64 13, .int .i64 14, .int .i64 15, .int .i64 16] 3)).heap.size = w.heap.size + 1 := (by simp); rw [e] at h; exact h
    have hk0 : Kept w W := by rw [hW]; exact ((Keep.refl _ _).alloc _).alloc _
    have HW := Lib.hid hW
    have Hb := Lib.hid hb
    obtain ⟨z, hz⟩ : ∃ z, z = matBits.getD d 0 := ⟨_, rfl⟩
    rw [← hz] at hdx hd16 ⊢
    clear hW hb hz hd
    go_enter Tryd.func56, Tryd.ntmps56
    go_wp2
    rw [← HW.out, ← Hb.out]
    have hdz := hdx
    have Hdz := Lib.hid hdz
    clear hdz hdx
    go_loopg [7, 9] (d + 1) (fun g v i wr => ∃ k s : Nat, d - k < g ∧ k ≤ d ∧ i = .int .i64 (32 + (k : Int)) ∧ v = .int .i64 s ∧ Hid (s = 35 + sumPow (matBits.take k)) ∧ s ≤ 131107 ∧ W = wr)
    case atStart => exact ⟨0, 35, by omega, by omega, rfl, rfl, by simp [Hid, sumPow], by omega, rfl⟩
    case round =>
      obtain ⟨k, s, q1, q2, rfl, rfl, q3, q4, rfl⟩ := hrel
      by_cases hlt : k < d
      · have hkl : k < matBits.length := Nat.lt_trans hlt (List.getElem?_eq_some_iff.1 Hdz.out).1
        obtain ⟨x, hx⟩ : ∃ x, matBits[k]? = some x := ⟨_, List.getElem?_eq_getElem hkl⟩
        have hx16 : x ≤ 16 := mat16 _ (List.mem_of_getElem? hx)
        have hpush := sumPow_push hx
        have c0 : W.cell? ⟨b, k, none⟩ = some (.int .i64 x) := by rw [hb0.cell]; simp [nats, hx]
        obtain ⟨X, hX⟩ : ∃ X, X = 2 ^ x := ⟨_, rfl⟩
        have hXi : (2 : Int) ^ x = (X : Int) := by rw [two_pow_int, hX]
        have hX2 : X ≤ 65536 := by rw [hX]; exact pow_le_16 hx16
        have h2 := (sumPow_le (k + 1)).2
        rw [hpush, ← hX] at h2
        have h3 := q3.out
        have h4 : s + X ≤ 131107 := by omega
        have h5 : s + X = 35 + sumPow (matBits.take (k + 1)) := by rw [hpush, ← hX]; omega
        have H5 := Lib.hid h5
        clear hpush hx hX h2 h3 h5 hkl
        go_wp2
        go_roundg (d - k)
        case measure => exact q1
        case rel => exact ⟨k + 1, s + X, by omega, by omega, by first | rfl | (congr 1; omega), rfl, H5.out, h4, rfl⟩
      · obtain rfl : k = d := by omega
        have c0 : W.cell? ⟨b, k, none⟩ = some (.int .i64 z) := by rw [hb0.cell]; simp [nats, Hdz.out]
        go_wp2
        go_quiet (fail)
        go_wp2
        go_ret2
        exact ⟨by rw [q3.out]; rfl, hk0.drewN _⟩

/-- A state as a row of numbers. -/
def rowFor (k : Nat) (x : Nat × Nat × Nat) : Nat × Nat × Nat × Nat := ((codeOf k x.1).1, (codeOf k x.1).2, x.2.1, x.2.2)

theorem code_any (k c : Nat) (hk : k = 0 ∨ k = 2) (hc2 : c ≤ topFor k) (w : World) :
    Calls Tryd.prog 56 #[.int .i64 k, .int .i64 c] w fun e w' => e = .returned (.tuple #[.int .i64 ((codeOf k c).1 : Nat), .int .i64 ((codeOf k c).2 : Nat)]) ∧ Kept w w' := by
  by_cases h : c < firstFor k
  · exact code_low k c hk h w
  · exact code_high k c hk (by omega) hc2 w

set_option maxHeartbeats 1000000 in
/-- Rows of states whose codes are all there; otherwise an error. -/
theorem specRows_any {R : Nat → Prop} (A : Option Addr) (c n k : Nat) (hk : k = 0 ∨ k = 2) (xs : List (Nat × Nat × Nat)) (hn : n = xs.length) (w : World) (hs : Sl w R A (flat cel3 xs)) (hlen : xs.length ≤ 2147483648) :
    Calls Tryd.prog 29 #[.int .i64 k, .slice A n c] w fun e w' => Kept w w' ∧
      ((∃ A' c', e = .returned (.tuple #[.slice A' xs.length c', .bool true]) ∧ (∀ x ∈ xs, x.1 ≤ topFor k) ∧ w'.ownsRow w.heap.size 114 4 (.slice A' xs.length c') xs.length (flat row4 (xs.map (rowFor k)))) ∨
        (e = .returned (.tuple #[.slice none 0 0, .bool false]) ∧ ¬ ∀ x ∈ xs, x.1 ≤ topFor k)) := by
  subst hn
  have htop : topFor k ≤ 52 := by rcases hk with rfl | rfl <;> decide
  have Hk := Lib.hid hk
  clear hk
  go_enter Tryd.func29, Tryd.ntmps29
  go_wp2_with (go_at_call 55; refine (most_any k Hk.out _).mono ?_; rintro e w1 ⟨rfl, rfl⟩)
  go_loopg [8, 20] (xs.length + 1) (fun g v i wr => ∃ (j : Nat) (A' : Option Addr) (c' : Nat), xs.length - j < g ∧ j ≤ xs.length ∧ i = .int .i64 j ∧ v = .slice A' j c' ∧ Hid (∀ x ∈ xs.take j, x.1 ≤ topFor k) ∧
    wr.ownsRow w.heap.size 114 4 (.slice A' j c') j (flat row4 ((xs.map (rowFor k)).take j)) ∧ Kept w wr)
  case atStart => exact ⟨0, none, 0, by omega, by omega, rfl, rfl, by simp [Hid], World.ownsRow_nil _ _ _ _, Keep.refl _ _⟩
  case round =>
    obtain ⟨j, A', c', q1, q2, rfl, rfl, q3, qo, qk⟩ := hrel
    by_cases hlt : j < xs.length
    · obtain ⟨g, o, x, hR, rfl, hx, hc⟩ := (hs.kept qk).row cel3_length (by decide) hlt
      obtain ⟨x0, x1, x2⟩ := x
      have c0 : wr.cell? ⟨g, o + j * 3, none⟩ = some (.int .i64 x0) := hc 0 _ rfl
      have c1 : wr.cell? ⟨g, o + j * 3 + 1, none⟩ = some (.int .i64 x1) := hc 1 _ rfl
      have c2 : wr.cell? ⟨g, o + j * 3 + 2, none⟩ = some (.int .i64 x2) := hc 2 _ rfl
      clear hc
      by_cases hbig : topFor k < x0
      · go_wp2
        go_ret2
        refine ⟨qk.alloc _, .inr ⟨rfl, fun h => ?_⟩⟩
        have := h _ (List.mem_of_getElem? hx.out)
        simp only at this
        omega
      · have hle : x0 ≤ topFor k := by omega
        have hb0 : Blk (wr.alloc (.cells #[.int .i64 x0, .int .i64 x1, .int .i64 x2] 57)) wr.heap.size 57 [.int .i64 x0, .int .i64 x1, .int .i64 x2] := Blk.new wr _ _
        have qk1 : Kept w (wr.alloc (.cells #[.int .i64 x0, .int .i64 x1, .int .i64 x2] 57)) := qk.alloc _
        have qo1 := qo.alloc (.cells #[.int .i64 x0, .int .i64 x1, .int .i64 x2] 57)
        have hrow : (xs.map (rowFor k))[j]? = some (rowFor k (x0, x1, x2)) := by rw [List.getElem?_map, hx.out]; rfl
        have hq3 : ∀ x ∈ xs.take (j + 1), x.1 ≤ topFor k := by
          intro x hxm
          rw [take_push hx.out] at hxm
          rcases List.mem_append.1 hxm with h | h
          · exact q3.out x h
          · rw [List.mem_singleton.1 h]; exact hle
        have Hrow := Lib.hid hrow
        have Hq3 := Lib.hid hq3
        clear hrow hq3
        go_wp2_with fail
        generalize wr.alloc (.cells #[.int .i64 x0, .int .i64 x1, .int .i64 x2] 57) = W at hb0 qk1 qo1 ⊢
        generalize wr.heap.size = b at hb0 ⊢
        refine (code_any k x0 Hk.out hle _).mono ?_
        rintro e w2 ⟨rfl, hk2⟩
        have hb2 := hb0.kept hk2
        have d1 : w2.cell? ⟨b, 1, none⟩ = some (.int .i64 x1) := hb2.cell 1
        have d2 : w2.cell? ⟨b, 2, none⟩ = some (.int .i64 x2) := hb2.cell 2
        have qk2 := qk1.trans hk2
        have qo2 := own_kept qo1 hk2
        clear hb0 hb2 qk1 qo1 qk qo
        go_wp2_with (at_builtin; refine wpList_push rfl _ _ rfl elRowS qk2 A' j c' _ rfl qo2 (row4 (rowFor k (x0, x1, x2))) (by simp [Act.eval]) rfl (by simp [row4, Value.oneCell']) (by omega) ?_; intro A3 c3 w3 hown3 hk3 _)
        go_roundg (xs.length - j)
        case measure => exact q1
        case rel => exact ⟨j + 1, A3, c3, by omega, by omega, rfl, rfl, Hq3.out, by rw [flat_push Hrow.out]; exact hown3, hk3⟩
    · obtain rfl : j = xs.length := by omega
      rw [List.take_length] at q3
      rw [List.take_of_length_le (by simp)] at qo
      go_wp2
      go_ret2
      exact ⟨qk, .inl ⟨A', c', rfl, q3.out, qo⟩⟩
end Go.Proofs.YtabaholflahepaaDoor
