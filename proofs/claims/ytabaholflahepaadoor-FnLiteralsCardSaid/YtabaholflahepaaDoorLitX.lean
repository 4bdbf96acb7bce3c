/-
  Contract of spec.literals: raw literals, and one byte again and again.
-/
import Derived.Test.YtabaholflahepaaDoorLitA
namespace Go.Proofs.YtabaholflahepaaDoor
open Go.RowKit

theorem and_i64_3s {a : Nat} (h : a < 256) : Go.bits .and .i64 (a : Int) 3 = ((a % 4 : Nat) : Int) := by
  have e : Go.bits .and .i64 (a : Int) ((3 : Nat) : Int) = ((a &&& 3 : Nat) : Int) := i64_and_nat a 3 (by omega) (by decide)
  have e2 : a &&& 3 = a % 2 ^ 2 := and_mask a 2
  rw [e2] at e
  exact e
/-- What spec.literals hands back. -/
def SLitPost (R S : Nat → Prop) (w : World) (v : Nat × List Nat × Nat) (e : Ending) (w' : World) : Prop :=
  Keep S w w' ∧ ((v.1 = 1 ∧ ∃ A' n c', Hid (n = v.2.1.length) ∧ e = .returned (.tuple #[.slice A' n c', .int .i64 ((v.2.2 : Nat) : Int), .int .i64 1]) ∧ Sl w' (fun k => R k ∨ (w.heap.size ≤ k ∧ k < w'.heap.size)) A' (u8s v.2.1)) ∨
    (v.1 ≠ 1 ∧ v.1 ≤ 2 ∧ ∃ x y, e = .returned (.tuple #[x, y, .int .i64 ((v.1 : Nat) : Int)])))
theorem Sl.may {w : World} {R R' : Nat → Prop} {A : Option Addr} {l : List Value} (h : Sl w R A l) (hR : ∀ k, R k → R' k) : Sl w R' A l := by
  rcases h with h | ⟨g, o, h1, h2, h3⟩
  · exact .inl h
  · exact .inr ⟨g, o, hR g h1, h2, h3⟩
theorem Sl.whole {w : World} {R : Nat → Prop} {g : Nat} {t : TypeId} {cs : List Value} (h : Blk w g t cs) (hR : R g) : Sl w R (some ⟨g, 0, none⟩) cs := .inr ⟨g, 0, hR, rfl, fun j u hu => by rw [Nat.zero_add, h.cell]; exact hu⟩
theorem Sl.front {w : World} {R : Nat → Prop} {A : Option Addr} {l : List Nat} (h : Sl w R A (u8s l)) (c k : Nat) : Sl w R (if c = 0 then A else A.map (·.add (0 * 1))) (u8s (l.take k)) := by
  have h1 : Sl w R A (u8s (l.take k)) := by
    have := h.take k
    simpa [u8s, List.map_take] using this
  rcases h1 with h1 | ⟨g, o, h2, rfl, h3⟩
  · exact .inl h1
  · refine .inr ⟨g, o, h2, ?_, h3⟩
    split
    · rfl
    · simp [Addr.add]
theorem run_front (A : Option Addr) (n c k : Nat) (hk : k ≤ c) (w : World) :
    Sem.run Tryd.prog (Instr.sliceAt 22 (.slice A n c) none (some (.int .i64 (k : Int))) none) w = .ok (.slice (if c = 0 then A else A.map (·.add (0 * 1))) k c) w := by
  have ht : Tryd.prog.underlying 22 = some (.slice (Tryd.prog.elem 22)) := by kernel_rfl
  rw [run_sliceAt_slice w 22 _ _ _ _ ht, run_slice_h w 22 A n c ht .i64 k (by omega) (by omega), size22]
  simp [Result.andThen, sliced]
theorem run_mid (A : Option Addr) (n c k s : Nat) (hk : k + s ≤ n) (hc : n ≤ c) (w : World) :
    Sem.run Tryd.prog (Instr.sliceAt 22 (.slice A n c) (some (.int .i64 (k : Int))) (some (.int .i64 ((k : Int) + (s : Int)))) none) w = .ok (.slice (if c = k then A else A.map (·.add (k * 1))) s (c - k)) w := by
  have ht : Tryd.prog.underlying 22 = some (.slice (Tryd.prog.elem 22)) := by kernel_rfl
  rw [run_sliceAt_slice w 22 _ _ _ _ ht, run_slice_lh w 22 A n c ht .i64 .i64 k (k + s) (by omega) (by omega) (by omega), size22]
  simp [Result.andThen, sliced]
  omega
theorem made_u8 : ∀ n : Nat, List.replicate n (Value.int .u8 0) = u8s (List.replicate n 0) := fun n => by rw [u8s, List.map_replicate]; rfl
theorem fill_set {x S i : Nat} (h : i < S) : (u8s (List.replicate i x ++ List.replicate (S - i) 0)).set i (.int .u8 (x : Int)) = u8s (List.replicate (i + 1) x ++ List.replicate (S - (i + 1)) 0) := by
  have e : List.replicate (S - i) 0 = 0 :: List.replicate (S - (i + 1)) 0 := by rw [show S - i = (S - (i + 1)) + 1 by omega]; rfl
  rw [e, u8s, u8s, List.map_append, List.map_append, List.map_cons, List.set_append_right _ _ (by simp), List.length_map, List.length_replicate, Nat.sub_self, List.set_cons_zero, List.replicate_succ', List.map_append, List.append_assoc]
  rfl
theorem num_bound : ∀ (l : List Nat), Bytes l → num l < 2 ^ (8 * l.length)
  | [], _ => by simp [num]
  | x :: l, h => by
    have h1 := num_bound l (fun y hy => h y (List.mem_cons_of_mem _ hy))
    have h2 := h x List.mem_cons_self
    rw [num, List.length_cons, show 8 * (l.length + 1) = 8 * l.length + 8 by omega, Nat.pow_add]
    have : (2 ^ 8 : Nat) = 256 := by decide
    omega

set_option maxHeartbeats 8000000 in
set_option maxRecDepth 4000 in
theorem specLitR0 {R : Nat → Prop} (sb : Nat) (A : Option Addr) (c : Nat) (ds : List Nat) (b0 k : Nat) (w : World) (hs : Sl w R A (u8s ds)) (hd : Bytes ds) (hlen : ds.length ≤ 1048576) (hc : ds.length ≤ c)
    (h0 : ds[0]? = some b0) (hk : b0 % 4 = k) (hk2 : k < 2) (hf : b0 / 4 % 4 = 0) :
    Calls Tryd.prog 65 #[.pointer (some ⟨sb, 0, none⟩), .slice A ds.length c] w (SLitPost R (fun _ => False) w (litR ds k 0)) := by
  have h256 := hd b0 (List.mem_of_getElem? h0)
  have hl0 : 0 < ds.length := (List.getElem?_eq_some_iff.1 h0).1
  have hg0 : ds.getD 0 0 = b0 := by rw [List.getD_eq_getElem?_getD, h0]; rfl
  obtain ⟨g, o, hRg, rfl, hcell⟩ := hs.get (by simp; omega)
  have hc0 : w.cell? ⟨g, o, none⟩ = some (.int .u8 (b0 : Int)) := by
    have h := hcell 0 _ (u8s_at hl0)
    rw [hg0] at h
    exact h
  have hbk : Go.bits .and .i64 (b0 : Int) 3 = (k : Int) := by rw [and_i64_3s h256, hk]
  have hbf : Go.bits .and .i64 ((b0 : Int) / 4) 3 = 0 := by
    have h := and_i64_3s (a := b0 / 4) (by omega)
    rw [hf, show ((b0 / 4 : Nat) : Int) = (b0 : Int) / 4 by omega] at h
    exact h
  obtain ⟨N, hN⟩ : ∃ N, N = ds.length := ⟨_, rfl⟩
  obtain ⟨S, hS⟩ : ∃ S, S = raws ds 0 := ⟨_, rfl⟩
  have hO : hd1 0 = 1 := rfl
  have hlr : litR ds k 0 = if N < 1 then (2, [], 0) else if 131072 < S then (0, [], 0) else if k = 1 then (if N < 1 + 1 then (2, [], 0) else (1, List.replicate S (ds.getD 1 0), 1 + 1)) else if N < 1 + S then (2, [], 0) else (1, (ds.drop 1).take S, 1 + S) := by
    unfold litR
    rw [← hN, ← hS, hO]
  have hSn : S = num (ds.take 1) / 2 ^ 3 := hS
  have hnb : num (ds.take 1) < 16777216 := by
    have h := num_bound (ds.take 1) (fun y hy => hd y (List.mem_of_mem_take hy))
    have h2 : (2 : Nat) ^ (8 * (ds.take 1).length) ≤ 2 ^ 24 := Nat.pow_le_pow_right (by decide) (by rw [List.length_take]; omega)
    omega
  have hSi : ((num (ds.take 1) : Nat) : Int) / 8 = (S : Int) := by
    have e : (2 : Nat) ^ 3 = 8 := by decide
    rw [e] at hSn
    omega
  have hSb : S < 16777216 := by
    have e : (2 : Nat) ^ 3 = 8 := by decide
    rw [e] at hSn
    omega
  have Hlr := Lib.hid hlr
  have Hs := Lib.hid hs
  have Hd := Lib.hid hd
  rw [← hN] at hlen hc hl0 ⊢
  have HN := Lib.hid hN
  have Hcell := Lib.hid hcell
  have h01 : k = 0 ∨ k = 1 := by omega
  clear hs hd hN hcell hg0 hk hf hlr hS hSn hO
  go_enter Tryd.func65, Tryd.ntmps65
  go_upto_region 3 with (fail)
  go_quiet (fail)
  generalize hW1 : w.drewN nq = W1
  have hk1 : Kept w W1 := hW1 ▸ (Keep.refl _ _).drewN _
  have hA1 : (W1.alloc (.cells #[.int .i64 1, .int .i64 2, .int .i64 1, .int .i64 3] 3)).cell? ⟨W1.heap.size, 0, none⟩ = some (.int .i64 1) := (Blk.new W1 3 [.int .i64 1, .int .i64 2, .int .i64 1, .int .i64 3]).cell 0
  have hk2 : Kept w (W1.alloc (.cells #[.int .i64 1, .int .i64 2, .int .i64 1, .int .i64 3] 3)) := hk1.alloc _
  have Hk2 := Lib.hid hk2
  have HW1 := Lib.hid hW1
  clear hk2 hW1
  rcases h01 with rfl | rfl
  · skip
    go_upto_region 8 with (fail)
    generalize hW2 : W1.alloc _ = W2
    have hk2 := Hk2.out
    rw [hW2] at hk2
    have hfr : Sl w R (if c = 0 then some (⟨g, o, none⟩ : Addr) else (some (⟨g, o, none⟩ : Addr)).map (·.add (0 * 1))) (u8s (ds.take 1)) := Hs.out.front c 1
    have hrun : ∀ w', Sem.run Tryd.prog (Instr.sliceAt 22 (.slice (some ⟨g, o, none⟩) N c) none (some (.int .i64 1)) none) w' = .ok (.slice (if c = 0 then some (⟨g, o, none⟩ : Addr) else (some (⟨g, o, none⟩ : Addr)).map (·.add (0 * 1))) 1 c) w' := fun w' => run_front (some ⟨g, o, none⟩) N c 1 (by omega) w'
    generalize (if c = 0 then some (⟨g, o, none⟩ : Addr) else (some (⟨g, o, none⟩ : Addr)).map (·.add (0 * 1))) = E0 at hfr hrun
    have hnum := fun w' (hk : Kept W2 w') => numberLow_any (R := R) E0 1 c (ds.take 1) (by rw [List.length_take, ← HN.out]; omega) w' (hfr.kept (hk2.trans hk)) (fun y hy => Hd.out y (List.mem_of_mem_take hy)) (by decide)
    have Hnum := Lib.hid hnum
    clear hnum hA1 hW2 Hk2 hfr
    go_wp2
    go_region_with (first | (go_at_call 87; (with_reducible refine (Hnum.out _ (by first | exact (Keep.refl _ _).drew | exact ((Keep.refl _ _).alloc _).drew | exact (Keep.refl _ _) | exact (Keep.refl _ _).alloc _ | exact ((Keep.refl _ _).drew).alloc _)).mono ?_); rintro e w1 ⟨rfl, rfl⟩))
    all_goals
      generalize hW3 : World.drew (W2.alloc _) = W3
      have hk3 : Kept w W3 := hW3 ▸ (hk2.alloc _).drew
      clear hrun Hnum hW3
      by_cases hbig : 131072 < S
      · go_wp2
        go_ret3
        rw [Hlr.out, if_neg (by omega), if_pos hbig]
        exact ⟨hk3, .inr ⟨by decide, by decide, _, _, rfl⟩⟩
      by_cases hfit : N < 1 + S
      · go_wp2
        go_ret3
        rw [Hlr.out, if_neg (by omega), if_neg hbig, if_neg (show ¬ (0 : Nat) = 1 by decide), if_pos hfit]
        exact ⟨hk3, .inr ⟨by decide, by decide, _, _, rfl⟩⟩
      have hpart : Sl w R (if c = 1 then some (⟨g, o, none⟩ : Addr) else (some (⟨g, o, none⟩ : Addr)).map (·.add (1 * 1))) (u8s ((ds.drop 1).take S)) := (Hs.out.back (c := c) (k := 1) (by rw [← HN.out]; exact hc)).firsts S
      have hrun : ∀ w', Sem.run Tryd.prog (Instr.sliceAt 22 (.slice (some ⟨g, o, none⟩) N c) (some (.int .i64 1)) (some (.int .i64 ((1 : Int) + (S : Int)))) none) w' = .ok (.slice (if c = 1 then some (⟨g, o, none⟩ : Addr) else (some (⟨g, o, none⟩ : Addr)).map (·.add (1 * 1))) S (c - 1)) w' := fun w' => run_mid (some ⟨g, o, none⟩) N c 1 S (by omega) hc w'
      generalize (if c = 1 then some (⟨g, o, none⟩ : Addr) else (some (⟨g, o, none⟩ : Addr)).map (·.add (1 * 1))) = E at hpart hrun
      have hpl : ((ds.drop 1).take S).length = S := by rw [List.length_take, List.length_drop, ← HN.out]; omega
      have Hpl := Lib.hid hpl
      have Hpart := Lib.hid hpart
      clear hpl hpart
      go_wp2
      go_ret3
      rw [Hlr.out, if_neg (by omega), if_neg hbig, if_neg (show ¬ (0 : Nat) = 1 by decide), if_neg hfit]
      exact ⟨hk3, .inl ⟨rfl, E, S, c - 1, Hpl.out.symm, rfl, (Hpart.out.kept hk3).may (fun k h => .inl h)⟩⟩
  · skip
    go_upto_region 8 with (fail)
    generalize hW2 : W1.alloc _ = W2
    have hk2 := Hk2.out
    rw [hW2] at hk2
    have hfr : Sl w R (if c = 0 then some (⟨g, o, none⟩ : Addr) else (some (⟨g, o, none⟩ : Addr)).map (·.add (0 * 1))) (u8s (ds.take 1)) := Hs.out.front c 1
    have hrun : ∀ w', Sem.run Tryd.prog (Instr.sliceAt 22 (.slice (some ⟨g, o, none⟩) N c) none (some (.int .i64 1)) none) w' = .ok (.slice (if c = 0 then some (⟨g, o, none⟩ : Addr) else (some (⟨g, o, none⟩ : Addr)).map (·.add (0 * 1))) 1 c) w' := fun w' => run_front (some ⟨g, o, none⟩) N c 1 (by omega) w'
    generalize (if c = 0 then some (⟨g, o, none⟩ : Addr) else (some (⟨g, o, none⟩ : Addr)).map (·.add (0 * 1))) = E0 at hfr hrun
    have hnum := fun w' (hk : Kept W2 w') => numberLow_any (R := R) E0 1 c (ds.take 1) (by rw [List.length_take, ← HN.out]; omega) w' (hfr.kept (hk2.trans hk)) (fun y hy => Hd.out y (List.mem_of_mem_take hy)) (by decide)
    have Hnum := Lib.hid hnum
    clear hnum hA1 hW2 Hk2 hfr
    go_wp2
    go_region_with (first | (go_at_call 87; (with_reducible refine (Hnum.out _ (by first | exact (Keep.refl _ _).drew | exact ((Keep.refl _ _).alloc _).drew | exact (Keep.refl _ _) | exact (Keep.refl _ _).alloc _ | exact ((Keep.refl _ _).drew).alloc _)).mono ?_); rintro e w1 ⟨rfl, rfl⟩))
    all_goals
      generalize hW3 : World.drew (W2.alloc _) = W3
      have hk3 : Kept w W3 := hW3 ▸ (hk2.alloc _).drew
      clear hrun Hnum hW3
      by_cases hbig : 131072 < S
      · go_wp2
        go_ret3
        rw [Hlr.out, if_neg (by omega), if_pos hbig]
        exact ⟨hk3, .inr ⟨by decide, by decide, _, _, rfl⟩⟩
      by_cases hfit : N < 1 + 1
      · go_wp2
        go_ret3
        rw [Hlr.out, if_neg (by omega), if_neg hbig, if_pos trivial, if_pos hfit]
        exact ⟨hk3, .inr ⟨by decide, by decide, _, _, rfl⟩⟩
      obtain ⟨x, hx⟩ : ∃ x, x = ds.getD 1 0 := ⟨_, rfl⟩
      have hcx : w.cell? ⟨g, o + 1, none⟩ = some (.int .u8 (x : Int)) := by rw [hx]; exact Hcell.out 1 _ (u8s_at (by rw [← HN.out]; omega))
      have hON : 1 < N := by omega
      have Hx := Lib.hid hx
      clear hx
      go_wp2_with (at_make; refine wpList_make rfl _ _ rfl el22 .i64 .i64 S S rfl rfl (Nat.le_refl _) (by omega) ?_; intro w4 hk4 hg4)
      obtain ⟨gb, hgb⟩ : ∃ x, x = W3.heap.size := ⟨_, rfl⟩
      rw [← hgb] at hg4 ⊢
      have hg5 : Blk w4 gb 5 (u8s (List.replicate 0 x ++ List.replicate (S - 0) 0)) := by
        rw [Nat.mul_one, made_list _ rfl, made_u8] at hg4
        exact hg4
      have hgw : w.heap.size ≤ gb := by rw [hgb]; exact hk3.size
      have hk5 : Kept w w4 := hk3.trans hk4
      clear hg4 hgb
      go_loopg [70] (S + 1) (fun gg s70 wr => ∃ i : Nat, S - i < gg ∧ i ≤ S ∧ s70 = .int .i64 i ∧ Blk wr gb 5 (u8s (List.replicate i x ++ List.replicate (S - i) 0)) ∧ Kept w wr)
      case atStart => exact ⟨0, by omega, by omega, rfl, hg5, hk5⟩
      case round =>
        obtain ⟨i, q1, q2, rfl, qb, qk⟩ := hrel
        by_cases hlt : i < S
        · have qx := qk.cell hcx (fun h => h)
          have q0 : wr.cell? ⟨gb, i, none⟩ = some (.int .u8 0) := by
            rw [qb.cell, u8s, List.getElem?_map, List.getElem?_append_right (by simp), List.length_replicate, Nat.sub_self, List.getElem?_replicate, if_pos (by omega)]
            rfl
          have qf := qb.frozen i
          have qs := qb.set i (.int .u8 (x : Int))
          rw [fill_set hlt] at qs
          have qk2 := qk.set (p := ⟨gb, i, none⟩) (.inr hgw) (.int .u8 (x : Int))
          have Qs := Lib.hid qs
          have Qk := Lib.hid qk2
          clear qs qk2 qb
          go_wp2
          go_roundg (S - i)
          case measure => exact q1
          case rel => exact ⟨i + 1, by omega, by omega, rfl, Qs.out, Qk.out⟩
        · obtain rfl : S = i := by omega
          have qb2 : Blk wr gb 5 (u8s (List.replicate S x)) := by
            rw [Nat.sub_self, List.replicate_zero, List.append_nil] at qb
            exact qb
          clear qb
          go_wp2
          go_ret3
          rw [Hlr.out, if_neg (by omega), if_neg hbig, if_pos trivial, if_neg hfit, ← Hx.out]
          exact ⟨qk, .inl ⟨rfl, _, S, S, (List.length_replicate ..).symm, rfl, Sl.whole qb2 (.inr ⟨hgw, qb2.lt⟩)⟩⟩

set_option maxHeartbeats 8000000 in
set_option maxRecDepth 4000 in
theorem specLitR1 {R : Nat → Prop} (sb : Nat) (A : Option Addr) (c : Nat) (ds : List Nat) (b0 k : Nat) (w : World) (hs : Sl w R A (u8s ds)) (hd : Bytes ds) (hlen : ds.length ≤ 1048576) (hc : ds.length ≤ c)
    (h0 : ds[0]? = some b0) (hk : b0 % 4 = k) (hk2 : k < 2) (hf : b0 / 4 % 4 = 1) :
    Calls Tryd.prog 65 #[.pointer (some ⟨sb, 0, none⟩), .slice A ds.length c] w (SLitPost R (fun _ => False) w (litR ds k 1)) := by
  have h256 := hd b0 (List.mem_of_getElem? h0)
  have hl0 : 0 < ds.length := (List.getElem?_eq_some_iff.1 h0).1
  have hg0 : ds.getD 0 0 = b0 := by rw [List.getD_eq_getElem?_getD, h0]; rfl
  obtain ⟨g, o, hRg, rfl, hcell⟩ := hs.get (by simp; omega)
  have hc0 : w.cell? ⟨g, o, none⟩ = some (.int .u8 (b0 : Int)) := by
    have h := hcell 0 _ (u8s_at hl0)
    rw [hg0] at h
    exact h
  have hbk : Go.bits .and .i64 (b0 : Int) 3 = (k : Int) := by rw [and_i64_3s h256, hk]
  have hbf : Go.bits .and .i64 ((b0 : Int) / 4) 3 = 1 := by
    have h := and_i64_3s (a := b0 / 4) (by omega)
    rw [hf, show ((b0 / 4 : Nat) : Int) = (b0 : Int) / 4 by omega] at h
    exact h
  obtain ⟨N, hN⟩ : ∃ N, N = ds.length := ⟨_, rfl⟩
  obtain ⟨S, hS⟩ : ∃ S, S = raws ds 1 := ⟨_, rfl⟩
  have hO : hd1 1 = 2 := rfl
  have hlr : litR ds k 1 = if N < 2 then (2, [], 0) else if 131072 < S then (0, [], 0) else if k = 1 then (if N < 2 + 1 then (2, [], 0) else (1, List.replicate S (ds.getD 2 0), 2 + 1)) else if N < 2 + S then (2, [], 0) else (1, (ds.drop 2).take S, 2 + S) := by
    unfold litR
    rw [← hN, ← hS, hO]
  have hSn : S = num (ds.take 2) / 2 ^ 4 := hS
  have hnb : num (ds.take 2) < 16777216 := by
    have h := num_bound (ds.take 2) (fun y hy => hd y (List.mem_of_mem_take hy))
    have h2 : (2 : Nat) ^ (8 * (ds.take 2).length) ≤ 2 ^ 24 := Nat.pow_le_pow_right (by decide) (by rw [List.length_take]; omega)
    omega
  have hSi : ((num (ds.take 2) : Nat) : Int) / 16 = (S : Int) := by
    have e : (2 : Nat) ^ 4 = 16 := by decide
    rw [e] at hSn
    omega
  have hSb : S < 16777216 := by
    have e : (2 : Nat) ^ 4 = 16 := by decide
    rw [e] at hSn
    omega
  have Hlr := Lib.hid hlr
  have Hs := Lib.hid hs
  have Hd := Lib.hid hd
  rw [← hN] at hlen hc hl0 ⊢
  have HN := Lib.hid hN
  have Hcell := Lib.hid hcell
  have h01 : k = 0 ∨ k = 1 := by omega
  clear hs hd hN hcell hg0 hk hf hlr hS hSn hO
  go_enter Tryd.func65, Tryd.ntmps65
  go_upto_region 3 with (fail)
  go_quiet (fail)
  generalize hW1 : w.drewN nq = W1
  have hk1 : Kept w W1 := hW1 ▸ (Keep.refl _ _).drewN _
  have hA1 : (W1.alloc (.cells #[.int .i64 1, .int .i64 2, .int .i64 1, .int .i64 3] 3)).cell? ⟨W1.heap.size, 1, none⟩ = some (.int .i64 2) := (Blk.new W1 3 [.int .i64 1, .int .i64 2, .int .i64 1, .int .i64 3]).cell 1
  have hk2 : Kept w (W1.alloc (.cells #[.int .i64 1, .int .i64 2, .int .i64 1, .int .i64 3] 3)) := hk1.alloc _
  have Hk2 := Lib.hid hk2
  have HW1 := Lib.hid hW1
  clear hk2 hW1
  rcases h01 with rfl | rfl
  · skip
    by_cases hshort : N < 2
    · go_wp2
      go_ret3
      rw [Hlr.out, if_pos hshort]
      exact ⟨Hk2.out, .inr ⟨by decide, by decide, _, _, rfl⟩⟩
    go_upto_region 8 with (fail)
    generalize hW2 : W1.alloc _ = W2
    have hk2 := Hk2.out
    rw [hW2] at hk2
    have hfr : Sl w R (if c = 0 then some (⟨g, o, none⟩ : Addr) else (some (⟨g, o, none⟩ : Addr)).map (·.add (0 * 1))) (u8s (ds.take 2)) := Hs.out.front c 2
    have hrun : ∀ w', Sem.run Tryd.prog (Instr.sliceAt 22 (.slice (some ⟨g, o, none⟩) N c) none (some (.int .i64 2)) none) w' = .ok (.slice (if c = 0 then some (⟨g, o, none⟩ : Addr) else (some (⟨g, o, none⟩ : Addr)).map (·.add (0 * 1))) 2 c) w' := fun w' => run_front (some ⟨g, o, none⟩) N c 2 (by omega) w'
    generalize (if c = 0 then some (⟨g, o, none⟩ : Addr) else (some (⟨g, o, none⟩ : Addr)).map (·.add (0 * 1))) = E0 at hfr hrun
    have hnum := fun w' (hk : Kept W2 w') => numberLow_any (R := R) E0 2 c (ds.take 2) (by rw [List.length_take, ← HN.out]; omega) w' (hfr.kept (hk2.trans hk)) (fun y hy => Hd.out y (List.mem_of_mem_take hy)) (by decide)
    have Hnum := Lib.hid hnum
    clear hnum hA1 hW2 Hk2 hfr
    go_wp2
    go_region_with (first | (go_at_call 87; (with_reducible refine (Hnum.out _ (by first | exact (Keep.refl _ _).drew | exact ((Keep.refl _ _).alloc _).drew | exact (Keep.refl _ _) | exact (Keep.refl _ _).alloc _ | exact ((Keep.refl _ _).drew).alloc _)).mono ?_); rintro e w1 ⟨rfl, rfl⟩))
    all_goals
      generalize hW3 : World.drew (W2.alloc _) = W3
      have hk3 : Kept w W3 := hW3 ▸ (hk2.alloc _).drew
      clear hrun Hnum hW3
      by_cases hbig : 131072 < S
      · go_wp2
        go_ret3
        rw [Hlr.out, if_neg (by omega), if_pos hbig]
        exact ⟨hk3, .inr ⟨by decide, by decide, _, _, rfl⟩⟩
      by_cases hfit : N < 2 + S
      · go_wp2
        go_ret3
        rw [Hlr.out, if_neg (by omega), if_neg hbig, if_neg (show ¬ (0 : Nat) = 1 by decide), if_pos hfit]
        exact ⟨hk3, .inr ⟨by decide, by decide, _, _, rfl⟩⟩
      have hpart : Sl w R (if c = 2 then some (⟨g, o, none⟩ : Addr) else (some (⟨g, o, none⟩ : Addr)).map (·.add (2 * 1))) (u8s ((ds.drop 2).take S)) := (Hs.out.back (c := c) (k := 2) (by rw [← HN.out]; exact hc)).firsts S
      have hrun : ∀ w', Sem.run Tryd.prog (Instr.sliceAt 22 (.slice (some ⟨g, o, none⟩) N c) (some (.int .i64 2)) (some (.int .i64 ((2 : Int) + (S : Int)))) none) w' = .ok (.slice (if c = 2 then some (⟨g, o, none⟩ : Addr) else (some (⟨g, o, none⟩ : Addr)).map (·.add (2 * 1))) S (c - 2)) w' := fun w' => run_mid (some ⟨g, o, none⟩) N c 2 S (by omega) hc w'
      generalize (if c = 2 then some (⟨g, o, none⟩ : Addr) else (some (⟨g, o, none⟩ : Addr)).map (·.add (2 * 1))) = E at hpart hrun
      have hpl : ((ds.drop 2).take S).length = S := by rw [List.length_take, List.length_drop, ← HN.out]; omega
      have Hpl := Lib.hid hpl
      have Hpart := Lib.hid hpart
      clear hpl hpart
      go_wp2
      go_ret3
      rw [Hlr.out, if_neg (by omega), if_neg hbig, if_neg (show ¬ (0 : Nat) = 1 by decide), if_neg hfit]
      exact ⟨hk3, .inl ⟨rfl, E, S, c - 2, Hpl.out.symm, rfl, (Hpart.out.kept hk3).may (fun k h => .inl h)⟩⟩
  · skip
    by_cases hshort : N < 2
    · go_wp2
      go_ret3
      rw [Hlr.out, if_pos hshort]
      exact ⟨Hk2.out, .inr ⟨by decide, by decide, _, _, rfl⟩⟩
    go_upto_region 8 with (fail)
    generalize hW2 : W1.alloc _ = W2
    have hk2 := Hk2.out
    rw [hW2] at hk2
    have hfr : Sl w R (if c = 0 then some (⟨g, o, none⟩ : Addr) else (some (⟨g, o, none⟩ : Addr)).map (·.add (0 * 1))) (u8s (ds.take 2)) := Hs.out.front c 2
    have hrun : ∀ w', Sem.run Tryd.prog (Instr.sliceAt 22 (.slice (some ⟨g, o, none⟩) N c) none (some (.int .i64 2)) none) w' = .ok (.slice (if c = 0 then some (⟨g, o, none⟩ : Addr) else (some (⟨g, o, none⟩ : Addr)).map (·.add (0 * 1))) 2 c) w' := fun w' => run_front (some ⟨g, o, none⟩) N c 2 (by omega) w'
    generalize (if c = 0 then some (⟨g, o, none⟩ : Addr) else (some (⟨g, o, none⟩ : Addr)).map (·.add (0 * 1))) = E0 at hfr hrun
    have hnum := fun w' (hk : Kept W2 w') => numberLow_any (R := R) E0 2 c (ds.take 2) (by rw [List.length_take, ← HN.out]; omega) w' (hfr.kept (hk2.trans hk)) (fun y hy => Hd.out y (List.mem_of_mem_take hy)) (by decide)
    have Hnum := Lib.hid hnum
    clear hnum hA1 hW2 Hk2 hfr
    go_wp2
    go_region_with (first | (go_at_call 87; (with_reducible refine (Hnum.out _ (by first | exact (Keep.refl _ _).drew | exact ((Keep.refl _ _).alloc _).drew | exact (Keep.refl _ _) | exact (Keep.refl _ _).alloc _ | exact ((Keep.refl _ _).drew).alloc _)).mono ?_); rintro e w1 ⟨rfl, rfl⟩))
    all_goals
      generalize hW3 : World.drew (W2.alloc _) = W3
      have hk3 : Kept w W3 := hW3 ▸ (hk2.alloc _).drew
      clear hrun Hnum hW3
      by_cases hbig : 131072 < S
      · go_wp2
        go_ret3
        rw [Hlr.out, if_neg (by omega), if_pos hbig]
        exact ⟨hk3, .inr ⟨by decide, by decide, _, _, rfl⟩⟩
      by_cases hfit : N < 2 + 1
      · go_wp2
        go_ret3
        rw [Hlr.out, if_neg (by omega), if_neg hbig, if_pos trivial, if_pos hfit]
        exact ⟨hk3, .inr ⟨by decide, by decide, _, _, rfl⟩⟩
      obtain ⟨x, hx⟩ : ∃ x, x = ds.getD 2 0 := ⟨_, rfl⟩
      have hcx : w.cell? ⟨g, o + 2, none⟩ = some (.int .u8 (x : Int)) := by rw [hx]; exact Hcell.out 2 _ (u8s_at (by rw [← HN.out]; omega))
      have hON : 2 < N := by omega
      have Hx := Lib.hid hx
      clear hx
      go_wp2_with (at_make; refine wpList_make rfl _ _ rfl el22 .i64 .i64 S S rfl rfl (Nat.le_refl _) (by omega) ?_; intro w4 hk4 hg4)
      obtain ⟨gb, hgb⟩ : ∃ x, x = W3.heap.size := ⟨_, rfl⟩
      rw [← hgb] at hg4 ⊢
      have hg5 : Blk w4 gb 5 (u8s (List.replicate 0 x ++ List.replicate (S - 0) 0)) := by
        rw [Nat.mul_one, made_list _ rfl, made_u8] at hg4
        exact hg4
      have hgw : w.heap.size ≤ gb := by rw [hgb]; exact hk3.size
      have hk5 : Kept w w4 := hk3.trans hk4
      clear hg4 hgb
      go_loopg [70] (S + 1) (fun gg s70 wr => ∃ i : Nat, S - i < gg ∧ i ≤ S ∧ s70 = .int .i64 i ∧ Blk wr gb 5 (u8s (List.replicate i x ++ List.replicate (S - i) 0)) ∧ Kept w wr)
      case atStart => exact ⟨0, by omega, by omega, rfl, hg5, hk5⟩
      case round =>
        obtain ⟨i, q1, q2, rfl, qb, qk⟩ := hrel
        by_cases hlt : i < S
        · have qx := qk.cell hcx (fun h => h)
          have q0 : wr.cell? ⟨gb, i, none⟩ = some (.int .u8 0) := by
            rw [qb.cell, u8s, List.getElem?_map, List.getElem?_append_right (by simp), List.length_replicate, Nat.sub_self, List.getElem?_replicate, if_pos (by omega)]
            rfl
          have qf := qb.frozen i
          have qs := qb.set i (.int .u8 (x : Int))
          rw [fill_set hlt] at qs
          have qk2 := qk.set (p := ⟨gb, i, none⟩) (.inr hgw) (.int .u8 (x : Int))
          have Qs := Lib.hid qs
          have Qk := Lib.hid qk2
          clear qs qk2 qb
          go_wp2
          go_roundg (S - i)
          case measure => exact q1
          case rel => exact ⟨i + 1, by omega, by omega, rfl, Qs.out, Qk.out⟩
        · obtain rfl : S = i := by omega
          have qb2 : Blk wr gb 5 (u8s (List.replicate S x)) := by
            rw [Nat.sub_self, List.replicate_zero, List.append_nil] at qb
            exact qb
          clear qb
          go_wp2
          go_ret3
          rw [Hlr.out, if_neg (by omega), if_neg hbig, if_pos trivial, if_neg hfit, ← Hx.out]
          exact ⟨qk, .inl ⟨rfl, _, S, S, (List.length_replicate ..).symm, rfl, Sl.whole qb2 (.inr ⟨hgw, qb2.lt⟩)⟩⟩

end Go.Proofs.YtabaholflahepaaDoor
