/-
  The walk of spec.Sum64: it is xxh.
-/
import Derived.Test.YtabaholflahepaaSumPlain
namespace Go.Proofs.Ytabaholflahepaa
open Go.RowKit

def u64s (l : List Nat) : List Value := l.map fun d : Nat => .int .u64 (d : Int)
theorem u64s_set (l : List Nat) (i x : Nat) : (u64s l).set i (.int .u64 (x : Int)) = u64s (l.set i x) := by simp [u64s, List.map_set]
theorem u64s_at {l : List Nat} {i x : Nat} (h : l[i]? = some x) : (u64s l)[i]? = some (.int .u64 (x : Int)) := by simp [u64s, h]

theorem Sl.cut {w : World} {R : Nat → Prop} {g o c : Nat} {l : List Nat} (h : Sl w R (some ⟨g, o, none⟩) (u8s l)) (hl : l.length ≤ c) (k : Nat) :
    Sl w R (if c = k then some ⟨g, o, none⟩ else some ⟨g, o + k, none⟩) (u8s (l.drop k)) := by
  have := h.drop k (if c = k then some ⟨g, o, none⟩ else some ⟨g, o + k, none⟩) (fun hk g' o' he => by
    simp only [Option.some.injEq, Addr.mk.injEq] at he
    obtain ⟨rfl, rfl, _⟩ := he
    simp at hk
    rw [if_neg (by omega)])
  simpa [u8s, List.map_drop] using this
theorem Sl.cut' {w : World} {R : Nat → Prop} {g o : Nat} {l : List Nat} (h : Sl w R (some ⟨g, o, none⟩) (u8s l)) (k : Nat) : Sl w R (some ⟨g, o + k, none⟩) (u8s (l.drop k)) := by
  have := h.drop k (some ⟨g, o + k, none⟩) (fun _ g' o' he => by
    simp only [Option.some.injEq, Addr.mk.injEq] at he
    obtain ⟨rfl, rfl, _⟩ := he
    rfl)
  simpa [u8s, List.map_drop] using this
theorem Sl.first {w : World} {R : Nat → Prop} {A : Option Addr} {l : List Nat} (h : Sl w R A (u8s l)) (k : Nat) : Sl w R A (u8s (l.take k)) := by
  have := h.take k
  simpa [u8s, List.map_take] using this

theorem index4 (v0 v1 v2 v3 : Nat) :
    (∀ w, Sem.run Try.prog (Instr.index 58 (.agg #[.int .u64 v0, .int .u64 v1, .int .u64 v2, .int .u64 v3]) (.int .i64 0)) w = .ok (.int .u64 v0) w) ∧
    (∀ w, Sem.run Try.prog (Instr.index 58 (.agg #[.int .u64 v0, .int .u64 v1, .int .u64 v2, .int .u64 v3]) (.int .i64 1)) w = .ok (.int .u64 v1) w) ∧
    (∀ w, Sem.run Try.prog (Instr.index 58 (.agg #[.int .u64 v0, .int .u64 v1, .int .u64 v2, .int .u64 v3]) (.int .i64 2)) w = .ok (.int .u64 v2) w) ∧
    (∀ w, Sem.run Try.prog (Instr.index 58 (.agg #[.int .u64 v0, .int .u64 v1, .int .u64 v2, .int .u64 v3]) (.int .i64 3)) w = .ok (.int .u64 v3) w) := by
  refine ⟨fun w => ?_, fun w => ?_, fun w => ?_, fun w => ?_⟩ <;> rfl

theorem merged4 (v0 v1 v2 v3 : Nat) : merged [v0, v1, v2, v3] = ([v0, v1, v2, v3].take 4).foldl mrg (conv [v0, v1, v2, v3]) := by
  simp only [merged, List.take_succ_cons, List.take_zero, List.foldl_cons, List.foldl_nil, List.getD_cons_zero, List.getD_cons_succ]

theorem accOf_lt {v l : List Nat} (hv : ∀ x ∈ v, U64 x) : ∀ x ∈ accOf v l, U64 x := by
  have h : ∀ n v l, (∀ x ∈ v, U64 x) → ∀ x ∈ stripes n v l, U64 x := by
    intro n
    induction n with
    | zero => intro v l hv; exact hv
    | succ n ih =>
      intro v l hv
      refine ih _ _ fun x hx => ?_
      obtain ⟨j, hj, rfl⟩ := List.mem_map.1 hx
      rw [if_pos (List.mem_range.1 hj)]
      exact rnd_lt _ _
  exact h _ _ _ hv
theorem accOf_length {v l : List Nat} (hv : v.length = 4) : (accOf v l).length = 4 := by
  have h : ∀ n v l, v.length = 4 → (stripes n v l).length = 4 := by
    intro n
    induction n with
    | zero => intro v l hv; exact hv
    | succ n ih => intro v l hv; exact ih _ _ (stripe_length v l)
  exact h _ _ _ hv
theorem acc0_lt : ∀ x ∈ acc0, U64 x := by unfold U64; decide

/-- The steps' numbers as the walk meets them. -/
theorem mrg_facts (h a : Nat) (hh : U64 h) : ∃ x m : Nat, bits .xor .u64 (h : Int) ((rnd 0 a : Nat) : Int) = (x : Int) ∧ IntKind.u64.wrap ((x : Int) * 11400714785074694791) = (m : Int) ∧ IntKind.u64.wrap ((m : Int) + 9650029242287828579) = ((mrg h a : Nat) : Int) :=
  ⟨h ^^^ rnd 0 a, _, u64_xor_nat h _ hh (rnd_lt 0 a), w_mul _ 11400714785074694791, w_addc _ 9650029242287828579⟩
theorem xor_lt {a b : Nat} (ha : U64 a) (hb : U64 b) : U64 (a ^^^ b) := by
  have h1 : a < 2 ^ 64 := ha
  have h2 : b < 2 ^ 64 := hb
  exact Nat.xor_lt_two_pow h1 h2
theorem by8_facts (h w : Nat) (hh : U64 h) : ∃ x m : Nat, bits .xor .u64 (h : Int) ((rnd 0 w : Nat) : Int) = (x : Int) ∧ U64 x ∧ IntKind.u64.wrap (((rot x 27 : Nat) : Int) * 11400714785074694791) = (m : Int) ∧ IntKind.u64.wrap ((m : Int) + 9650029242287828579) = ((by8 h w : Nat) : Int) :=
  ⟨h ^^^ rnd 0 w, _, u64_xor_nat h _ hh (rnd_lt 0 w), xor_lt hh (rnd_lt 0 w), w_mul _ 11400714785074694791, w_addc _ 9650029242287828579⟩
theorem by4_facts (h w : Nat) (hh : U64 h) : ∃ y x m : Nat, IntKind.u64.wrap ((w : Int) * 11400714785074694791) = (y : Int) ∧ bits .xor .u64 (h : Int) (y : Int) = (x : Int) ∧ U64 x ∧ IntKind.u64.wrap (((rot x 23 : Nat) : Int) * 14029467366897019727) = (m : Int) ∧
    IntKind.u64.wrap ((m : Int) + 1609587929392839161) = ((by4 h w : Nat) : Int) :=
  ⟨mul64 w 11400714785074694791, h ^^^ mul64 w 11400714785074694791, _, w_mul w 11400714785074694791, u64_xor_nat h _ hh (mul64_lt _ _), xor_lt hh (mul64_lt _ _), w_mul _ 14029467366897019727, w_addc _ 1609587929392839161⟩
theorem by1_facts (h w : Nat) (hh : U64 h) : ∃ y x : Nat, IntKind.u64.wrap ((w : Int) * 2870177450012600261) = (y : Int) ∧ bits .xor .u64 (h : Int) (y : Int) = (x : Int) ∧ U64 x ∧ IntKind.u64.wrap (((rot x 11 : Nat) : Int) * 11400714785074694791) = ((by1 h w : Nat) : Int) :=
  ⟨mul64 w 2870177450012600261, h ^^^ mul64 w 2870177450012600261, w_mul w 2870177450012600261, u64_xor_nat h _ hh (mul64_lt _ _), xor_lt hh (mul64_lt _ _), w_mul _ 11400714785074694791⟩
theorem div_lt {h d : Nat} (hh : U64 h) : U64 (h / d) := Nat.lt_of_le_of_lt (Nat.div_le_self _ _) hh
theorem aval_facts (h : Nat) (hh : U64 h) : ∃ x1 a x2 b q1 q2 q3 : Nat, (h : Int) / 8589934592 = (q1 : Int) ∧ bits .xor .u64 (h : Int) (q1 : Int) = (x1 : Int) ∧ IntKind.u64.wrap ((x1 : Int) * 14029467366897019727) = (a : Int) ∧
    (a : Int) / 536870912 = (q2 : Int) ∧ bits .xor .u64 (a : Int) (q2 : Int) = (x2 : Int) ∧ IntKind.u64.wrap ((x2 : Int) * 1609587929392839161) = (b : Int) ∧
    (b : Int) / 4294967296 = (q3 : Int) ∧ bits .xor .u64 (b : Int) (q3 : Int) = ((aval3 (aval2 (aval1 h)) : Nat) : Int) ∧ U64 a ∧ U64 b :=
  ⟨h ^^^ h / 8589934592, aval1 h, aval1 h ^^^ aval1 h / 536870912, aval2 (aval1 h), h / 8589934592, aval1 h / 536870912, aval2 (aval1 h) / 4294967296, rfl, u64_xor_nat _ _ hh (div_lt hh), w_mul _ 14029467366897019727,
    rfl, u64_xor_nat _ _ (mul64_lt _ _) (div_lt (mul64_lt _ _)), w_mul _ 1609587929392839161, rfl, u64_xor_nat _ _ (mul64_lt _ _) (div_lt (mul64_lt _ _)), mul64_lt _ _, mul64_lt _ _⟩

set_option maxHeartbeats 2000000 in
set_option maxRecDepth 4000 in
theorem sum64_big {R : Nat → Prop} (A : Option Addr) (n c : Nat) (l : List Nat) (hn : n = l.length) (w : World) (hs : Sl w R A (u8s l)) (hR : ∀ k, R k → k < w.heap.size) (hd : Bytes l) (hc : n ≤ c) (hbig : n ≤ 1048576) (h32 : 32 ≤ n) :
    Calls Try.prog 16 #[.slice A n c] w fun e w' => e = .returned (.int .u64 (xxh l : Nat)) ∧ Kept w w' := by
  subst hn
  obtain ⟨b, hb⟩ : ∃ b, b = w.heap.size := ⟨_, rfl⟩
  have hRb : ¬ R b := fun h => by have := hR b h; omega
  have hw1 : IntKind.u64.wrap (-11400714785074694791) = 7046029288634856825 := by rw [IntKind.wrap_u64]; decide
  have hw2 : IntKind.u64.wrap 25430182151971714518 = 6983438078262162902 := by rw [IntKind.wrap_u64]; decide
  obtain ⟨W, hW⟩ : ∃ W, W = w.alloc (.cells (u64s acc0).toArray 58) := ⟨_, rfl⟩
  have hWe : w.alloc (.cells #[.int .u64 6983438078262162902, .int .u64 14029467366897019727, .int .u64 0, .int .u64 7046029288634856825] 58) = W := hW.symm
  have hb0 : Blk W b 58 (u64s acc0) := by rw [hW, hb]; exact Blk.new w _ _
  have hk0 : Kept w W := by rw [hW]; exact (Keep.refl _ _).alloc _
  have hs0 := hs.kept hk0
  have hwb : w.heap.size ≤ b := by omega
  have hxl : xxh l = endOf (add64 (merged (accOf acc0 l)) l.length) (restOf l) := by rw [xxh, headOf, if_pos h32]
  have Hb := Lib.hid hb
  have HWe := Lib.hid hWe
  have Hxl := Lib.hid hxl
  clear hb hW hWe hxl
  have d32 : decide ((32 : Int) ≤ (l.length : Int)) = true := decide_eq_true (by omega)
  go_enter Try.func16, Try.ntmps16
  go_wp2
  rw [← Hb.out, HWe.out]
  have H32 := Lib.hid h32
  clear hw1 hw2 h32 d32
  go_loopg [0] (l.length + 1) (fun gg s wr => ∃ (A' : Option Addr) (n' c' : Nat) (l' v : List Nat), n' < gg ∧ s = .slice A' n' c' ∧ n' ≤ c' ∧ Sl wr R A' (u8s l') ∧ n' ≤ 1048576 ∧ Hid (n' = l'.length) ∧ Hid (Bytes l') ∧ Hid (v.length = 4) ∧
    Hid (accOf v l' = accOf acc0 l) ∧ Hid (restOf l' = restOf l) ∧ Blk wr b 58 (u64s v) ∧ Kept w wr)
  case atStart => exact ⟨A, l.length, c, l, acc0, by omega, rfl, hc, hs0, hbig, rfl, hd, rfl, rfl, rfl, hb0, hk0⟩
  case round =>
    obtain ⟨A', n', c', l', v, q1, rfl, q2, hsl, q3, q4, q5, q6, q7, q8, qb, qk⟩ := hrel
    by_cases hlt : 32 ≤ n'
    · have hlt2 : 32 ≤ l'.length := by rw [← q4.out]; exact hlt
      obtain ⟨g, o, hRg, rfl, _⟩ := hsl.get (by simp; omega)
      have d32 : decide ((32 : Int) ≤ (n' : Int)) = true := decide_eq_true (by omega)
      go_wp2
      have Hlt32 := Lib.hid hlt
      clear hlt d32
      go_loopg [30] 5 (fun gg i wr2 => ∃ i' : Nat, 4 - i' < gg ∧ i' ≤ 4 ∧ i = .int .i64 i' ∧ Sl wr2 R (some ⟨g, o, none⟩) (u8s l') ∧ Blk wr2 b 58 (u64s (partOf v l' i')) ∧ Kept w wr2)
      case atStart => exact ⟨0, by omega, by omega, rfl, hsl, by rw [partOf_zero q6.out]; exact qb, qk⟩
      case round =>
        obtain ⟨i, r1, r2, rfl, hsl, qb, qk⟩ := hrel
        by_cases hi : i < 4
        · have hlt3 := Hlt32.out
          obtain ⟨m, hm⟩ : ∃ m, m = 8 * i := ⟨_, rfl⟩
          have hmi : (8 : Int) * (i : Int) = (m : Int) := by omega
          have hmn : m + 8 ≤ n' := by omega
          have hmc : ¬ c' = m := by omega
          have wm : IntKind.i64.wrap (m : Int) = m := by rw [IntKind.wrap_i64]; omega
          have wm8 : IntKind.i64.wrap ((m : Int) + 8) = (m : Int) + 8 := by rw [IntKind.wrap_i64]; omega
          have wm9 : ((m : Int) + 8).toNat = m + 8 := by omega
          have wma : (0 : Int) ≤ (m : Int) + 8 := by omega
          have wmb : (m : Int) + 8 ≤ (c' : Int) := by omega
          have wmc : m ≤ m + 8 := by omega
          have wmd : m + 8 - m = 8 := by omega
          have hat := partOf_at v l' i hi
          rw [if_neg (Nat.lt_irrefl _)] at hat
          have hpush := partOf_push v l' (i := i)
          have hlane : num ((l'.drop m).take 8) = lane l' i := by rw [lane, hm]
          have hwl := wordLow_any (R := R) (some ⟨g, o + m, none⟩) 8 (c' - m) ((l'.drop m).take 8) (by rw [List.length_take, List.length_drop, ← q4.out]; omega) wr.drew ((hsl.cut' m).first 8) ((q5.out.drop m).take 8) (by decide)
          rw [hlane] at hwl
          have hrd := specRound_any (v.getD i 0) (lane l' i) wr.drew
          generalize rnd (v.getD i 0) (lane l' i) = r at hrd hpush
          generalize v.getD i 0 = vi at hat hrd
          generalize lane l' i = la at hwl hrd
          have d0 : wr.cell? ⟨b, i, none⟩ = some (.int .u64 vi) := by rw [qb.cell]; exact u64s_at hat
          have f0 := qb.frozen i
          have Hwl := Lib.hid hwl
          have Hrd := Lib.hid hrd
          have Hpush := Lib.hid hpush
          clear hm hat hpush hlane hwl hrd hlt3
          go_wp2
          refine wp_region_still_tail 14 (by kernel_rfl) (by kernel_rfl) ?_
          simp only [List.take_succ_cons, List.take_zero, List.drop_succ_cons, List.drop_zero]
          repeat still_step
          still_call (Hwl.out.mono fun _ _ ⟨h1, h2⟩ => ⟨h1, h2.symm⟩)
          repeat still_step
          still_call (Hrd.out.mono fun _ _ ⟨h1, h2⟩ => ⟨h1, h2.symm⟩)
          repeat still_step
          refine wpStill_nil ?_
          change wpList _ _ _ _ _ wr.drew
          go_wp2
          go_roundg (4 - i)
          case measure => exact r1
          case rel =>
            exact ⟨i + 1, by omega, by omega, rfl, hsl.drew.keep ((Keep.refl (· = b) wr.drew).set (p := ⟨b, i, none⟩) (.inl rfl) _) (fun k _ hk => by rintro rfl; exact hRb hk),
              Blk.cast (qb.drew.set _ _) (by rw [← Hpush.out, u64s_set]), qk.drew.set (p := ⟨b, i, none⟩) (.inr hwb) _⟩
        · obtain rfl : i = 4 := by omega
          have hlt3 := Hlt32.out
          obtain ⟨E, hE⟩ : ∃ E : Option Addr, (if c' = 32 then some (⟨g, o, none⟩ : Addr) else some ⟨g, o + 32, none⟩) = E := ⟨_, rfl⟩
          have hsE : Sl wr R E (u8s (l'.drop 32)) := by rw [← hE]; exact hsl.cut (by rw [← q4.out]; exact q2) 32
          have ha := accOf_step (v := v) hlt2
          have hr := restOf_step hlt2
          have Ha := Lib.hid ha
          have Hr := Lib.hid hr
          clear ha hr
          go_wp2
          go_roundg n'
          case measure => exact q1
          case rel =>
            exact ⟨E, n' - 32, c' - 32, l'.drop 32, stripe v l', by omega, rfl, by omega, hsE, by omega, by show _ = _; rw [List.length_drop, ← q4.out], q5.out.drop 32, stripe_length v l', Ha.out.symm.trans q7.out, Hr.out.symm.trans q8.out, qb, qk⟩
    · -- no stripe is left
      have Hlt32 := Lib.hid hlt
      obtain ⟨v0, v1, v2, v3, rfl⟩ : ∃ v0 v1 v2 v3, v = [v0, v1, v2, v3] := by
        match v, q6.out with
        | [v0, v1, v2, v3], _ => exact ⟨v0, v1, v2, v3, rfl⟩
      have hshort : l'.length < 32 := by rw [← q4.out]; have := Hlt32.out; omega
      have hacc : accOf acc0 l = [v0, v1, v2, v3] := by rw [← q7.out, accOf_short hshort]
      have hrest : restOf l = l' := by rw [← q8.out, restOf_short hshort]
      have hall := accOf_lt (l := l) acc0_lt
      rw [hacc] at hall
      have g0 : U64 v0 := hall v0 (by simp)
      have g1 : U64 v1 := hall v1 (by simp)
      have g2 : U64 v2 := hall v2 (by simp)
      have g3 : U64 v3 := hall v3 (by simp)
      have hxl := Hxl.out
      rw [hacc, hrest] at hxl
      have e0 : wr.cell? ⟨b, 0, none⟩ = some (.int .u64 v0) := qb.cell 0
      have e1 : wr.cell? ⟨b, 1, none⟩ = some (.int .u64 v1) := qb.cell 1
      have e2 : wr.cell? ⟨b, 2, none⟩ = some (.int .u64 v2) := qb.cell 2
      have e3 : wr.cell? ⟨b, 3, none⟩ = some (.int .u64 v3) := qb.cell 3
      have r0 : ∀ k, Calls Try.prog 26 #[.int .u64 v0, .int .i64 1] (wr.drewN k) fun e w'' => e = .returned (.int .u64 (rot v0 1 : Nat)) ∧ ∃ m, w'' = wr.drewN m := fun k => quiet_same (rotate_any v0 1 g0 (by decide) (by decide) _)
      have r1 : ∀ k, Calls Try.prog 26 #[.int .u64 v1, .int .i64 7] (wr.drewN k) fun e w'' => e = .returned (.int .u64 (rot v1 7 : Nat)) ∧ ∃ m, w'' = wr.drewN m := fun k => quiet_same (rotate_any v1 7 g1 (by decide) (by decide) _)
      have r2 : ∀ k, Calls Try.prog 26 #[.int .u64 v2, .int .i64 12] (wr.drewN k) fun e w'' => e = .returned (.int .u64 (rot v2 12 : Nat)) ∧ ∃ m, w'' = wr.drewN m := fun k => quiet_same (rotate_any v2 12 g2 (by decide) (by decide) _)
      have r3 : ∀ k, Calls Try.prog 26 #[.int .u64 v3, .int .i64 18] (wr.drewN k) fun e w'' => e = .returned (.int .u64 (rot v3 18 : Nat)) ∧ ∃ m, w'' = wr.drewN m := fun k => quiet_same (rotate_any v3 18 g3 (by decide) (by decide) _)
      obtain ⟨s1, hs1⟩ : ∃ s, s = add64 (rot v0 1) (rot v1 7) := ⟨_, rfl⟩
      obtain ⟨s2, hs2⟩ : ∃ s, s = add64 s1 (rot v2 12) := ⟨_, rfl⟩
      obtain ⟨s3, hs3⟩ : ∃ s, s = add64 s2 (rot v3 18) := ⟨_, rfl⟩
      have hconv : conv [v0, v1, v2, v3] = s3 := by rw [hs3, hs2, hs1]; rfl
      have hs3l : U64 s3 := by rw [hs3]; exact add64_lt _ _
      have z1 : IntKind.u64.wrap (((rot v0 1 : Nat) : Int) + ((rot v1 7 : Nat) : Int)) = (s1 : Int) := by rw [hs1]; exact w_add _ _
      have z2 : IntKind.u64.wrap ((s1 : Int) + ((rot v2 12 : Nat) : Int)) = (s2 : Int) := by rw [hs2]; exact w_add _ _
      have z3 : IntKind.u64.wrap ((s2 : Int) + ((rot v3 18 : Nat) : Int)) = (s3 : Int) := by rw [hs3]; exact w_add _ _
      generalize rot v0 1 = p0 at r0 z1
      generalize rot v1 7 = p1 at r1 z1
      generalize rot v2 12 = p2 at r2 z2
      generalize rot v3 18 = p3 at r3 z3
      have R0 := Lib.hid r0
      have R1 := Lib.hid r1
      have R2 := Lib.hid r2
      have R3 := Lib.hid r3
      have Hconv := Lib.hid hconv
      have Hxl' := Lib.hid hxl
      have Hs3l := Lib.hid hs3l
      clear r0 r1 r2 r3 hs1 hs2 hs3 hconv hs3l hxl hall hacc hrest g0 g1 g2 g3 q7 q8
      have d32 : decide ((32 : Int) ≤ (n' : Int)) = false := decide_eq_false (by omega)
      go_wp2
      clear hlt d32
      go_quiet (first
        | (go_at_call 26; with_reducible exact R0.out _)
        | (go_at_call 26; with_reducible exact R1.out _)
        | (go_at_call 26; with_reducible exact R2.out _)
        | (go_at_call 26; with_reducible exact R3.out _))
      have hsW := hsl.drewN nq
      have qkW := qk.drewN nq
      have e0 : (wr.drewN nq).cell? ⟨b, 0, none⟩ = some (.int .u64 v0) := (qb.drewN nq).cell 0
      have e1 : (wr.drewN nq).cell? ⟨b, 1, none⟩ = some (.int .u64 v1) := (qb.drewN nq).cell 1
      have e2 : (wr.drewN nq).cell? ⟨b, 2, none⟩ = some (.int .u64 v2) := (qb.drewN nq).cell 2
      have e3 : (wr.drewN nq).cell? ⟨b, 3, none⟩ = some (.int .u64 v3) := (qb.drewN nq).cell 3
      generalize wr.drewN nq = WX at hsW qkW e0 e1 e2 e3 ⊢
      clear hsl qk qb
      go_wp2
      go_loopg [4, 64] 5 (fun gg hv i wr2 => ∃ k h : Nat, 4 - k < gg ∧ k ≤ 4 ∧ i = .int .i64 k ∧ hv = .int .u64 h ∧ Hid (U64 h) ∧ Hid (h = ([v0, v1, v2, v3].take k).foldl mrg s3) ∧ WX = wr2)
      case atStart => exact ⟨0, s3, by omega, by omega, rfl, rfl, Hs3l.out, (by show s3 = _; rw [List.take_zero, List.foldl_nil]), rfl⟩
      case round =>
        obtain ⟨k, h, t1, t2, rfl, rfl, t3, t4, rfl⟩ := hrel
        by_cases hk : k < 4
        · obtain ⟨vk, hvk⟩ : ∃ x, x = [v0, v1, v2, v3].getD k 0 := ⟨_, rfl⟩
          have hstep : mrg h vk = ([v0, v1, v2, v3].take (k + 1)).foldl mrg s3 := by
            rw [take_push (x := vk) (by rw [hvk, List.getD_eq_getElem?_getD, List.getElem?_eq_getElem (show k < [v0, v1, v2, v3].length from hk)]; rfl), List.foldl_append, ← t4.out, List.foldl_cons, List.foldl_nil]
          have hlt := mrg_lt h vk
          obtain ⟨x, m, f1, f2, f3⟩ := mrg_facts h vk t3.out
          have hrd := fun w => specRound_any 0 vk w
          generalize rnd 0 vk = rv at f1 hrd
          generalize mrg h vk = h' at f3 hstep hlt
          have Hrd := Lib.hid hrd
          have Hstep := Lib.hid hstep
          have Hlt := Lib.hid hlt
          clear hrd hstep hlt
          obtain rfl | rfl | rfl | rfl : k = 0 ∨ k = 1 ∨ k = 2 ∨ k = 3 := by omega
          · obtain ⟨i0, i1, i2, i3⟩ := index4 v0 v1 v2 v3
            simp at hvk
            subst hvk
            go_wp2_with (go_at_call 24; refine (Hrd.out _).mono ?_; rintro e w9 ⟨rfl, rfl⟩)
            go_roundg 4
            case measure => simpa using t1
            case rel => exact ⟨1, h', by omega, by omega, rfl, rfl, Hlt.out, Hstep.out, rfl⟩
          · obtain ⟨i0, i1, i2, i3⟩ := index4 v0 v1 v2 v3
            simp at hvk
            subst hvk
            go_wp2_with (go_at_call 24; refine (Hrd.out _).mono ?_; rintro e w9 ⟨rfl, rfl⟩)
            go_roundg 3
            case measure => simpa using t1
            case rel => exact ⟨2, h', by omega, by omega, rfl, rfl, Hlt.out, Hstep.out, rfl⟩
          · obtain ⟨i0, i1, i2, i3⟩ := index4 v0 v1 v2 v3
            simp at hvk
            subst hvk
            go_wp2_with (go_at_call 24; refine (Hrd.out _).mono ?_; rintro e w9 ⟨rfl, rfl⟩)
            go_roundg 2
            case measure => simpa using t1
            case rel => exact ⟨3, h', by omega, by omega, rfl, rfl, Hlt.out, Hstep.out, rfl⟩
          · obtain ⟨i0, i1, i2, i3⟩ := index4 v0 v1 v2 v3
            simp at hvk
            subst hvk
            go_wp2_with (go_at_call 24; refine (Hrd.out _).mono ?_; rintro e w9 ⟨rfl, rfl⟩)
            go_roundg 1
            case measure => simpa using t1
            case rel => exact ⟨4, h', by omega, by omega, rfl, rfl, Hlt.out, Hstep.out, rfl⟩
        · obtain rfl : k = 4 := by omega
          obtain ⟨h1, hh1'⟩ : ∃ x, x = add64 h l.length := ⟨_, rfl⟩
          have hadd : IntKind.u64.wrap ((h : Int) + (l.length : Int)) = (h1 : Int) := by rw [hh1']; exact w_add _ _
          have hh1 : Hid (U64 h1) := by rw [hh1']; exact add64_lt _ _
          have hend0 : Hid (xxh l = endOf h1 l') := by
            show xxh l = endOf h1 l'
            rw [Hxl'.out, hh1', t4.out, merged4, Hconv.out]
          obtain ⟨A1, n1, c1, l1, hA1, hn1, hc1', hl1'⟩ : ∃ A1 n1 c1 l1, A1 = A' ∧ n1 = n' ∧ c1 = c' ∧ l1 = l' := ⟨_, _, _, _, rfl, rfl, rfl, rfl⟩
          subst hA1 hn1 hc1' hl1'
          have hs1 := Lib.hid hsW
          have hl1 := q4
          have hb1 := q5
          have hc1 := q2
          have hn32 : n1 ≤ 32 := by have := Hlt32.out; omega
          have hkx : Kept w WX := qkW
          clear hsW qkW hh1' t4 t3 Hxl' Hconv
          go_wp2
          go_loopg [0, 4] (n1 + 1) (fun gg s hv wr2 => ∃ (A2 : Option Addr) (n2 c2 : Nat) (l2 : List Nat) (h : Nat), n2 < gg ∧ s = .slice A2 n2 c2 ∧ hv = .int .u64 h ∧ n2 ≤ c2 ∧ Hid (Sl WX R A2 (u8s l2)) ∧ n2 ≤ 32 ∧ Hid (n2 = l2.length) ∧ Hid (Bytes l2) ∧ Hid (U64 h) ∧
            Hid (tail8 (l2.length / 8) h l2 = tail8 (l1.length / 8) h1 l1) ∧ Hid (end8 l2 = end8 l1) ∧ WX = wr2)
          case atStart => exact ⟨A1, n1, c1, l1, h1, by omega, rfl, rfl, hc1, hs1, by omega, hl1.out, hb1.out, hh1.out, rfl, rfl, rfl⟩
          case round =>
            obtain ⟨A2, n2, c2, l2, h2, u1, rfl, rfl, hc2, hs2h, u3, hl2, hb2, hh2, u7, u8', rfl⟩ := hrel
            have hs2 := hs2h.out
            by_cases h8 : 8 ≤ n2
            · have h8l : 8 ≤ l2.length := by rw [← hl2.out]; exact h8
              obtain ⟨g, o, hRg, rfl, _⟩ := hs2.get (by simp; omega)
              have hwl := wordLow_any (R := R) (some ⟨g, o, none⟩) 8 c2 (l2.take 8) (by rw [List.length_take]; omega) WX (hs2.first 8) (hb2.out.take 8) (by decide)
              have hrd := fun w => specRound_any 0 (num (l2.take 8)) w
              have hst := tail8_step (h := h2) h8l
              have hst2 := end8_step h8l
              have hlt := by8_lt h2 (num (l2.take 8))
              obtain ⟨z, m, f1, f3, f4, f5⟩ := by8_facts h2 (num (l2.take 8)) hh2.out
              generalize num (l2.take 8) = wd at hwl hrd hst f1 f5 hlt
              have hrl := rot_lt (k := 27) f3
              have hrot := rotate_any z 27 f3 (by decide) (by decide)
              generalize by8 h2 wd = h' at f5 hst hlt
              generalize rnd 0 wd = rw0 at hrd f1
              generalize rot z 27 = ro at f4 hrl hrot
              obtain ⟨E, hE⟩ : ∃ E : Option Addr, (if c2 = 8 then some (⟨g, o, none⟩ : Addr) else some ⟨g, o + 8, none⟩) = E := ⟨_, rfl⟩
              have hsE : Sl WX R E (u8s (l2.drop 8)) := by rw [← hE]; exact hs2.cut (by rw [← hl2.out]; exact hc2) 8
              have Hwl := Lib.hid hwl
              have Hrd := Lib.hid hrd
              have Hrot := Lib.hid hrot
              have Hst := Lib.hid hst
              have Hst2 := Lib.hid hst2
              have Hlt := Lib.hid hlt
              have HsE := Lib.hid hsE
              clear hwl hrd hrot hst hst2 hlt f3 hrl hsE
              go_wp2_with (first
                | (go_at_call 25; refine Hwl.out.mono ?_; rintro e w9 ⟨rfl, rfl⟩)
                | (go_at_call 24; refine (Hrd.out _).mono ?_; rintro e w9 ⟨rfl, rfl⟩)
                | (go_at_call 26; refine (Hrot.out _).mono ?_; rintro e w9 ⟨rfl, rfl⟩))
              go_roundg n2
              case measure => exact u1
              case rel => exact ⟨E, n2 - 8, c2 - 8, l2.drop 8, h', by omega, rfl, rfl, by omega, HsE.out, by omega, by show _ = _; rw [List.length_drop, ← hl2.out], hb2.out.drop 8, Hlt.out, Hst.out.symm.trans u7.out, Hst2.out.symm.trans u8'.out, rfl⟩
            · have h8l : l2.length < 8 := by rw [← hl2.out]; omega
              have hend' : xxh l = aval3 (aval2 (aval1 ((end4 l2).foldl by1 (tail4 h2 l2)))) := by
                rw [hend0.out, endOf, ← u7.out, ← u8'.out, tail8_short h8l, end8_short h8l]
              have hend := Lib.hid hend'
              clear hend' u7 u8' h8l
              by_cases h4 : 4 ≤ n2
              · have h4l : 4 ≤ l2.length := by rw [← hl2.out]; exact h4
                obtain ⟨g, o, hRg, rfl, _⟩ := hs2.get (by simp; omega)
                have hwl := wordLow_any (R := R) (some ⟨g, o, none⟩) 4 c2 (l2.take 4) (by rw [List.length_take]; omega) WX (hs2.first 4) (hb2.out.take 4) (by decide)
                have hwlt := num_word (hb2.out.take 4) (by rw [List.length_take]; omega)
                have hend' : xxh l = aval3 (aval2 (aval1 ((l2.drop 4).foldl by1 (by4 h2 (num (l2.take 4)))))) := by rw [hend.out, tail4, if_pos h4l, end4, if_pos h4l]
                generalize num (l2.take 4) = wd at hwl hend' hwlt
                obtain ⟨y, z, m, f1, f2, f3, f4, f5⟩ := by4_facts h2 wd hh2.out
                have hrl := rot_lt (k := 23) f3
                have hrot := rotate_any z 23 f3 (by decide) (by decide)
                have hlt := by4_lt h2 wd
                generalize by4 h2 wd = h3 at f5 hend' hlt
                generalize rot z 23 = ro at f4 hrl hrot
                obtain ⟨E, hE⟩ : ∃ E : Option Addr, (if c2 = 4 then some (⟨g, o, none⟩ : Addr) else some ⟨g, o + 4, none⟩) = E := ⟨_, rfl⟩
                have hs3 : Sl WX R E (u8s (l2.drop 4)) := by rw [← hE]; exact hs2.cut (by rw [← hl2.out]; exact hc2) 4
                have hl3' : n2 - 4 = (l2.drop 4).length := by rw [List.length_drop, ← hl2.out]
                have hb3 := Lib.hid (hb2.out.drop 4)
                have hl3 := Lib.hid hl3'
                have hh3 := Lib.hid hlt
                have Hwl := Lib.hid hwl
                have Hrot := Lib.hid hrot
                replace hend := Lib.hid hend'
                obtain ⟨n3, hn3⟩ : ∃ n3, n3 = n2 - 4 := ⟨_, rfl⟩
                have hn3' : n2 - 4 = n3 := hn3.symm
                rw [hn3'] at hl3
                clear hl3' hlt hwl hrot hend' f3 hrl hn3
                generalize l2.drop 4 = l3 at hs3 hb3 hl3 hend
                go_wp2_with (first
                  | (go_at_call 25; refine Hwl.out.mono ?_; rintro e w9 ⟨rfl, rfl⟩)
                  | (go_at_call 26; refine (Hrot.out _).mono ?_; rintro e w9 ⟨rfl, rfl⟩))
                go_loopg [4, 107] (n3 + 1) (fun gg hv i wr2 => ∃ k h : Nat, n3 - k < gg ∧ k ≤ n3 ∧ i = .int .i64 k ∧ hv = .int .u64 h ∧ Hid (U64 h) ∧ Hid (h = (l3.take k).foldl by1 h3) ∧ WX = wr2)
                case atStart => exact ⟨0, h3, by omega, by omega, rfl, rfl, hh3.out, (by show h3 = _; rw [List.take_zero, List.foldl_nil]), rfl⟩
                case round =>
                  obtain ⟨k, h, t1, t2, rfl, rfl, t3, t4, rfl⟩ := hrel
                  by_cases hk : k < n3
                  · obtain ⟨g9, o9, x, _, rfl, hcx, hxk⟩ := hs3.u8 (show k < l3.length by rw [← hl3.out]; exact hk)
                    have hx256 := hb3.out x (List.mem_of_getElem? hxk.out)
                    obtain ⟨y, z, f1, f2, f3, f4⟩ := by1_facts h x t3.out
                    have hrl := rot_lt (k := 11) f3
                    have hrot := rotate_any z 11 f3 (by decide) (by decide)
                    have hstep : by1 h x = (l3.take (k + 1)).foldl by1 h3 := by rw [take_push hxk.out, List.foldl_append, ← t4.out, List.foldl_cons, List.foldl_nil]
                    have hlt := by1_lt h x
                    generalize by1 h x = h' at f4 hstep hlt
                    generalize rot z 11 = ro at f4 hrl hrot
                    have Hstep := Lib.hid hstep
                    have Hlt := Lib.hid hlt
                    have Hrot := Lib.hid hrot
                    clear hstep hlt hrot f3 hrl
                    go_wp2_with (go_at_call 26; refine (Hrot.out _).mono ?_; rintro e w9 ⟨rfl, rfl⟩)
                    go_roundg (n3 - k)
                    case measure => exact t1
                    case rel => exact ⟨k + 1, h', by omega, by omega, rfl, rfl, Hlt.out, Hstep.out, rfl⟩
                  · obtain rfl : k = n3 := by omega
                    rw [hl3.out, List.take_length] at t4
                    obtain ⟨x1, a, x2, bb, q1', q2', q3', f1, f2, f3, f4, f5, f6, f7, f8, _, _⟩ := aval_facts h t3.out
                    have hfin : xxh l = aval3 (aval2 (aval1 h)) := by rw [hend.out, t4.out]
                    generalize aval3 (aval2 (aval1 h)) = fin at f8 hfin
                    have Hfin := Lib.hid hfin
                    clear hfin
                    go_wp2
                    go_ret
                    exact ⟨by rw [Hfin.out]; rfl, hkx⟩
              · have h4l : ¬ 4 ≤ l2.length := by rw [← hl2.out]; exact h4
                have hend' : xxh l = aval3 (aval2 (aval1 (l2.foldl by1 h2))) := by rw [hend.out, tail4, if_neg h4l, end4, if_neg h4l]
                replace hend := Lib.hid hend'
                clear hend' h4l
                go_wp2
                go_loopg [4, 107] (n2 + 1) (fun gg hv i wr2 => ∃ k h : Nat, n2 - k < gg ∧ k ≤ n2 ∧ i = .int .i64 k ∧ hv = .int .u64 h ∧ Hid (U64 h) ∧ Hid (h = (l2.take k).foldl by1 h2) ∧ WX = wr2)
                case atStart => exact ⟨0, h2, by omega, by omega, rfl, rfl, hh2.out, (by show h2 = _; rw [List.take_zero, List.foldl_nil]), rfl⟩
                case round =>
                  obtain ⟨k, h, t1, t2, rfl, rfl, t3, t4, rfl⟩ := hrel
                  by_cases hk : k < n2
                  · obtain ⟨g9, o9, x, _, rfl, hcx, hxk⟩ := hs2.u8 (show k < l2.length by rw [← hl2.out]; exact hk)
                    have hx256 := hb2.out x (List.mem_of_getElem? hxk.out)
                    obtain ⟨y, z, f1, f2, f3, f4⟩ := by1_facts h x t3.out
                    have hrl := rot_lt (k := 11) f3
                    have hrot := rotate_any z 11 f3 (by decide) (by decide)
                    have hstep : by1 h x = (l2.take (k + 1)).foldl by1 h2 := by rw [take_push hxk.out, List.foldl_append, ← t4.out, List.foldl_cons, List.foldl_nil]
                    have hlt := by1_lt h x
                    generalize by1 h x = h' at f4 hstep hlt
                    generalize rot z 11 = ro at f4 hrl hrot
                    have Hstep := Lib.hid hstep
                    have Hlt := Lib.hid hlt
                    have Hrot := Lib.hid hrot
                    clear hstep hlt hrot f3 hrl
                    go_wp2_with (go_at_call 26; refine (Hrot.out _).mono ?_; rintro e w9 ⟨rfl, rfl⟩)
                    go_roundg (n2 - k)
                    case measure => exact t1
                    case rel => exact ⟨k + 1, h', by omega, by omega, rfl, rfl, Hlt.out, Hstep.out, rfl⟩
                  · obtain rfl : k = n2 := by omega
                    rw [hl2.out, List.take_length] at t4
                    obtain ⟨x1, a, x2, bb, q1', q2', q3', f1, f2, f3, f4, f5, f6, f7, f8, _, _⟩ := aval_facts h t3.out
                    have hfin : xxh l = aval3 (aval2 (aval1 h)) := by rw [hend.out, t4.out]
                    generalize aval3 (aval2 (aval1 h)) = fin at f8 hfin
                    have Hfin := Lib.hid hfin
                    clear hfin
                    go_wp2
                    go_ret
                    exact ⟨by rw [Hfin.out]; rfl, hkx⟩

set_option maxHeartbeats 2000000 in
set_option maxRecDepth 4000 in
theorem sum64_small {R : Nat → Prop} (A : Option Addr) (n c : Nat) (l : List Nat) (hn : n = l.length) (w : World) (hs : Sl w R A (u8s l)) (hd : Bytes l) (hc : n ≤ c) (h32 : n < 32) :
    Calls Try.prog 16 #[.slice A n c] w fun e w' => e = .returned (.int .u64 (xxh l : Nat)) ∧ Kept w w' := by
  have hxl : xxh l = endOf (add64 2870177450012600261 l.length) l := by rw [xxh, headOf, if_neg (by omega), restOf_short (by omega)]
  obtain ⟨h1, hh1'⟩ : ∃ x, x = add64 2870177450012600261 l.length := ⟨_, rfl⟩
  have hadd : IntKind.u64.wrap (2870177450012600261 + (n : Int)) = (h1 : Int) := by rw [hh1', hn]; exact w_add 2870177450012600261 _
  have hh1 : Hid (U64 h1) := by rw [hh1']; exact add64_lt _ _
  have hend0 : Hid (xxh l = endOf h1 l) := by rw [hh1']; exact hxl
  obtain ⟨WX, hWX⟩ : ∃ W, w = W := ⟨_, rfl⟩
  rw [hWX] at hs
  have hs1 := Lib.hid hs
  have hl1 := Lib.hid hn
  have hb1 := Lib.hid hd
  have hc1 := hc
  have hkx : Kept w WX := hWX ▸ Keep.refl _ _
  clear hxl hh1' hn hd hs
  subst hWX
  go_enter Try.func16, Try.ntmps16
  go_wp2
  go_loopg [0, 4] (n + 1) (fun gg s hv wr2 => ∃ (A2 : Option Addr) (n2 c2 : Nat) (l2 : List Nat) (h : Nat), n2 < gg ∧ s = .slice A2 n2 c2 ∧ hv = .int .u64 h ∧ n2 ≤ c2 ∧ Hid (Sl w R A2 (u8s l2)) ∧ n2 ≤ 32 ∧ Hid (n2 = l2.length) ∧ Hid (Bytes l2) ∧ Hid (U64 h) ∧
    Hid (tail8 (l2.length / 8) h l2 = tail8 (l.length / 8) h1 l) ∧ Hid (end8 l2 = end8 l) ∧ w = wr2)
  case atStart => exact ⟨A, n, c, l, h1, by omega, rfl, rfl, hc1, hs1, by omega, hl1.out, hb1.out, hh1.out, rfl, rfl, rfl⟩
  case round =>
    obtain ⟨A2, n2, c2, l2, h2, u1, rfl, rfl, hc2, hs2h, u3, hl2, hb2, hh2, u7, u8', rfl⟩ := hrel
    have hs2 := hs2h.out
    by_cases h8 : 8 ≤ n2
    · have h8l : 8 ≤ l2.length := by rw [← hl2.out]; exact h8
      obtain ⟨g, o, hRg, rfl, _⟩ := hs2.get (by simp; omega)
      have hwl := wordLow_any (R := R) (some ⟨g, o, none⟩) 8 c2 (l2.take 8) (by rw [List.length_take]; omega) w (hs2.first 8) (hb2.out.take 8) (by decide)
      have hrd := fun w => specRound_any 0 (num (l2.take 8)) w
      have hst := tail8_step (h := h2) h8l
      have hst2 := end8_step h8l
      have hlt := by8_lt h2 (num (l2.take 8))
      obtain ⟨z, m, f1, f3, f4, f5⟩ := by8_facts h2 (num (l2.take 8)) hh2.out
      generalize num (l2.take 8) = wd at hwl hrd hst f1 f5 hlt
      have hrl := rot_lt (k := 27) f3
      have hrot := rotate_any z 27 f3 (by decide) (by decide)
      generalize by8 h2 wd = h' at f5 hst hlt
      generalize rnd 0 wd = rw0 at hrd f1
      generalize rot z 27 = ro at f4 hrl hrot
      obtain ⟨E, hE⟩ : ∃ E : Option Addr, (if c2 = 8 then some (⟨g, o, none⟩ : Addr) else some ⟨g, o + 8, none⟩) = E := ⟨_, rfl⟩
      have hsE : Sl w R E (u8s (l2.drop 8)) := by rw [← hE]; exact hs2.cut (by rw [← hl2.out]; exact hc2) 8
      have Hwl := Lib.hid hwl
      have Hrd := Lib.hid hrd
      have Hrot := Lib.hid hrot
      have Hst := Lib.hid hst
      have Hst2 := Lib.hid hst2
      have Hlt := Lib.hid hlt
      have HsE := Lib.hid hsE
      clear hwl hrd hrot hst hst2 hlt f3 hrl hsE
      go_wp2_with (first
        | (go_at_call 25; refine Hwl.out.mono ?_; rintro e w9 ⟨rfl, rfl⟩)
        | (go_at_call 24; refine (Hrd.out _).mono ?_; rintro e w9 ⟨rfl, rfl⟩)
        | (go_at_call 26; refine (Hrot.out _).mono ?_; rintro e w9 ⟨rfl, rfl⟩))
      go_roundg n2
      case measure => exact u1
      case rel => exact ⟨E, n2 - 8, c2 - 8, l2.drop 8, h', by omega, rfl, rfl, by omega, HsE.out, by omega, by show _ = _; rw [List.length_drop, ← hl2.out], hb2.out.drop 8, Hlt.out, Hst.out.symm.trans u7.out, Hst2.out.symm.trans u8'.out, rfl⟩
    · have h8l : l2.length < 8 := by rw [← hl2.out]; omega
      have hend' : xxh l = aval3 (aval2 (aval1 ((end4 l2).foldl by1 (tail4 h2 l2)))) := by
        rw [hend0.out, endOf, ← u7.out, ← u8'.out, tail8_short h8l, end8_short h8l]
      have hend := Lib.hid hend'
      clear hend' u7 u8' h8l
      by_cases h4 : 4 ≤ n2
      · have h4l : 4 ≤ l2.length := by rw [← hl2.out]; exact h4
        obtain ⟨g, o, hRg, rfl, _⟩ := hs2.get (by simp; omega)
        have hwl := wordLow_any (R := R) (some ⟨g, o, none⟩) 4 c2 (l2.take 4) (by rw [List.length_take]; omega) w (hs2.first 4) (hb2.out.take 4) (by decide)
        have hwlt := num_word (hb2.out.take 4) (by rw [List.length_take]; omega)
        have hend' : xxh l = aval3 (aval2 (aval1 ((l2.drop 4).foldl by1 (by4 h2 (num (l2.take 4)))))) := by rw [hend.out, tail4, if_pos h4l, end4, if_pos h4l]
        generalize num (l2.take 4) = wd at hwl hend' hwlt
        obtain ⟨y, z, m, f1, f2, f3, f4, f5⟩ := by4_facts h2 wd hh2.out
        have hrl := rot_lt (k := 23) f3
        have hrot := rotate_any z 23 f3 (by decide) (by decide)
        have hlt := by4_lt h2 wd
        generalize by4 h2 wd = h3 at f5 hend' hlt
        generalize rot z 23 = ro at f4 hrl hrot
        obtain ⟨E, hE⟩ : ∃ E : Option Addr, (if c2 = 4 then some (⟨g, o, none⟩ : Addr) else some ⟨g, o + 4, none⟩) = E := ⟨_, rfl⟩
        have hs3 : Sl w R E (u8s (l2.drop 4)) := by rw [← hE]; exact hs2.cut (by rw [← hl2.out]; exact hc2) 4
        have hl3' : n2 - 4 = (l2.drop 4).length := by rw [List.length_drop, ← hl2.out]
        have hb3 := Lib.hid (hb2.out.drop 4)
        have hl3 := Lib.hid hl3'
        have hh3 := Lib.hid hlt
        have Hwl := Lib.hid hwl
        have Hrot := Lib.hid hrot
        replace hend := Lib.hid hend'
        obtain ⟨n3, hn3⟩ : ∃ n3, n3 = n2 - 4 := ⟨_, rfl⟩
        have hn3' : n2 - 4 = n3 := hn3.symm
        rw [hn3'] at hl3
        clear hl3' hlt hwl hrot hend' f3 hrl hn3
        generalize l2.drop 4 = l3 at hs3 hb3 hl3 hend
        go_wp2_with (first
          | (go_at_call 25; refine Hwl.out.mono ?_; rintro e w9 ⟨rfl, rfl⟩)
          | (go_at_call 26; refine (Hrot.out _).mono ?_; rintro e w9 ⟨rfl, rfl⟩))
        go_loopg [4, 107] (n3 + 1) (fun gg hv i wr2 => ∃ k h : Nat, n3 - k < gg ∧ k ≤ n3 ∧ i = .int .i64 k ∧ hv = .int .u64 h ∧ Hid (U64 h) ∧ Hid (h = (l3.take k).foldl by1 h3) ∧ w = wr2)
        case atStart => exact ⟨0, h3, by omega, by omega, rfl, rfl, hh3.out, (by show h3 = _; rw [List.take_zero, List.foldl_nil]), rfl⟩
        case round =>
          obtain ⟨k, h, t1, t2, rfl, rfl, t3, t4, rfl⟩ := hrel
          by_cases hk : k < n3
          · obtain ⟨g9, o9, x, _, rfl, hcx, hxk⟩ := hs3.u8 (show k < l3.length by rw [← hl3.out]; exact hk)
            have hx256 := hb3.out x (List.mem_of_getElem? hxk.out)
            obtain ⟨y, z, f1, f2, f3, f4⟩ := by1_facts h x t3.out
            have hrl := rot_lt (k := 11) f3
            have hrot := rotate_any z 11 f3 (by decide) (by decide)
            have hstep : by1 h x = (l3.take (k + 1)).foldl by1 h3 := by rw [take_push hxk.out, List.foldl_append, ← t4.out, List.foldl_cons, List.foldl_nil]
            have hlt := by1_lt h x
            generalize by1 h x = h' at f4 hstep hlt
            generalize rot z 11 = ro at f4 hrl hrot
            have Hstep := Lib.hid hstep
            have Hlt := Lib.hid hlt
            have Hrot := Lib.hid hrot
            clear hstep hlt hrot f3 hrl
            go_wp2_with (go_at_call 26; refine (Hrot.out _).mono ?_; rintro e w9 ⟨rfl, rfl⟩)
            go_roundg (n3 - k)
            case measure => exact t1
            case rel => exact ⟨k + 1, h', by omega, by omega, rfl, rfl, Hlt.out, Hstep.out, rfl⟩
          · obtain rfl : k = n3 := by omega
            rw [hl3.out, List.take_length] at t4
            obtain ⟨x1, a, x2, bb, q1', q2', q3', f1, f2, f3, f4, f5, f6, f7, f8, _, _⟩ := aval_facts h t3.out
            have hfin : xxh l = aval3 (aval2 (aval1 h)) := by rw [hend.out, t4.out]
            generalize aval3 (aval2 (aval1 h)) = fin at f8 hfin
            have Hfin := Lib.hid hfin
            clear hfin
            go_wp2
            go_ret
            exact ⟨by rw [Hfin.out]; rfl, hkx⟩
      · have h4l : ¬ 4 ≤ l2.length := by rw [← hl2.out]; exact h4
        have hend' : xxh l = aval3 (aval2 (aval1 (l2.foldl by1 h2))) := by rw [hend.out, tail4, if_neg h4l, end4, if_neg h4l]
        replace hend := Lib.hid hend'
        clear hend' h4l
        go_wp2
        go_loopg [4, 107] (n2 + 1) (fun gg hv i wr2 => ∃ k h : Nat, n2 - k < gg ∧ k ≤ n2 ∧ i = .int .i64 k ∧ hv = .int .u64 h ∧ Hid (U64 h) ∧ Hid (h = (l2.take k).foldl by1 h2) ∧ w = wr2)
        case atStart => exact ⟨0, h2, by omega, by omega, rfl, rfl, hh2.out, (by show h2 = _; rw [List.take_zero, List.foldl_nil]), rfl⟩
        case round =>
          obtain ⟨k, h, t1, t2, rfl, rfl, t3, t4, rfl⟩ := hrel
          by_cases hk : k < n2
          · obtain ⟨g9, o9, x, _, rfl, hcx, hxk⟩ := hs2.u8 (show k < l2.length by rw [← hl2.out]; exact hk)
            have hx256 := hb2.out x (List.mem_of_getElem? hxk.out)
            obtain ⟨y, z, f1, f2, f3, f4⟩ := by1_facts h x t3.out
            have hrl := rot_lt (k := 11) f3
            have hrot := rotate_any z 11 f3 (by decide) (by decide)
            have hstep : by1 h x = (l2.take (k + 1)).foldl by1 h2 := by rw [take_push hxk.out, List.foldl_append, ← t4.out, List.foldl_cons, List.foldl_nil]
            have hlt := by1_lt h x
            generalize by1 h x = h' at f4 hstep hlt
            generalize rot z 11 = ro at f4 hrl hrot
            have Hstep := Lib.hid hstep
            have Hlt := Lib.hid hlt
            have Hrot := Lib.hid hrot
            clear hstep hlt hrot f3 hrl
            go_wp2_with (go_at_call 26; refine (Hrot.out _).mono ?_; rintro e w9 ⟨rfl, rfl⟩)
            go_roundg (n2 - k)
            case measure => exact t1
            case rel => exact ⟨k + 1, h', by omega, by omega, rfl, rfl, Hlt.out, Hstep.out, rfl⟩
          · obtain rfl : k = n2 := by omega
            rw [hl2.out, List.take_length] at t4
            obtain ⟨x1, a, x2, bb, q1', q2', q3', f1, f2, f3, f4, f5, f6, f7, f8, _, _⟩ := aval_facts h t3.out
            have hfin : xxh l = aval3 (aval2 (aval1 h)) := by rw [hend.out, t4.out]
            generalize aval3 (aval2 (aval1 h)) = fin at f8 hfin
            have Hfin := Lib.hid hfin
            clear hfin
            go_wp2
            go_ret
            exact ⟨by rw [Hfin.out]; rfl, hkx⟩
end Go.Proofs.Ytabaholflahepaa
