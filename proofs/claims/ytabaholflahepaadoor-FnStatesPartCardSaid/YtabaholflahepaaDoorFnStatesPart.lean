/-
  The walk of laws.FnStatesPart: it returns true, and nothing that was there has turned.
-/
import Derived.Test.YtabaholflahepaaDoorCells
namespace Go.Proofs.YtabaholflahepaaDoor
open Go.RowKit

theorem elBool : El Tryd.prog 46 4 (.bool false) 1 1 := ⟨Tryd.underlying46, by kernel_rfl, rfl, by decide, by decide⟩
def bools (l : List Bool) : List Value := l.map Value.bool
theorem reach_mono {L p : Nat} : ∀ {t u : Nat}, t ≤ u → reach L p t ≤ reach L p u := by
  intro t u h
  induction u with
  | zero => obtain rfl : t = 0 := by omega
            exact Nat.le_refl _
  | succ u ih =>
    by_cases e : t = u + 1
    · subst e; exact Nat.le_refl _
    · exact Nat.le_trans (ih (by omega)) (Nat.le_add_right _ _)

set_option maxHeartbeats 2000000 in
set_option maxRecDepth 4000 in
theorem fnStatesPart_walk (A : Option Addr) (c : Nat) (xs : List Int) (y : Int) (w : World) (hs : Sl w (· < w.heap.size) A (i64s xs)) (hx : I64s xs) (_hm : xs.length ≤ 9223372036854775807) (hy : I64 y) :
    Calls Tryd.prog 6 #[.slice A xs.length c, .int .i64 y] w fun e w' => e = .returned (.bool true) ∧ Kept w w' := by
  by_cases g1 : 2147483647 < xs.length
  · go_enter Tryd.func6, Tryd.ntmps6
    go_wp2_with fail
    go_ret
    exact ⟨rfl, Keep.refl _ _⟩
  obtain ⟨L, hL⟩ : ∃ L : Nat, 5 + y % 5 = (L : Int) := ⟨(5 + y % 5).toNat, by omega⟩
  have h5 : 5 ≤ L := by omega
  have h9 : L ≤ 9 := by omega
  have hsh := shares_any A c L xs w hs hx (by omega) h5 h9
  have Hsh := Lib.hid hsh
  have h512 : 2 ^ L ≤ 512 := Nat.pow_le_pow_right (by decide) h9
  obtain ⟨N, hN⟩ : ∃ N, N = 2 ^ L := ⟨_, rfl⟩
  have hNi : (2 : Int) ^ L = (N : Int) := by rw [two_pow_int, hN]
  rw [← hN] at h512
  have HN := Lib.hid hN
  clear hsh hx hs hN
  go_enter Tryd.func6, Tryd.ntmps6
  go_wp2_with (first
    | (go_at_call 23; refine (below_any y 5 hy (by decide) (by decide) _).mono ?_; rintro e w1 ⟨rfl, rfl⟩)
    | (go_at_call 24; refine Hsh.out.mono ?_; rintro e w1 ⟨A1, c1, ps, rfl, hmade, ho1, hk1⟩))
  obtain ⟨tb, htb⟩ : ∃ tb, tb = tab L ps := ⟨_, rfl⟩
  have htl : tb.length = N := by rw [htb, tab_length, HN.out]
  have hb := implBuild_any A1 ps.length c1 L ps rfl w1 (Sl.of_own ho1) hmade h5 h9
  have hs1 : Sl w1 (fun k => w.heap.size ≤ k ∧ k < w1.heap.size) A1 (i64s ps) := Sl.of_own ho1
  rw [← htb, ← HN.out] at hb
  have Hb := Lib.hid hb
  have Htl := Lib.hid htl
  have Htb := Lib.hid htb
  have Hmade := Lib.hid hmade
  have hpl := hmade.few
  have H := Lib.hid (hmade.shares h5 h9)
  clear hb htl htb hmade ho1
  go_wp2_with (go_at_call 25; refine Hb.out.mono ?_; rintro e w2 ⟨A2, c2, rfl, ho2, hk2⟩)
  have hs2 : Sl w2 (fun k => w1.heap.size ≤ k ∧ k < w2.heap.size) A2 (flat cel3 tb) := Sl.of_own ho2
  have hs3 := hs1.kept hk2
  have hk3 := hk1.trans hk2
  clear hs1 hk1 hk2 ho2
  go_loopg [42] (ps.length + 1) (fun gg v wr => ∃ s : Nat, ps.length - s < gg ∧ s ≤ ps.length ∧ v = .int .i64 s ∧ Kept w2 wr)
  case atStart => exact ⟨0, by omega, by omega, rfl, Keep.refl _ _⟩
  case round =>
    obtain ⟨s, q1, q2, rfl, qk⟩ := hrel
    by_cases hlt : s < ps.length
    · obtain ⟨g, o, p, hR, rfl, hcx, hxk⟩ := (hs3.kept qk).i64 hlt
      obtain ⟨P, hP⟩ : ∃ P, P = p.natAbs := ⟨_, rfl⟩
      have hPN : P ≤ N := by
        have h1 := tot_mem (List.mem_of_getElem? hxk.out)
        rw [Hmade.out.sum, ← HN.out, ← hP] at h1
        exact h1
      have hps : ps.getD s 0 = p := by rw [List.getD_eq_getElem?_getD, hxk.out]; rfl
      have hcount : (syms L ps).count s = P := by rw [count_syms H.out, hps, hP]
      have Hps := Lib.hid hps
      have HP := Lib.hid hP
      have Hcount := Lib.hid hcount
      clear hps hP hcount
      go_wp2_with (at_make; refine wpList_make rfl _ _ rfl elBool .i64 .i64 N N rfl rfl (Nat.le_refl _) (by omega) ?_; intro w3 hk4 hb3)
      obtain ⟨b, hb⟩ : ∃ b, b = wr.heap.size := ⟨_, rfl⟩
      have hb2 : w2.heap.size ≤ b := by have := qk.size; omega
      have hb4 : Blk w3 b 4 (bools (marks L P 0 0)) := by
        rw [hb]
        refine Blk.cast hb3 ?_
        rw [Nat.mul_one, made_list _ rfl, ← marks_start (L := L) (p := P) (t := 0) (y := fromOf L P) (Nat.le_refl _), marks_zero, bools, List.map_replicate, ← HN.out]
      rw [← hb]
      clear hb3 hb
      have qk3 := qk.trans hk4
      go_loopg [10, 12, 52] (N + 1) (fun gg v r i wr => ∃ k t : Nat, N - k < gg ∧ k ≤ N ∧ i = .int .i64 k ∧ v = .int .i64 t ∧ r = .int .i64 (reach L P t : Nat) ∧ t ≤ P ∧ Hid (t = ((syms L ps).take k).count s) ∧
        Blk wr b 4 (bools (marks L P t 0)) ∧ Kept w2 wr)
      case atStart => exact ⟨0, 0, by omega, by omega, rfl, rfl, rfl, by omega, by simp [Hid], hb4, qk3⟩
      case round =>
        obtain ⟨k, t, q3, q4, rfl, rfl, rfl, q5, q6, qb, qk⟩ := hrel
        by_cases hk : k < N
        · obtain ⟨g2, o2, x, hR2, rfl, hx, hc⟩ := (hs2.kept qk).row cel3_length (by decide) (show k < tb.length by rw [Htl.out]; exact hk)
          have hkL : k < 2 ^ L := by rw [← HN.out]; exact hk
          have hxe : x = cellAt L ps k := by
            have := hx.out
            rw [Htb.out] at this
            simp only [tab, List.getElem?_map, List.getElem?_range hkL] at this
            exact (Option.some.inj this).symm
          have hpush := syms_push (ps := ps) hkL
          have hle : ((syms L ps).take (k + 1)).count s ≤ (syms L ps).count s := (List.take_sublist _ _).count_le _
          obtain ⟨x0, x1, x2⟩ := x
          rw [cellAt_eq] at hxe
          simp only [Prod.mk.injEq] at hxe
          obtain ⟨e0, e1, e2⟩ := hxe
          have c0 : wr.cell? ⟨g2, o2 + k * 3, none⟩ = some (.int .i64 x0) := hc 0 _ rfl
          have c1 : wr.cell? ⟨g2, o2 + k * 3 + 1, none⟩ = some (.int .i64 x1) := hc 1 _ rfl
          have c2 : wr.cell? ⟨g2, o2 + k * 3 + 2, none⟩ = some (.int .i64 x2) := hc 2 _ rfl
          rw [hpush, List.count_append] at hle
          by_cases hsy : x0 = s
          · have ht : t < P := by
              rw [← Hcount.out]
              rw [← e0, hsy, ← q6.out] at hle
              simp at hle
              omega
            have hnum : numAt L ps k = P + t := by
              rw [numAt_eq H.out hkL, ← e0, hsy, Hps.out, ← HP.out, ← q6.out]
            have hn1 : P + t < 2 ^ (L + 1) := by rw [Nat.pow_succ, ← HN.out]; omega
            rw [hnum] at e1 e2
            have hfe := from_end (L := L) (n := P + t) (by omega) hn1
            obtain ⟨B, hB⟩ : ∃ B, B = 2 ^ x1 := ⟨_, rfl⟩
            have hBi : (2 : Int) ^ x1 = (B : Int) := by rw [two_pow_int, hB]
            have hx1L : x1 ≤ L := by rw [e1]; exact Nat.sub_le _ _
            rw [← e1, ← e2, ← hB, ← HN.out] at hfe
            have hreach : reach L P (t + 1) = reach L P t + B := by rw [hB, e1]; rfl
            have hrN : reach L P (t + 1) ≤ N := by
              rw [HN.out, ← reach_all (L := L) (by omega) P (by omega) (by rw [← HN.out]; exact hPN)]
              exact reach_mono ht
            obtain ⟨rt, hrt⟩ : ∃ rt, rt = reach L P t := ⟨_, rfl⟩
            rw [hreach, ← hrt] at hrN
            subst hsy
            have d2 : decide (L < x1) = false := decide_eq_false (by omega)
            have d4 : decide (N < x2 + B) = false := decide_eq_false (by omega)
            have d5 : decide ((N : Int) < (x2 : Int) + (B : Int)) = false := decide_eq_false (by omega)
            have wr1 : IntKind.i64.wrap (N : Int) = N := by rw [IntKind.wrap_i64]; omega
            have wr2 : IntKind.i64.wrap (B : Int) = B := by rw [IntKind.wrap_i64]; omega
            have wr3 : IntKind.i64.wrap ((x2 : Int) + (B : Int)) = (x2 : Int) + (B : Int) := by rw [IntKind.wrap_i64]; omega
            rw [← hrt]
            have He0 := Lib.hid e0
            have He1 := Lib.hid e1
            have He2 := Lib.hid e2
            have HB := Lib.hid hB
            have Hreach := Lib.hid hreach
            have Hrt := Lib.hid hrt
            have Hpush := Lib.hid hpush
            have Hnum := Lib.hid hnum
            clear hc hx hpush hle e0 e1 e2 hB hreach hrt hnum
            go_wp2
            go_quiet (fail)
            go_wp2
            obtain ⟨bx, hbx⟩ : ∃ bx, bx = wr.heap.size := ⟨_, rfl⟩
            obtain ⟨W, hW⟩ : ∃ W, W = (wr.alloc (.cells #[.int .i64 x0, .int .i64 x1, .int .i64 x2] 48)).drewN nq := ⟨_, rfl⟩
            have bb : Blk W bx 48 [.int .i64 x0, .int .i64 x1, .int .i64 x2] := by rw [hW, hbx]; exact (Blk.new wr _ _).drewN _
            have qbW : Blk W b 4 (bools (marks L P t x2)) := by
              rw [hW, marks_start (by rw [← He2.out]; exact Nat.le_refl _)]; exact (qb.alloc _).drewN _
            have qkW : Kept w2 W := by rw [hW]; exact (qk.alloc _).drewN _
            have hbbx : b ≠ bx := by have := qb.lt; omega
            rw [← hbx, ← hW]
            clear hbx hW qb qk
            go_loopg [12, 15] (B + 1) (fun gg r v wr => ∃ y : Nat, x2 + B - y < gg ∧ x2 ≤ y ∧ y ≤ x2 + B ∧ v = .int .i64 y ∧ r = .int .i64 (rt + (y - x2) : Nat) ∧
              Blk wr bx 48 [.int .i64 x0, .int .i64 x1, .int .i64 x2] ∧ Blk wr b 4 (bools (marks L P t y)) ∧ Kept w2 wr)
            case atStart => exact ⟨x2, by omega, by omega, by omega, rfl, by simp, bb, qbW, qkW⟩
            case round =>
              obtain ⟨y, r1, r2, r3, rfl, rfl, bb, qb, qk⟩ := hrel
              have e1 : wr.cell? ⟨bx, 1, none⟩ = some (.int .i64 x1) := bb.cell 1
              have e2 : wr.cell? ⟨bx, 2, none⟩ = some (.int .i64 x2) := bb.cell 2
              by_cases hy : y < x2 + B
              · have hyt : decide (y < x2 + B) = true := decide_eq_true hy
                have hyt2 : decide ((y : Int) < (x2 : Int) + (B : Int)) = true := decide_eq_true (by omega)
                have hyN : y < 2 ^ L := by rw [← HN.out]; omega
                have hfalse : (marks L P t y)[y]? = some false := by
                  rw [marks_at hyN, met_fresh (by omega) (by rw [← HN.out]; exact hPN) ht (by rw [← He2.out]; omega) (by rw [← He2.out, ← He1.out, ← HB.out]; omega)]
                  simp
                have e3 : wr.cell? ⟨b, y, none⟩ = some (.bool false) := by rw [qb.cell]; simp [bools, hfalse]
                have f3 := qb.frozen y
                have hm := marks_push (L := L) (p := P) (t := t) (k := y) (by rw [← He2.out]; omega)
                obtain ⟨ry, hry⟩ : ∃ ry, ry = rt + (y - x2) := ⟨_, rfl⟩
                have hryN : ry < N := by omega
                rw [← hry]
                have Hry := Lib.hid hry
                have Hm := Lib.hid hm
                have HyN := Lib.hid hyN
                clear hfalse hm hry hyN
                go_wp2
                go_quiet (fail)
                go_wp2
                go_roundg (x2 + B - y)
                case measure => exact r1
                case rel =>
                  refine ⟨y + 1, by omega, by omega, by omega, rfl, by congr 1; have := Hry.out; omega, (bb.drewN _).far (Ne.symm hbbx) _, ?_, (qk.drewN _).set (p := ⟨b, y, none⟩) (.inr hb2) _⟩
                  refine Blk.cast ((qb.drewN _).set _ _) ?_
                  rw [← Hm.out]
                  simp [bools, List.map_set]
              · obtain rfl : y = x2 + B := by omega
                have hyt : decide (x2 + B < x2 + B) = false := decide_eq_false (by omega)
                have hyt2 : decide ((x2 : Int) + (B : Int) < (x2 : Int) + (B : Int)) = false := decide_eq_false (by omega)
                go_wp2
                go_quiet (fail)
                go_wp2
                go_roundg (N - k)
                case measure => exact q3
                case rel =>
                  refine ⟨k + 1, t + 1, by omega, by omega, rfl, rfl, ?_, by omega, ?_, ?_, qk.drewN _⟩
                  · rw [Hreach.out, ← Hrt.out]; congr 1; omega
                  · show _ = _
                    rw [Hpush.out, List.count_append, ← He0.out, ← q6.out]; simp
                  · refine Blk.cast (qb.drewN _) ?_
                    rw [← marks_next, ← He2.out, ← He1.out, ← HB.out]
          · have hne : ((x0 : Int) == (s : Int)) = false := by rw [beq_eq_false_iff_ne]; omega
            have hcnt : ((syms L ps).take (k + 1)).count s = ((syms L ps).take k).count s := by
              rw [hpush, List.count_append, ← e0]; simp [hsy]
            have Hcnt := Lib.hid hcnt
            clear hc hx hpush hle e0 e1 e2 hcnt
            go_wp2
            go_roundg (N - k)
            case measure => exact q3
            case rel => exact ⟨k + 1, t, by omega, by omega, rfl, rfl, rfl, q5, by show _ = _; rw [Hcnt.out, q6.out], qb.alloc _, qk.alloc _⟩
        · obtain rfl : k = N := by omega
          rw [List.take_of_length_le (by rw [syms_length, HN.out]; exact Nat.le_refl _), Hcount.out] at q6
          obtain rfl : t = P := q6.out
          have hmax : max p (-p) = t := by have := HP.out; omega
          rcases Nat.eq_zero_or_pos t with h0 | h0
          · subst h0
            go_wp2
            go_roundg (ps.length - s)
            case measure => exact q1
            case rel => exact ⟨s + 1, by omega, by omega, rfl, qk⟩
          · have hall : reach L t t = k := by rw [HN.out]; exact reach_all (by omega) t h0 (by rw [← HN.out]; exact hPN)
            rw [hall]
            go_wp2
            go_roundg (ps.length - s)
            case measure => exact q1
            case rel => exact ⟨s + 1, by omega, by omega, rfl, qk⟩
    · go_wp2
      go_ret
      exact ⟨rfl, hk3.trans qk⟩
end Go.Proofs.YtabaholflahepaaDoor
