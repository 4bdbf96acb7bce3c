/-
  Contract of spec.tableOf: the states of shares that add up to 2^L.
-/
import Derived.Test.YtabaholflahepaaDoorFse
import Derived.Test.YtabaholflahepaaDoorFlat
import Derived.Test.YtabaholflahepaaDoorNum
namespace Go.Proofs.YtabaholflahepaaDoor
open Go.RowKit

/-- A state's cells, as three ints. -/
def cel3 (c : Nat × Nat × Nat) : List Value := [.int .i64 c.1, .int .i64 c.2.1, .int .i64 c.2.2]
theorem cel3_length (c : Nat × Nat × Nat) : (cel3 c).length = 3 := rfl

theorem elCell : El Tryd.prog 102 177 (.agg #[.int .i64 0, .int .i64 0, .int .i64 0]) 3 24 := ⟨Tryd.underlying102, by kernel_rfl, rfl, by decide, by decide⟩
theorem elInt : El Tryd.prog 23 3 (.int .i64 0) 1 8 := ⟨Tryd.underlying23, by kernel_rfl, rfl, by decide, by decide⟩

theorem cel3_set {xs : List (Nat × Nat × Nat)} {i : Nat} {x : Nat × Nat × Nat} (h : xs[i]? = some x) (a b c : Nat) :
    (((flat cel3 xs).set (i * 3) (.int .i64 a)).set (i * 3 + 1) (.int .i64 b)).set (i * 3 + 2) (.int .i64 c) = flat cel3 (xs.set i (a, b, c)) := by
  have hi := (List.getElem?_eq_some_iff.1 h).1
  have e1 : (flat cel3 xs).set (i * 3) (.int .i64 a) = flat cel3 (xs.set i (a, x.2)) := flat_set cel3_length 0 _ _ h (by decide) rfl
  have e2 : (flat cel3 (xs.set i (a, x.2))).set (i * 3 + 1) (.int .i64 b) = flat cel3 ((xs.set i (a, x.2)).set i (a, b, x.2.2)) :=
    flat_set cel3_length 1 _ _ (x := (a, x.2)) (by simp [hi]) (by decide) rfl
  have e3 : (flat cel3 ((xs.set i (a, x.2)).set i (a, b, x.2.2))).set (i * 3 + 2) (.int .i64 c) = flat cel3 (((xs.set i (a, x.2)).set i (a, b, x.2.2)).set i (a, b, c)) :=
    flat_set cel3_length 2 _ _ (x := (a, b, x.2.2)) (by simp [hi]) (by decide) rfl
  rw [e1, e2, e3]
  simp
theorem cel3_set0 {xs : List (Nat × Nat × Nat)} {i : Nat} {x : Nat × Nat × Nat} (h : xs[i]? = some x) (a : Nat) : (flat cel3 xs).set (i * 3) (.int .i64 a) = flat cel3 (xs.set i (a, x.2)) :=
  flat_set cel3_length 0 _ _ h (by decide) rfl
theorem cel3_set1 {xs : List (Nat × Nat × Nat)} {i : Nat} {x : Nat × Nat × Nat} (h : xs[i]? = some x) (a : Nat) : (flat cel3 xs).set (i * 3 + 1) (.int .i64 a) = flat cel3 (xs.set i (x.1, a, x.2.2)) :=
  flat_set cel3_length 1 _ _ h (by decide) rfl
theorem cel3_set2 {xs : List (Nat × Nat × Nat)} {i : Nat} {x : Nat × Nat × Nat} (h : xs[i]? = some x) (a : Nat) : (flat cel3 xs).set (i * 3 + 2) (.int .i64 a) = flat cel3 (xs.set i (x.1, x.2.1, a)) :=
  flat_set cel3_length 2 _ _ h (by decide) rfl

theorem two_pow_int (L : Nat) : (2 : Int) ^ L = ((2 ^ L : Nat) : Int) := (cast_pow L).symm

set_option maxHeartbeats 2000000 in
set_option maxRecDepth 4000 in
theorem tableOf_any {R : Nat → Prop} (A : Option Addr) (c L : Nat) (ps : List Int) (w : World) (hs : Sl w R A (i64s ps)) (h : IsShares L ps) (hlen : ps.length ≤ 1048576) :
    Calls Tryd.prog 52 #[.slice A ps.length c, .int .i64 L] w fun e w' => ∃ g, w.heap.size ≤ g ∧ e = .returned (.agg #[.slice (some ⟨g, 0, none⟩) (2 ^ L) (2 ^ L), .int .i64 L]) ∧
      Blk w' g 177 (flat cel3 (tab L ps)) ∧ Kept w w' := by
  obtain ⟨N, hN⟩ : ∃ N, N = 2 ^ L := ⟨_, rfl⟩
  have hNi : (2 : Int) ^ L = (N : Int) := by rw [two_pow_int, hN]
  have hL5 := h.five
  have hL9 := h.nine
  have hN9 : N ≤ 512 := by rw [hN]; exact Nat.pow_le_pow_right (by decide) (show L ≤ 9 from hL9)
  have hN5 : 32 ≤ N := by rw [hN]; exact Nat.pow_le_pow_right (n := 2) (by decide) (show 5 ≤ L from hL5)
  rw [← hN]
  have HN := Lib.hid hN
  have H := Lib.hid h
  clear hN h
  have hk0 : Kept w (w.alloc (.cells #[.slice none 0 0, .int .i64 0] 104)) := (Keep.refl _ _).alloc _
  go_enter Tryd.func52, Tryd.ntmps52
  go_wp2_with (at_make; refine wpList_make rfl _ _ rfl elCell .i64 .i64 N N rfl rfl (Nat.le_refl _) (by omega) ?_; intro w1 hk1 hg1)
  obtain ⟨r, hr⟩ : ∃ r, r = w.heap.size := ⟨_, rfl⟩
  obtain ⟨g, hg⟩ : ∃ g, g = w.heap.size + 1 := ⟨_, rfl⟩
  obtain ⟨b, hb⟩ : ∃ b, b = w1.heap.size := ⟨_, rfl⟩
  obtain ⟨W, hW⟩ : ∃ W, W = w1.alloc (.cells #[.slice (some ⟨g, 0, none⟩) N N, .int .i64 L] 104) := ⟨_, rfl⟩
  have hgs : (w.alloc (.cells #[.slice none 0 0, .int .i64 0] 104)).heap.size = g := by rw [hg]; simp
  rw [hgs] at hg1
  have hkW1 : Kept w1 W := hW ▸ (Keep.refl _ _).alloc _
  have hkW : Kept w W := (hk0.trans hk1).trans hkW1
  have bb0 : Blk W b 104 [.slice (some ⟨g, 0, none⟩) N N, .int .i64 L] := by rw [hW, hb]; exact Blk.new w1 _ _
  have br0 : Blk W r 104 [.slice none 0 0, .int .i64 0] := by rw [hr]; exact ((Blk.new w _ _).kept hk1).kept hkW1
  have bg0 : Blk W g 177 (flat cel3 (baseList L ps 0)) := by
    rw [baseList_zero, ← HN.out]
    refine (Blk.cast hg1 ?_).kept hkW1
    exact made_flat (f := cel3) (K := 3) _ (0, 0, 0) rfl rfl (by decide) N
  have hrb : r < b := by rw [hr, hb]; have := hk1.size; simp at this; omega
  have hgb : g < b := by rw [hb]; have := hg1.lt; omega
  have hbg : b ≠ g := by omega
  have hrg : r ≠ g := by omega
  have hwg : w.heap.size ≤ g := by omega
  have hrw : w.heap.size ≤ r := by omega
  have hbr : b ≠ r := by omega
  rw [← hg, ← hr, ← hb, ← hW]
  have Hr := Lib.hid hr
  have Hg := Lib.hid hg
  clear hr hg hb hW hgs hk0 hk1 hg1 hkW1
  go_loopg [7, 26] (ps.length + 1) (fun gg v i wr => ∃ k hi m : Nat, ps.length - k < gg ∧ k ≤ ps.length ∧ i = .int .i64 k ∧ v = .int .i64 hi ∧ hi + m = N ∧ Hid (m = (lows 0 (ps.take k)).length) ∧
    Blk wr b 104 [.slice (some ⟨g, 0, none⟩) N N, .int .i64 L] ∧ Blk wr r 104 [.slice none 0 0, .int .i64 0] ∧ Blk wr g 177 (flat cel3 (baseList L ps m)) ∧ Kept w wr)
  case atStart => exact ⟨0, N, 0, by omega, by omega, rfl, rfl, by omega, by simp [Hid, lows], bb0, br0, bg0, hkW⟩
  case round =>
    obtain ⟨k, hi, m, q1, q2, rfl, rfl, q3, q4, qb, qr, qg, qk⟩ := hrel
    have c0 : wr.cell? ⟨b, 0, none⟩ = some (.slice (some ⟨g, 0, none⟩) N N) := qb.cell 0
    by_cases hlt : k < ps.length
    · obtain ⟨ga, o, p, hRa, rfl, hcx, hxk⟩ := (hs.kept qk).i64 hlt
      have hpl := H.out.least p (List.mem_of_getElem? hxk.out)
      have hpush := lows_push hxk.out
      by_cases hp : p = -1
      · subst hp
        obtain ⟨q, rfl⟩ : ∃ q, hi = q + 1 := ⟨hi - 1, by
          have h1 := H.out.sum
          have h2 : (lows 0 (ps.take (k + 1))).length ≤ (lows 0 ps).length := by
            conv => rhs; rw [← List.take_append_drop (k + 1) ps, lows_append, List.length_append]
            omega
          rw [hpush, List.length_append] at h2
          simp at h2
          have := q4.out; have := HN.out
          omega⟩
        have hqN : q < N := by omega
        have hat := baseList_at (L := L) (ps := ps) m (x := q) (by rw [← HN.out]; exact hqN)
        generalize (if 2 ^ L - m ≤ q then ((lows 0 ps).getD (2 ^ L - 1 - q) 0, L, 0) else (0, 0, 0)) = y at hat
        have e0 : wr.cell? ⟨g, q * 3, none⟩ = some (.int .i64 y.1) := qg.row cel3_length (j := 0) hat rfl
        have e1 : wr.cell? ⟨g, q * 3 + 1, none⟩ = some (.int .i64 y.2.1) := qg.row cel3_length (j := 1) hat rfl
        have e2 : wr.cell? ⟨g, q * 3 + 2, none⟩ = some (.int .i64 y.2.2) := qg.row cel3_length (j := 2) hat rfl
        have f0 := qg.frozen (q * 3)
        have f1 := qg.frozen (q * 3 + 1)
        have f2 := qg.frozen (q * 3 + 2)
        have Hpush := Lib.hid hpush
        have Hat := Lib.hid hat
        clear hpush hat
        go_wp2
        go_roundg (ps.length - k)
        case measure => exact q1
        case rel =>
          have hm1 : (lows 0 (ps.take (k + 1))).length = m + 1 := by rw [Hpush.out, List.length_append, ← q4.out]; simp
          have hms : (lows 0 ps)[m]? = some k := by
            have e : lows 0 ps = lows 0 (ps.take (k + 1)) ++ lows (0 + (ps.take (k + 1)).length) (ps.drop (k + 1)) := by rw [← lows_append, List.take_append_drop]
            rw [e, Hpush.out, List.getElem?_append_left (by simp [← q4.out]), List.getElem?_append_right (by rw [q4.out]; exact Nat.le_refl _), ← q4.out]
            simp
          refine ⟨k + 1, q, m + 1, by omega, by omega, rfl, rfl, by omega, hm1.symm, ?_, ?_, ?_, ?_⟩
          · exact ((qb.far hbg _).far hbg _).far hbg _
          · exact ((qr.far hrg _).far hrg _).far hrg _
          · refine Blk.cast (((qg.set _ _).set _ _).set _ _) ?_
            rw [← baseList_push (s := k) (by rw [← HN.out]; omega) hms, ← HN.out, show N - m - 1 = q by omega]
            exact cel3_set Hat.out k L 0
          · exact ((qk.set (p := ⟨g, q * 3, none⟩) (.inr hwg) _).set (p := ⟨g, q * 3 + 1, none⟩) (.inr hwg) _).set (p := ⟨g, q * 3 + 2, none⟩) (.inr hwg) _
      · have hp1 : (p == -1) = false := by rw [beq_eq_false_iff_ne]; exact hp
        rw [if_neg hp, List.append_nil] at hpush
        have Hpush := Lib.hid hpush
        clear hpush
        go_wp2
        go_roundg (ps.length - k)
        case measure => exact q1
        case rel => exact ⟨k + 1, hi, m, by omega, by omega, rfl, rfl, q3, by rw [Hpush.out]; exact q4.out, qb, qr, qg, qk⟩
    · obtain rfl : k = ps.length := by omega
      rw [List.take_length] at q4
      have hhi : hi = highOf ps := by
        have h1 := H.out.sum
        have := q4.out; have := HN.out
        unfold highOf; omega
      have Hhi := Lib.hid hhi
      have hsp0 := Spread.start (L := L) (ps := ps) (base := baseList L ps m) (baseList_length m)
      have Hsp0 := Lib.hid hsp0
      have q4' := q4
      clear hhi hsp0
      go_wp2
      go_loopg [10, 45] (ps.length + 1) (fun gg v i wr => ∃ (k t j : Nat) (cs : List (Nat × Nat × Nat)), ps.length - k < gg ∧ k ≤ ps.length ∧ i = .int .i64 k ∧ v = .int .i64 (goTo L j : Nat) ∧ Hid (t = (expand 0 (ps.take k)).length) ∧
        Hid (Spread L ps (baseList L ps m) t j cs) ∧
        Blk wr b 104 [.slice (some ⟨g, 0, none⟩) N N, .int .i64 L] ∧ Blk wr r 104 [.slice none 0 0, .int .i64 0] ∧ Blk wr g 177 (flat cel3 cs) ∧ Kept w wr)
      case atStart => exact ⟨0, 0, 0, _, by omega, by omega, rfl, by rw [goTo_zero]; rfl, rfl, Hsp0.out, qb, qr, qg, qk⟩
      case round =>
        obtain ⟨k, t, j, cs, q1, q2, rfl, rfl, q5, qs, qb, qr, qg, qk⟩ := hrel
        have c0 : wr.cell? ⟨b, 0, none⟩ = some (.slice (some ⟨g, 0, none⟩) N N) := qb.cell 0
        by_cases hlt : k < ps.length
        · obtain ⟨ga, o, p, hRa, rfl, hcx, hxk⟩ := (hs.kept qk).i64 hlt
          go_wp2
          go_loopg [10, 51] (p.toNat + 1) (fun gg v i wr => ∃ (n j : Nat) (cs : List (Nat × Nat × Nat)), p.toNat - n < gg ∧ n ≤ p.toNat ∧ i = .int .i64 n ∧ v = .int .i64 (goTo L j : Nat) ∧
            Hid (Spread L ps (baseList L ps m) (t + n) j cs) ∧
            Blk wr b 104 [.slice (some ⟨g, 0, none⟩) N N, .int .i64 L] ∧ Blk wr r 104 [.slice none 0 0, .int .i64 0] ∧ Blk wr g 177 (flat cel3 cs) ∧ Kept w wr)
          case atStart => exact ⟨0, j, cs, by omega, by omega, rfl, rfl, qs, qb, qr, qg, qk⟩
          case round =>
            obtain ⟨n, j, cs, q7, q8, rfl, rfl, qs, qb, qr, qg, qk⟩ := hrel
            have c0 : wr.cell? ⟨b, 0, none⟩ = some (.slice (some ⟨g, 0, none⟩) N N) := qb.cell 0
            by_cases hn : n < p.toNat
            · have hnp : (n : Int) < p := by omega
              have hE : (expand 0 ps)[t + n]? = some k := by
                have e : expand 0 ps = expand 0 (ps.take (k + 1)) ++ expand (0 + (ps.take (k + 1)).length) (ps.drop (k + 1)) := by rw [← expand_append, List.take_append_drop]
                rw [e, expand_push hxk.out, q5.out, List.getElem?_append_left (by simp; omega), List.getElem?_append_right (by omega), Nat.add_sub_cancel_left]
                simp [hn]
              have hhp : 0 < highOf ps := by
                have := (List.getElem?_eq_some_iff.1 hE).1
                unfold highOf; omega
              have hnb : n ≤ 512 := by
                have h1 := (List.getElem?_eq_some_iff.1 hE).1
                have h2 := high_le H.out
                rw [← HN.out] at h2
                unfold highOf at h2
                omega
              have hj := qs.out.at_low hhp
              have hhl := high_le H.out
              rw [← HN.out] at hhl
              have hjN : j + 1 ≤ 2 ^ L := by
                refine Classical.byContradiction fun hc => ?_
                have h1 := qs.out.done
                have h2 := qs.out.steps
                obtain rfl : j = 2 ^ L := by omega
                rw [cnt_total H.out.five H.out.nine _ (high_le H.out)] at h1
                have := (List.getElem?_eq_some_iff.1 hE).1
                unfold highOf at h1; omega
              obtain ⟨j2, hj1, hj2, hj3, hj4, hj5⟩ := jump_from L (highOf ps) hhp (2 ^ L - (j + 1)) (j + 1) (by omega)
              obtain ⟨q, hq⟩ : ∃ q, q = goTo L j := ⟨_, rfl⟩
              have hqN : q < N := by rw [hq, HN.out]; exact goTo_lt L j
              have hat : cs[q]? = some ((baseList L ps m).getD q (0, 0, 0)) := by
                rw [qs.out.cell q (by rw [← HN.out]; exact hqN), if_neg (by rw [hq, back_goTo H.out.five H.out.nine (by omega)]; omega)]
                rw [List.getD_eq_getElem?_getD, List.getElem?_eq_getElem (by rw [baseList_length, ← HN.out]; exact hqN)]; rfl
              have hnext := qs.out.next H.out hE hj1 hj2 hj3 hj4 hj5
              rw [← hq] at hnext ⊢
              generalize (baseList L ps m).getD q (0, 0, 0) = y at hat hnext
              have e0 : wr.cell? ⟨g, q * 3, none⟩ = some (.int .i64 y.1) := qg.row cel3_length (j := 0) hat rfl
              have f0 := qg.frozen (q * 3)
              have Hq := Lib.hid hq
              have Hat := Lib.hid hat
              have Hnext := Lib.hid hnext
              have HE := Lib.hid hE
              have Hj5 := Lib.hid hj5
              have Hj4 := Lib.hid hj4
              have Hj3 := Lib.hid hj3
              have Hjl := Lib.hid hj
              have HjN := Lib.hid hjN
              have Hj2 := Lib.hid hj2
              clear hq hat hnext hE hj5 hj4 hj3 hj hjN hj2
              go_wp2
              go_loopg [10] (j2 + 1 - j) (fun gg v wr2 => ∃ i : Nat, j2 - i < gg ∧ j ≤ i ∧ i < j2 ∧ v = .int .i64 (goTo L i : Nat) ∧ wr2 = wr.setCell ⟨g, q * 3, none⟩ (.int .i64 k))
              case atStart => exact ⟨j, by omega, by omega, by omega, by rw [Hq.out], rfl⟩
              case round =>
                obtain ⟨i, q9, q10, q11, rfl, rfl⟩ := hrel
                obtain ⟨a, ha⟩ : ∃ a, a = goTo L i := ⟨_, rfl⟩
                have haN : a < N := by rw [ha, HN.out]; exact goTo_lt L i
                obtain ⟨a2, ha2⟩ : ∃ a, a = goTo L (i + 1) := ⟨_, rfl⟩
                have hst : (a + N / 2 + N / 8 + 3) % N = a2 := by
                  rw [ha, ha2, HN.out, ← goTo_succ, stepOf]
                  congr 1; omega
                have ha2N : a2 < N := by rw [ha2, HN.out]; exact goTo_lt L (i + 1)
                have hsi : ((a : Int) + (N : Int) / 2 + (N : Int) / 8 + 3) % (N : Int) = (a2 : Int) := by rw [← hst]; simp
                rw [← ha]
                have Ha := Lib.hid ha
                have Ha2 := Lib.hid ha2
                clear ha ha2 hst
                by_cases hlow : a2 < hi
                · go_wp2
                  go_roundg (p.toNat - n)
                  case measure => exact q7
                  case rel =>
                    have hi2 : i + 1 = j2 := by
                      by_cases e : i + 1 = j2
                      · exact e
                      · exact absurd (by rw [← Ha2.out, ← Hhi.out]; exact hlow) (Hj5.out (i + 1) (by omega) (by omega))
                    refine ⟨n + 1, j2, cs.set q (k, y.2), by omega, by omega, rfl, ?_, Hnext.out, qb.far hbg _, qr.far hrg _, Blk.cast (qg.set _ _) (cel3_set0 Hat.out k), qk.set (p := ⟨g, q * 3, none⟩) (.inr hwg) _⟩
                    rw [hsi, Ha2.out, hi2]
                · go_wp2
                  go_roundg (j2 - i)
                  case measure => exact q9
                  case rel =>
                    have hi2 : i + 1 ≠ j2 := fun e => hlow (by rw [Hhi.out, Ha2.out, e]; exact Hj3.out)
                    exact ⟨i + 1, by omega, by omega, by omega, by rw [hsi, Ha2.out], rfl⟩
            · have hnp : ¬ (n : Int) < p := by omega
              go_wp2
              go_roundg (ps.length - k)
              case measure => exact q1
              case rel =>
                refine ⟨k + 1, t + n, j, cs, by omega, by omega, rfl, rfl, ?_, qs, qb, qr, qg, qk⟩
                show _ = _
                rw [expand_push hxk.out, List.length_append, ← q5.out, List.length_replicate]
                omega
        · obtain rfl : k = ps.length := by omega
          rw [List.take_length] at q5
          have hcs : cs = stage L ps 0 := by
            have h1 := qs.out
            rw [q4.out, q5.out] at h1
            exact h1.stage H.out
          subst hcs
          have hplen : (i64s ps).length = ps.length * 1 := by simp
          have Hplen := Lib.hid hplen
          clear hplen
          go_wp2_with (at_builtin; refine wpList_append rfl _ _ rfl elInt qk none 0 0 [] rfl (World.ownsRow_nil _ _ _ _) ps.length (i64s ps) _ rfl (src_sl Tryd.underlying23 (hs.kept qk) ps.length c Hplen.out (by intro u hu; obtain ⟨_, _, rfl⟩ := List.mem_map.1 hu; rfl)) (by omega) ?_; intro A2 c2 w2 hown2 hk2 hg2; simp only [Nat.zero_add, List.nil_append] at hown2)
          have qb2 := blk_grown qb hg2 (by simp [Value.ownBlock])
          have qr2 := blk_grown qr hg2 (by simp [Value.ownBlock])
          have qg2 := blk_grown qg hg2 (by simp [Value.ownBlock])
          obtain ⟨g2, rfl⟩ : ∃ g2, A2 = some ⟨g2, 0, none⟩ := by
            rcases hown2.2 with ⟨he, _⟩ | ⟨g2, cap, cur, hv, _⟩
            · simp only [Value.slice.injEq] at he
              have h1 := H.out.sum
              have h2 : ps = [] := List.eq_nil_of_length_eq_zero he.2.1
              rw [h2] at h1
              simp [expand, lows] at h1
              have := HN.out
              omega
            · simp only [Value.slice.injEq] at hv
              exact ⟨g2, hv.1⟩
          have hg2b : g2 ≠ b := fun e => own_ne hown2 qb2 (by decide) (by simp [Value.ownBlock, e])
          have hg2r : g2 ≠ r := fun e => own_ne hown2 qr2 (by decide) (by simp [Value.ownBlock, e])
          have hg2g : g2 ≠ g := fun e => own_ne hown2 qg2 (by decide) (by simp [Value.ownBlock, e])
          have hg2g' : g ≠ g2 := Ne.symm hg2g
          have hwg2 : w.heap.size ≤ g2 := (hown2.lt g2 rfl).1
          have hhl := high_le H.out
          rw [← HN.out, ← Hhi.out] at hhl
          rw [← nextList_zero (L := L) (ps := ps)] at hown2
          rw [nextList_zero] at hown2
          have hown3 : w2.ownsRow w.heap.size 3 1 (.slice (some ⟨g2, 0, none⟩) ps.length c2) ps.length (i64s (nextList L ps 0)) := by rw [nextList_zero]; exact hown2
          clear hown2
          go_loopg [77] (hi + 1) (fun gg v wr => ∃ i : Nat, hi - i < gg ∧ i ≤ hi ∧ v = .int .i64 i ∧
            Blk wr b 104 [.slice (some ⟨g, 0, none⟩) N N, .int .i64 L] ∧ Blk wr r 104 [.slice none 0 0, .int .i64 0] ∧ Blk wr g 177 (flat cel3 (stage L ps i)) ∧
            wr.ownsRow w.heap.size 3 1 (.slice (some ⟨g2, 0, none⟩) ps.length c2) ps.length (i64s (nextList L ps i)) ∧ Kept w wr)
          case atStart => exact ⟨0, by omega, by omega, rfl, qb2, qr2, qg2, hown3, hk2⟩
          case round =>
            obtain ⟨i, q7, q8, rfl, qb, qr, qg, qo, qk⟩ := hrel
            have c0 : wr.cell? ⟨b, 0, none⟩ = some (.slice (some ⟨g, 0, none⟩) N N) := qb.cell 0
            have c1 : wr.cell? ⟨b, 1, none⟩ = some (.int .i64 L) := qb.cell 1
            by_cases hlt : i < hi
            · have hiH : i < highOf ps := by rw [← Hhi.out]; exact hlt
              have hiN : i < 2 ^ L := by rw [← HN.out]; omega
              have hat := stage_at (L := L) (ps := ps) i (x := i) hiN
              rw [if_pos ⟨Nat.le_refl _, hiH⟩] at hat
              obtain ⟨sy, hsy⟩ : ∃ sy, sy = symAt L ps i := ⟨_, rfl⟩
              obtain ⟨n, hn⟩ : ∃ n, n = numAt L ps i := ⟨_, rfl⟩
              have hsl : sy < ps.length := by rw [hsy]; exact sym_lt H.out hiN
              have hnum := nextList_num H.out hiH
              have hpush := nextList_push H.out hiH
              have hlog := log_num H.out hiN
              have hn0 := numAt_pos H.out i
              have hn1 := numAt_lt H.out hiN
              rw [← hsy] at hat hnum hpush
              rw [← hn] at hnum hpush hlog hn0 hn1
              have hn2 : n ≤ 1024 := by
                rw [Nat.pow_succ, ← HN.out] at hn1; omega
              have e0 : wr.cell? ⟨g, i * 3, none⟩ = some (.int .i64 sy) := qg.row cel3_length (j := 0) hat rfl
              have f0 := qg.frozen (i * 3)
              have d0 : wr.cell? ⟨g2, sy, none⟩ = some (.int .i64 n) := by
                rw [qo.cellAt sy (by omega)]
                simp [i64s, hnum]
              have d1 := qo.frozenAt sy
              have Hat := Lib.hid hat
              have Hsy := Lib.hid hsy
              have Hn := Lib.hid hn
              have Hpush := Lib.hid hpush
              have Hlog := Lib.hid hlog
              have HiH := Lib.hid hiH
              have HiN := Lib.hid hiN
              clear hat hsy hn hnum hpush hlog hn1 hiH hiN
              have hlen3 : (stage L ps i).length = N := by rw [stage_length, HN.out]
              go_wp2
              go_loopg [] (L + 1) (fun gg wr => ∃ b' : Nat, (L - Nat.log2 n) - b' < gg ∧ b' ≤ L - Nat.log2 n ∧
                Blk wr b 104 [.slice (some ⟨g, 0, none⟩) N N, .int .i64 L] ∧ Blk wr r 104 [.slice none 0 0, .int .i64 0] ∧ Blk wr g 177 (flat cel3 ((stage L ps i).set i (sy, b', 0))) ∧
                wr.ownsRow w.heap.size 3 1 (.slice (some ⟨g2, 0, none⟩) ps.length c2) ps.length (i64s (nextList L ps (i + 1))) ∧ Kept w wr)
              case atStart =>
                refine ⟨0, by omega, by omega, qb.far (Ne.symm hg2b) _, qr.far (Ne.symm hg2r) _, ?_, ?_, qk.set (p := ⟨g2, sy, none⟩) (.inr hwg2) _⟩
                · refine Blk.cast (qg.far hg2g' _) ?_
                  congr 1
                  apply List.ext_getElem?
                  intro x
                  rw [List.getElem?_set]
                  by_cases e : i = x
                  · subst e
                    rw [if_pos rfl, if_pos (by omega), Hat.out]
                  · rw [if_neg e]
                · have := (qo.stored sy (.int .i64 ((n : Int) + 1))).1
                  rw [← Hpush.out]
                  simpa [i64s, List.map_set] using this
              case round =>
                obtain ⟨b', q9, q10, qb, qr, qg, qo, qk⟩ := hrel
                have hat2 : ((stage L ps i).set i (sy, b', 0))[i]? = some (sy, b', 0) := by
                  rw [List.getElem?_set, if_pos rfl, if_pos (by omega)]
                have e0 : wr.cell? ⟨g, i * 3, none⟩ = some (.int .i64 sy) := qg.row cel3_length (j := 0) hat2 rfl
                have e1 : wr.cell? ⟨g, i * 3 + 1, none⟩ = some (.int .i64 b') := qg.row cel3_length (j := 1) hat2 rfl
                have e2 : wr.cell? ⟨g, i * 3 + 2, none⟩ = some (.int .i64 ((0 : Nat) : Int)) := qg.row cel3_length (j := 2) hat2 rfl
                have f1 := qg.frozen (i * 3 + 1)
                have f2 := qg.frozen (i * 3 + 2)
                have hb9 : b' ≤ 9 := by omega
                obtain ⟨x, hx⟩ : ∃ x, x = n * 2 ^ b' := ⟨_, rfl⟩
                have hxi : (n : Int) * 2 ^ b' = (x : Int) := by rw [cast_mul_pow, hx]
                have hxb : x ≤ 524288 := by
                  rw [hx]
                  calc n * 2 ^ b' ≤ 1024 * 2 ^ 9 := Nat.mul_le_mul hn2 (Nat.pow_le_pow_right (by decide) hb9)
                    _ = 524288 := by decide
                have hiff := shift_lt (b := b') hn0 Hlog.out
                rw [← hx, ← HN.out] at hiff
                have Hx := Lib.hid hx
                have Hat2 := Lib.hid hat2
                clear hx hat2
                by_cases hless : b' < L - Nat.log2 n
                · have hxN : x < N := hiff.2 hless
                  clear hiff
                  go_wp2
                  go_roundg (L - Nat.log2 n - b')
                  case measure => exact q9
                  case rel =>
                    refine ⟨b' + 1, by omega, by omega, qb.far hbg _, qr.far hrg _, Blk.cast (qg.set _ _) ?_, own_keep qo ((Keep.refl (· = g) wr).set (p := ⟨g, i * 3 + 1, none⟩) (.inl rfl) _) (fun k hk e => by
                      simp only [Value.ownBlock, Option.some.injEq] at hk
                      exact hg2g (by omega)), qk.set (p := ⟨g, i * 3 + 1, none⟩) (.inr hwg) _⟩
                    have := cel3_set1 Hat2.out (b' + 1)
                    rw [List.set_set] at this
                    exact this
                · have hxN : N ≤ x := by
                    refine Classical.byContradiction fun hc => hless (hiff.1 (by omega))
                  have hxN2 : ¬ x < N := by omega
                  obtain rfl : b' = L - Nat.log2 n := by omega
                  clear hiff
                  obtain ⟨y, hy⟩ : ∃ y, y = x - N := ⟨_, rfl⟩
                  have hyi : (x : Int) - (N : Int) = (y : Int) := by omega
                  have Hy := Lib.hid hy
                  clear hy
                  go_wp2
                  go_roundg (hi - i)
                  case measure => exact q7
                  case rel =>
                    refine ⟨i + 1, by omega, by omega, rfl, qb.far hbg _, qr.far hrg _, Blk.cast (qg.set _ _) ?_, own_keep qo ((Keep.refl (· = g) wr).set (p := ⟨g, i * 3 + 2, none⟩) (.inl rfl) _) (fun k hk e => by
                      simp only [Value.ownBlock, Option.some.injEq] at hk
                      exact hg2g (by omega)), qk.set (p := ⟨g, i * 3 + 2, none⟩) (.inr hwg) _⟩
                    have h1 := cel3_set2 Hat2.out y
                    rw [List.set_set] at h1
                    refine h1.trans ?_
                    rw [← stage_push (sy, L - Nat.log2 n, y)]
                    rw [cellAt, ← Hsy.out, ← Hn.out, ← Hx.out, ← HN.out, ← Hy.out]
            · obtain rfl : i = hi := by omega
              have e : stage L ps i = tab L ps := by rw [Hhi.out]; exact stage_all
              rw [e] at qg
              have r0 : wr.cell? ⟨r, 0, none⟩ = some (.slice none 0 0) := qr.cell 0
              have r1 : wr.cell? ⟨r, 1, none⟩ = some (.int .i64 0) := qr.cell 1
              have rf0 := qr.frozen 0
              have rf1 := qr.frozen 1
              go_wp2
              try simp only [Exit.inBlock, Exit.then]
              refine bodyPost_ret (by simp [results, Tryd.results52, go_sem, r0, r1]; try rfl) rfl ?_
              exact ⟨g, hwg, rfl, (qg.far (Ne.symm hrg) _).far (Ne.symm hrg) _, (qk.set (p := ⟨r, 0, none⟩) (.inr hrw) _).set (p := ⟨r, 1, none⟩) (.inr hrw) _⟩
end Go.Proofs.YtabaholflahepaaDoor
