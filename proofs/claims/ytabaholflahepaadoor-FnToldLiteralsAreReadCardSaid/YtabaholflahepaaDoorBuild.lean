/-
  Contract of buildFSE: the states of shares that add up to 2^L, into a table that has room for them.
-/
import Derived.Test.YtabaholflahepaaDoorFsI
import Derived.Test.YtabaholflahepaaDoorTab
import Derived.Test.YtabaholflahepaaDoorShelf
namespace Go.Proofs.YtabaholflahepaaDoor
open Go.RowKit

/-- A state's cells, as buildFSE keeps them. -/
def celE (c : Nat × Nat × Nat) : List Value := [.int .u8 c.1, .int .u8 c.2.1, .int .u16 c.2.2]
theorem celE_length (c : Nat × Nat × Nat) : (celE c).length = 3 := rfl
def i16s (l : List Int) : List Value := l.map fun d : Int => .int .i16 d
def u16s (l : List Nat) : List Value := l.map fun d : Nat => .int .u16 (d : Int)
theorem i16s_at {l : List Int} {i : Nat} (h : i < l.length) : (i16s l)[i]? = some (.int .i16 (l.getD i 0)) := by
  simp [i16s, List.getElem?_map, List.getElem?_eq_getElem h]
@[simp] theorem i16s_length (l : List Int) : (i16s l).length = l.length := by simp [i16s]
@[simp] theorem u16s_length (l : List Nat) : (u16s l).length = l.length := by simp [u16s]
theorem Sl.i16 {w : World} {R : Nat → Prop} {A : Option Addr} {xs : List Int} (h : Sl w R A (i16s xs)) {k : Nat} (hk : k < xs.length) :
    ∃ g o x, R g ∧ A = some ⟨g, o, none⟩ ∧ w.cell? ⟨g, o + k, none⟩ = some (.int .i16 x) ∧ Hid (xs[k]? = some x) := by
  obtain ⟨g, o, hR, hA, hc⟩ := h.at_ (i16s_at hk)
  exact ⟨g, o, _, hR, hA, hc, by rw [List.getD_eq_getElem?_getD, List.getElem?_eq_getElem hk]; rfl⟩

section
variable {X D : List (Nat × Nat × Nat)} {i : Nat} {x : Nat × Nat × Nat}
theorem app_at (h : X[i]? = some x) : (X ++ D)[i]? = some x := by
  rw [List.getElem?_append_left (List.getElem?_eq_some_iff.1 h).1]; exact h
theorem app_set (h : X[i]? = some x) (y : Nat × Nat × Nat) : (X ++ D).set i y = X.set i y ++ D := List.set_append_left _ _ (List.getElem?_eq_some_iff.1 h).1
theorem celE_set0 (h : X[i]? = some x) (a : Nat) : (flat celE (X ++ D)).set (i * 3) (.int .u8 a) = flat celE (X.set i (a, x.2) ++ D) := by
  rw [← app_set h]; exact flat_set celE_length 0 _ _ (app_at h) (by decide) rfl
theorem celE_set1 (h : X[i]? = some x) (a : Nat) : (flat celE (X ++ D)).set (i * 3 + 1) (.int .u8 a) = flat celE (X.set i (x.1, a, x.2.2) ++ D) := by
  rw [← app_set h]; exact flat_set celE_length 1 _ _ (app_at h) (by decide) rfl
theorem celE_set2 (h : X[i]? = some x) (a : Nat) : (flat celE (X ++ D)).set (i * 3 + 2) (.int .u16 a) = flat celE (X.set i (x.1, x.2.1, a) ++ D) := by
  rw [← app_set h]; exact flat_set celE_length 2 _ _ (app_at h) (by decide) rfl
end

theorem bitLen_log {n : Nat} (h : 0 < n) (h2 : n < 2 ^ 64) : Lib.bitLen n = Nat.log2 n + 1 := by
  have h1 : 2 ^ Nat.log2 n ≤ n := Nat.log2_self_le (by omega)
  have h3 : n < 2 ^ (Nat.log2 n + 1) := Nat.lt_log2_self
  have h4 : n / 2 ^ Nat.log2 n = 1 := by
    rw [Nat.pow_succ] at h3
    exact (Nat.div_eq_iff (Nat.pow_pos (by decide))).2 (by omega)
  rw [Lib.bitLen_shift _ n h1 h2, h4]
  rfl

theorem lz16 (n : Nat) (h0 : 0 < n) (h : n < 65536) (w : World) :
    Calls Tryd.prog 96 #[.int .u16 n] w fun e w' => e = .returned (.int .i64 (15 - (Nat.log2 n : Int))) ∧ w = w' := by
  refine (Tryd.bits_LeadingZeros16 n w (by omega) (by omega)).mono ?_
  rintro e w' ⟨rfl, rfl⟩
  refine ⟨?_, rfl⟩
  have := bitLen_log h0 (by omega)
  rw [Int.toNat_natCast, this]
  congr 2
  omega

set_option maxHeartbeats 2000000 in
set_option maxRecDepth 4000 in
theorem buildFSE_any {R : Nat → Prop} (rv : Value) (off : Int) (A : Option Addr) (c L g M cap : Nat) (ps : List Int) (cs : List (Nat × Nat × Nat)) (w : World) (hs : Sl w R A (i16s ps)) (hg : Blk w g 181 (flat celE cs)) (hR : ¬ R g)
    (h : IsShares L ps) (hl : ps.length ≤ 256) (hcs : cs.length = M) (hM : 2 ^ L ≤ M) :
    Calls Tryd.prog 74 #[rv, .int .i64 off, .slice A ps.length c, .slice (some ⟨g, 0, none⟩) M cap, .int .i64 L] w fun e w' => e = .returned .nilIface ∧
      Blk w' g 181 (flat celE (tab L ps ++ cs.drop (2 ^ L))) ∧ Keep (· = g) w w' := by
  obtain ⟨N, hN⟩ : ∃ N, N = 2 ^ L := ⟨_, rfl⟩
  have hNi : (2 : Int) ^ L = (N : Int) := by rw [two_pow_int, hN]
  have hL5 := h.five
  have hL9 := h.nine
  have hN9 : N ≤ 512 := by rw [hN]; exact Nat.pow_le_pow_right (by decide) (show L ≤ 9 from hL9)
  have hN5 : 32 ≤ N := by rw [hN]; exact Nat.pow_le_pow_right (n := 2) (by decide) (show 5 ≤ L from hL5)
  rw [← hN] at hM ⊢
  obtain ⟨D, hD⟩ : ∃ D, D = cs.drop N := ⟨_, rfl⟩
  obtain ⟨os, hos⟩ : ∃ os, os = cs.take N := ⟨_, rfl⟩
  have hosl : os.length = N := by rw [hos, List.length_take]; omega
  have hg0 : Blk w g 181 (flat celE (lowTab L ps os 0 ++ D)) := by
    rw [lowTab_zero (by rw [hosl, hN]), hos, hD, List.take_append_drop]; exact hg
  rw [← hD]
  have HN := Lib.hid hN
  have H := Lib.hid h
  have Hl := Lib.hid hosl
  have hwg := hg.lt
  clear hN h hos hD hosl hg hcs
  obtain ⟨b, hb⟩ : ∃ b, b = w.heap.size := ⟨_, rfl⟩
  have hz : Tryd.zeroCells211 = (u16s (nextStart ps 0)).toArray := by rw [nextStart_zero]; kernel_rfl
  have hbg : b ≠ g := by omega
  have hgb : g ≠ b := by omega
  obtain ⟨W, hW⟩ : ∃ W, W = w.alloc (.cells (u16s (nextStart ps 0)).toArray 211) := ⟨_, rfl⟩
  have hb0 : Blk W b 211 (u16s (nextStart ps 0)) := by rw [hW, hb]; exact Blk.new w _ _
  have hk0 : Keep (· = g) w W := by rw [hW]; exact (Keep.refl _ _).alloc _
  have hgg0 : Blk W g 181 (flat celE (lowTab L ps os 0 ++ D)) := by rw [hW]; exact hg0.alloc _
  have hwb : w.heap.size ≤ b := by omega
  have hstep : ∀ q a2 j : Nat, q = goTo L j → a2 = goTo L (j + 1) → a2 < N ∧ bits .and .i64 ((q : Int) + ((N : Int) / 2 + (N : Int) / 8 + 3)) ((N : Int) - 1) = (a2 : Int) := by
    intro q a2 j h1 h2
    have hN2 : 2 ^ L = N := HN.out.symm
    have e : goTo L (j + 1) = (goTo L j + stepOf L) % 2 ^ L := (goTo_succ L j).symm
    have hs : stepOf L = N / 2 + N / 8 + 3 := by rw [stepOf, hN2]
    have hq : q < N := by rw [h1, HN.out]; exact goTo_lt L j
    rw [hs, ← h1, ← h2, hN2] at e
    refine ⟨by rw [e]; exact Nat.mod_lt _ (by omega), ?_⟩
    have e1 : ((q : Int) + ((N : Int) / 2 + (N : Int) / 8 + 3)) = ((q + (N / 2 + N / 8 + 3) : Nat) : Int) := by omega
    have e2 : (N : Int) - 1 = ((2 ^ L - 1 : Nat) : Int) := by rw [hN2]; omega
    rw [e1, e2, i64_and_nat _ _ (by omega) (by rw [hN2]; omega), and_mask, hN2, e]
  have Hstep := Lib.hid hstep
  clear hstep
  go_enter Tryd.func74, Tryd.ntmps74
  go_wp2
  rw [← hW, ← hb]
  clear hW hz hg0 hb
  go_loopg [12, 33] (ps.length + 1) (fun gg v i wr => ∃ k hi m : Nat, ps.length - k < gg ∧ k ≤ ps.length ∧ i = .int .i64 k ∧ v = .int .i64 ((hi : Int) - 1) ∧ hi + m = N ∧ Hid (m = (lows 0 (ps.take k)).length) ∧
    Blk wr b 211 (u16s (nextStart ps k)) ∧ Blk wr g 181 (flat celE (lowTab L ps os m ++ D)) ∧ Keep (· = g) w wr)
  case atStart => exact ⟨0, N, 0, by omega, by omega, rfl, rfl, by omega, by simp [Hid, lows], hb0, hgg0, hk0⟩
  case round =>
    obtain ⟨k, hi, m, q1, q2, rfl, rfl, q3, q4, qb, qg, qk⟩ := hrel
    by_cases hlt : k < ps.length
    · obtain ⟨ga, o, p, hRa, rfl, hcx, hxk⟩ := (hs.keep qk (fun k _ hk => by rintro rfl; exact hR hk)).i16 hlt
      have hpl := H.out.least p (List.mem_of_getElem? hxk.out)
      have hpush := lows_push hxk.out
      have hk256 : k < 256 := by omega
      have fb := qb.frozen k
      have hbk : wr.cell? ⟨b, k, none⟩ = some (.int .u16 ((nextStart ps k).getD k 0 : Nat)) := by
        rw [qb.cell]; simp [u16s, nextStart_at k hk256]
      by_cases hp : p = -1
      · subst hp
        obtain ⟨q, rfl⟩ : ∃ q, hi = q + 1 := ⟨hi - 1, by
          have h1 := H.out.sum
          have h2 : (lows 0 (ps.take (k + 1))).length ≤ (lows 0 ps).length := by
            conv => rhs; rw [← List.take_append_drop (k + 1) ps, lows_append, List.length_append]
            omega
          rw [hpush, List.length_append] at h2
          simp at h2
          have := q4.out; have := HN.out
          omega⟩
        have hqN : q < N := by omega
        have hat := lowTab_old (L := L) (ps := ps) (cs := os) (m := m) (x := q) (by rw [← HN.out]; omega)
        obtain ⟨y, hy⟩ : ∃ y, y = os.getD q (0, 0, 0) := ⟨_, rfl⟩
        rw [← hy] at hat
        have e0 : wr.cell? ⟨g, q * 3, none⟩ = some (.int .u8 y.1) := qg.row celE_length (j := 0) (app_at hat) rfl
        have f0 := qg.frozen (q * 3)
        have Hpush := Lib.hid hpush
        have Hat := Lib.hid hat
        have Hy := Lib.hid hy
        clear hpush hat hy
        go_wp2
        go_roundg (ps.length - k)
        case measure => exact q1
        case rel =>
          have hm1 : (lows 0 (ps.take (k + 1))).length = m + 1 := by rw [Hpush.out, List.length_append, ← q4.out]; simp
          have hms : (lows 0 ps)[m]? = some k := by
            have e : lows 0 ps = lows 0 (ps.take (k + 1)) ++ lows (0 + (ps.take (k + 1)).length) (ps.drop (k + 1)) := by rw [← lows_append, List.take_append_drop]
            rw [e, Hpush.out, List.getElem?_append_left (by simp [← q4.out]), List.getElem?_append_right (by rw [q4.out]; exact Nat.le_refl _), ← q4.out]
            simp
          refine ⟨k + 1, q, m + 1, by omega, by omega, rfl, rfl, by omega, hm1.symm, ?_, ?_, ?_⟩
          · refine Blk.cast ((qb.far hbg _).set _ _) ?_
            have := nextStart_push hxk.out
            rw [← this]
            simp [u16s, List.map_set]
          · refine Blk.cast ((qg.set _ _).far hgb _) ?_
            rw [← lowTab_push (s := k) (by rw [← HN.out]; omega) hms, ← HN.out, show N - m - 1 = q by omega, ← Hy.out]
            exact celE_set0 Hat.out k
          · exact (qk.set (p := ⟨g, q * 3, none⟩) (.inl rfl) _).set (p := ⟨b, k, none⟩) (.inr hwb) _
      · have hp0 : 0 ≤ p := by omega
        obtain ⟨pn, rfl⟩ : ∃ pn : Nat, p = (pn : Int) := ⟨p.toNat, by omega⟩
        have hpN : pn ≤ N := by
          have h1 := share_le ps k
          have h2 := high_le H.out
          rw [List.getD_eq_getElem?_getD, hxk.out] at h1
          rw [← HN.out] at h2
          simp at h1
          omega
        rw [if_neg hp, List.append_nil] at hpush
        have Hpush := Lib.hid hpush
        clear hpush hpl
        go_wp2
        go_roundg (ps.length - k)
        case measure => exact q1
        case rel =>
          refine ⟨k + 1, hi, m, by omega, by omega, rfl, rfl, q3, by rw [Hpush.out]; exact q4.out, ?_, qg.far hgb _, qk.set (p := ⟨b, k, none⟩) (.inr hwb) _⟩
          refine Blk.cast (qb.set _ _) ?_
          have := nextStart_push hxk.out
          rw [← this]
          simp [u16s, List.map_set]
    · obtain rfl : k = ps.length := by omega
      rw [List.take_length] at q4
      have hhi : hi = highOf ps := by
        have h1 := H.out.sum
        have := q4.out; have := HN.out
        unfold highOf; omega
      have Hhi := Lib.hid hhi
      have hsp0 := Spread.start (L := L) (ps := ps) (base := lowTab L ps os m) (lowTab_length m)
      have Hsp0 := Lib.hid hsp0
      have q4' := q4
      rw [nextStart_all (L := L)] at qb
      clear hhi hsp0
      go_wp2
      go_loopg [16, 67] (ps.length + 1) (fun gg v i wr => ∃ (k t j : Nat) (cs : List (Nat × Nat × Nat)), ps.length - k < gg ∧ k ≤ ps.length ∧ i = .int .i64 k ∧ v = .int .i64 (goTo L j : Nat) ∧ Hid (t = (expand 0 (ps.take k)).length) ∧
        Hid (Spread L ps (lowTab L ps os m) t j cs) ∧ Blk wr b 211 (u16s (nextNow L ps 0)) ∧ Blk wr g 181 (flat celE (cs ++ D)) ∧ Keep (· = g) w wr)
      case atStart => exact ⟨0, 0, 0, _, by omega, by omega, rfl, by rw [goTo_zero]; rfl, rfl, Hsp0.out, qb, qg, qk⟩
      case round =>
        obtain ⟨k, t, j, cs, q1, q2, rfl, rfl, q5, qs, qb, qg, qk⟩ := hrel
        by_cases hlt : k < ps.length
        · obtain ⟨ga, o, p, hRa, rfl, hcx, hxk⟩ := (hs.keep qk (fun k _ hk => by rintro rfl; exact hR hk)).i16 hlt
          have hk256 : k < 256 := by omega
          have hpl := H.out.least p (List.mem_of_getElem? hxk.out)
          have hpN : p ≤ N := by
            have h1 := share_le ps k
            have h2 := high_le H.out
            rw [List.getD_eq_getElem?_getD, hxk.out] at h1
            rw [← HN.out] at h2
            simp at h1
            omega
          go_wp2
          go_loopg [16, 21] (p.toNat + 1) (fun gg v i wr => ∃ (n j : Nat) (cs : List (Nat × Nat × Nat)), p.toNat - n < gg ∧ n ≤ p.toNat ∧ i = .int .i64 n ∧ v = .int .i64 (goTo L j : Nat) ∧
            Hid (Spread L ps (lowTab L ps os m) (t + n) j cs) ∧ Blk wr b 211 (u16s (nextNow L ps 0)) ∧ Blk wr g 181 (flat celE (cs ++ D)) ∧ Keep (· = g) w wr)
          case atStart => exact ⟨0, j, cs, by omega, by omega, rfl, rfl, qs, qb, qg, qk⟩
          case round =>
            obtain ⟨n, j, cs, q7, q8, rfl, rfl, qs, qb, qg, qk⟩ := hrel
            by_cases hn : n < p.toNat
            · have hnp : (n : Int) < p := by omega
              have hE : (expand 0 ps)[t + n]? = some k := by
                have e : expand 0 ps = expand 0 (ps.take (k + 1)) ++ expand (0 + (ps.take (k + 1)).length) (ps.drop (k + 1)) := by rw [← expand_append, List.take_append_drop]
                rw [e, expand_push hxk.out, q5.out, List.getElem?_append_left (by simp; omega), List.getElem?_append_right (by omega), Nat.add_sub_cancel_left]
                simp [hn]
              have hhp : 0 < highOf ps := by
                have := (List.getElem?_eq_some_iff.1 hE).1
                unfold highOf; omega
              have hj := qs.out.at_low hhp
              have hhl := high_le H.out
              rw [← HN.out] at hhl
              have hjN : j + 1 ≤ 2 ^ L := by
                refine Classical.byContradiction fun hc => ?_
                have h1 := qs.out.done
                have h2 := qs.out.steps
                obtain rfl : j = 2 ^ L := by omega
                rw [cnt_total H.out.five H.out.nine _ (high_le H.out)] at h1
                have := (List.getElem?_eq_some_iff.1 hE).1
                unfold highOf at h1; omega
              obtain ⟨j2, hj1, hj2, hj3, hj4, hj5⟩ := jump_from L (highOf ps) hhp (2 ^ L - (j + 1)) (j + 1) (by omega)
              obtain ⟨q, hq⟩ : ∃ q, q = goTo L j := ⟨_, rfl⟩
              have hqN : q < N := by rw [hq, HN.out]; exact goTo_lt L j
              have hat : cs[q]? = some ((lowTab L ps os m).getD q (0, 0, 0)) := by
                rw [qs.out.cell q (by rw [← HN.out]; exact hqN), if_neg (by rw [hq, back_goTo H.out.five H.out.nine (by omega)]; omega)]
                rw [List.getD_eq_getElem?_getD, List.getElem?_eq_getElem (by rw [lowTab_length, ← HN.out]; exact hqN)]; rfl
              have hnext := qs.out.next H.out hE hj1 hj2 hj3 hj4 hj5
              rw [← hq] at hnext ⊢
              generalize (lowTab L ps os m).getD q (0, 0, 0) = y at hat hnext
              have e0 : wr.cell? ⟨g, q * 3, none⟩ = some (.int .u8 y.1) := qg.row celE_length (j := 0) (app_at hat) rfl
              have f0 := qg.frozen (q * 3)
              obtain ⟨a2, ha2⟩ : ∃ a, a = goTo L (j + 1) := ⟨_, rfl⟩
              have hst := Hstep.out q a2 j hq ha2
              have Hq := Lib.hid hq
              have Hat := Lib.hid hat
              have Hnext := Lib.hid hnext
              have HE := Lib.hid hE
              have Hj5 := Lib.hid hj5
              have Hj4 := Lib.hid hj4
              have Hj3 := Lib.hid hj3
              have Hjl := Lib.hid hj
              have HjN := Lib.hid hjN
              have Hj2 := Lib.hid hj2
              clear hq hat hnext hE hj5 hj4 hj3 hj hjN hj2
              go_wp2
              go_loopg [16] (j2 + 1 - j) (fun gg v wr2 => ∃ i : Nat, j2 - i < gg ∧ j + 1 ≤ i ∧ i ≤ j2 ∧ v = .int .i64 (goTo L i : Nat) ∧ wr2 = wr.setCell ⟨g, q * 3, none⟩ (.int .u8 k))
              case atStart => exact ⟨j + 1, by omega, by omega, by omega, rfl, rfl⟩
              case round =>
                obtain ⟨i, q9, q10, q11, rfl, rfl⟩ := hrel
                obtain ⟨a, ha⟩ : ∃ a, a = goTo L i := ⟨_, rfl⟩
                have haN : a < N := by rw [ha, HN.out]; exact goTo_lt L i
                obtain ⟨a3, ha3⟩ : ∃ a, a = goTo L (i + 1) := ⟨_, rfl⟩
                have hst2 := (Hstep.out a a3 i ha ha3)
                rw [← ha]
                have Ha := Lib.hid ha
                have Ha3 := Lib.hid ha3
                clear ha ha3
                by_cases hlow : a < hi
                · go_wp2
                  go_roundg (p.toNat - n)
                  case measure => exact q7
                  case rel =>
                    have hi2 : i = j2 := by
                      by_cases e : i = j2
                      · exact e
                      · exact absurd (by rw [← Ha.out, ← Hhi.out]; exact hlow) (Hj5.out i (by omega) (by omega))
                    refine ⟨n + 1, j2, cs.set q (k, y.2), by omega, by omega, rfl, ?_, Hnext.out, qb.far hbg _, Blk.cast (qg.set _ _) (celE_set0 Hat.out k), qk.set (p := ⟨g, q * 3, none⟩) (.inl rfl) _⟩
                    rw [Ha.out, hi2]
                · go_wp2
                  go_roundg (j2 - i)
                  case measure => exact q9
                  case rel =>
                    have hi2 : i ≠ j2 := fun e => hlow (by rw [Hhi.out, Ha.out, e]; exact Hj3.out)
                    exact ⟨i + 1, by omega, by omega, by omega, by rw [Ha3.out], rfl⟩
            · have hnp : ¬ (n : Int) < p := by omega
              go_wp2
              go_roundg (ps.length - k)
              case measure => exact q1
              case rel =>
                refine ⟨k + 1, t + n, j, cs, by omega, by omega, rfl, rfl, ?_, qs, qb, qg, qk⟩
                show _ = _
                rw [expand_push hxk.out, List.length_append, ← q5.out, List.length_replicate]
                omega
        · obtain rfl : k = ps.length := by omega
          rw [List.take_length] at q5
          have hall : goTo L j = 0 := by
            have h1 := qs.out
            rw [q5.out] at h1
            exact (h1.all H.out).1
          have hcs : cs = part L ps os 0 := by
            have h1 := qs.out
            rw [q4.out, q5.out] at h1
            exact h1.part H.out
          subst hcs
          rw [hall]
          clear hall
          go_wp2
          go_loopg [22] (N + 1) (fun gg v wr => ∃ i : Nat, N - i < gg ∧ i ≤ N ∧ v = .int .i64 i ∧ Blk wr b 211 (u16s (nextNow L ps i)) ∧ Blk wr g 181 (flat celE (part L ps os i ++ D)) ∧ Keep (· = g) w wr)
          case atStart => exact ⟨0, by omega, by omega, rfl, qb, qg, qk⟩
          case round =>
            obtain ⟨i, q7, q8, rfl, qb, qg, qk⟩ := hrel
            by_cases hlt : i < N
            · have hiN : i < 2 ^ L := by rw [← HN.out]; omega
              have hat := part_at (L := L) (ps := ps) (cs := os) i (x := i) hiN
              rw [if_neg (Nat.lt_irrefl _)] at hat
              obtain ⟨sy, hsy⟩ : ∃ sy, sy = symAt L ps i := ⟨_, rfl⟩
              obtain ⟨n, hn⟩ : ∃ n, n = numAt L ps i := ⟨_, rfl⟩
              have hsl : sy < ps.length := by rw [hsy]; exact sym_lt H.out hiN
              have hnum := nextNow_num H.out hl hiN
              have hpush := nextNow_push H.out hiN
              have hlog := log_num H.out hiN
              have hn0 := numAt_pos H.out i
              have hn1 := numAt_lt H.out hiN
              rw [← hsy] at hat hnum hpush
              rw [← hn] at hnum hpush hlog hn0 hn1
              have hn2 : n < 1024 := by
                rw [Nat.pow_succ, ← HN.out] at hn1; omega
              generalize (os.getD i (0, 0, 0)).2 = y at hat
              have e0 : wr.cell? ⟨g, i * 3, none⟩ = some (.int .u8 sy) := qg.row celE_length (j := 0) (app_at hat) rfl
              have e1 : wr.cell? ⟨g, i * 3 + 1, none⟩ = some (.int .u8 y.1) := qg.row celE_length (j := 1) (app_at hat) rfl
              have e2 : wr.cell? ⟨g, i * 3 + 2, none⟩ = some (.int .u16 y.2) := qg.row celE_length (j := 2) (app_at hat) rfl
              have f0 := qg.frozen (i * 3)
              have f1 := qg.frozen (i * 3 + 1)
              have f2 := qg.frozen (i * 3 + 2)
              have hs256 : sy < 256 := by omega
              have d0 : wr.cell? ⟨b, sy, none⟩ = some (.int .u16 n) := by
                rw [qb.cell]; simp [u16s, hnum]
              have d1 := qb.frozen sy
              obtain ⟨l, hl2⟩ : ∃ l, l = Nat.log2 n := ⟨_, rfl⟩
              have hlz := lz16 n hn0 (by omega)
              rw [← hl2] at hlz hlog
              obtain ⟨d, hd⟩ : ∃ d, d = L - l := ⟨_, rfl⟩
              have hd1 : (15 : Int) - (15 - (l : Int)) = (l : Int) := by omega
              have hd2 : (L : Int) - (l : Int) = (d : Int) := by omega
              have hd9 : d ≤ 9 := by omega
              have hx1 := from_low (L := L) hn0 hn1
              have hx2 := from_high (L := L) hn0 hn1
              rw [bitsOf, ← hl2, ← hd, ← HN.out] at hx1
              rw [bitsOf, ← hl2, ← hd, Nat.pow_succ, ← HN.out] at hx2
              obtain ⟨x, hx⟩ : ∃ x, x = n * 2 ^ d := ⟨_, rfl⟩
              rw [← hx] at hx1
              have hx3 : x ≤ 1024 := by
                have := pow_pos' d
                rw [Nat.add_mul, ← hx] at hx2; omega
              have hxi : (n : Int) * 2 ^ d = (x : Int) := by rw [cast_mul_pow, hx]
              obtain ⟨z, hz⟩ : ∃ z, z = x - N := ⟨_, rfl⟩
              have hzi : (x : Int) - (N : Int) = (z : Int) := by omega
              have Hx := Lib.hid hx
              have Hz := Lib.hid hz
              have Hl2 := Lib.hid hl2
              have Hd := Lib.hid hd
              have Hlz := Lib.hid hlz
              clear hx2 hx hz hl2 hd hlz
              have Hat := Lib.hid hat
              have Hsy := Lib.hid hsy
              have Hn := Lib.hid hn
              have Hpush := Lib.hid hpush
              have Hlog := Lib.hid hlog
              have HiN := Lib.hid hiN
              clear hat hsy hn hnum hpush hlog hn1 hiN
              go_wp2_with (go_at_call 96; refine (Hlz.out _).mono ?_; rintro e w' ⟨rfl, rfl⟩)
              go_roundg (N - i)
              case measure => exact q7
              case rel =>
                refine ⟨i + 1, by omega, by omega, rfl, ?_, ?_, ?_⟩
                · refine Blk.cast ((((qb.set _ _).far hbg _).far hbg _)) ?_
                  rw [← Hpush.out]
                  simp [u16s, List.map_set]
                · refine Blk.cast (((qg.far hgb _).set _ _).set _ _) ?_
                  rw [celE_set1 Hat.out]
                  rw [celE_set2 (x := (sy, d, y.2)) (by simp [(List.getElem?_eq_some_iff.1 Hat.out).1])]
                  rw [List.set_set, ← part_push (sy, d, z)]
                  rw [cellAt, ← Hsy.out, ← Hn.out, ← Hl2.out, ← Hd.out, ← Hx.out, ← HN.out, ← Hz.out]
                · exact ((qk.set (p := ⟨b, sy, none⟩) (.inr hwb) _).set (p := ⟨g, i * 3 + 1, none⟩) (.inl rfl) _).set (p := ⟨g, i * 3 + 2, none⟩) (.inl rfl) _
            · obtain rfl : i = N := by omega
              have e : part L ps os i = tab L ps := by rw [HN.out]; exact part_all
              rw [e] at qg
              go_wp2
              go_ret
              exact ⟨rfl, qg, qk⟩
end Go.Proofs.YtabaholflahepaaDoor
