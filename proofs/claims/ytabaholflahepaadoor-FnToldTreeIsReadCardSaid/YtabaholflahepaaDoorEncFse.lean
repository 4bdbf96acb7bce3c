/-
  Contracts of (*writer).shares, (*writer).weightBytes.
-/
import Derived.Test.YtabaholflahepaaDoorEncPlain
import Derived.Test.YtabaholflahepaaDoorEncOps
import Derived.Deep.CutRange
namespace Go.Proofs.YtabaholflahepaaDoor
open Go.RowKit

section
theorem own_some {w : World} {base n size : Nat} {e : TypeId} {A : Option Addr} {c : Nat} {xs : List Value} (h : w.ownsRow base e size (.slice A n c) n xs) (hn : 0 < n) : ∃ g, A = some ⟨g, 0, none⟩ ∧ base ≤ g ∧ g < w.heap.size := by
  rcases h.2 with ⟨_, h0⟩ | ⟨g, cap, cur, hv, hb, hg, _⟩
  · omega
  · injection hv with h1 h2 h3
    exact ⟨g, h1, hb, (Array.getElem?_eq_some_iff.1 hg).1⟩
theorem getD_set {α : Type} (l : List α) (i : Nat) (x : α) (j : Nat) {d : α} : (l.set i x).getD j d = if j = i ∧ i < l.length then x else l.getD j d := by
  rw [List.getD_eq_getElem?_getD, List.getElem?_set, List.getD_eq_getElem?_getD]
  by_cases h : i = j
  · subst h
    by_cases h2 : i < l.length
    · simp [h2]
    · simp [h2]
  · rw [if_neg h, if_neg (fun hh => h hh.1.symm)]
theorem getD_push_zero (l : List Nat) (j : Nat) : (l ++ [0]).getD j 0 = l.getD j 0 := by
  rw [List.getD_eq_getElem?_getD, List.getD_eq_getElem?_getD]
  by_cases h : j < l.length
  · rw [List.getElem?_append_left h]
  · rw [List.getElem?_append_right (by omega), List.getElem?_eq_none (by omega : l.length ≤ j)]
    by_cases h2 : j - l.length = 0
    · rw [h2]; rfl
    · rw [List.getElem?_eq_none (by simp; omega)]
theorem counts_step {ws cs cs' : List Nat} {i s : Nat} (hws : ws[i]? = some s) (hc : ∀ j, cs'.getD j 0 = (ws.take i).count j) (hl : cs' = cs ∨ cs'.length ≤ s + 1) (hs : s < cs'.length) (hlast : cs ≠ [] → cs.getD (cs.length - 1) 0 ≠ 0) :
    Counts (ws.take (i + 1)) (cs'.set s (cs'.getD s 0 + 1)) := by
  refine ⟨fun j => ?_, fun _ => ?_⟩
  · rw [getD_set, take_push hws, List.count_append, List.count_singleton]
    by_cases hj : j = s
    · subst hj
      rw [if_pos ⟨rfl, hs⟩, hc]
      simp
    · rw [if_neg (fun h => hj h.1), hc]
      have : (s == j) = false := beq_eq_false_iff_ne.2 (fun h => hj h.symm)
      rw [this]; rfl
  · rw [List.length_set, getD_set]
    split
    · omega
    · rename_i hne
      rcases hl with rfl | hl
      · exact hlast (by rintro rfl; simp at hs)
      · exact absurd ⟨(by omega : cs'.length - 1 = s), hs⟩ hne

theorem getD_ofNat (l : List Nat) (x : Nat) : (l.map Int.ofNat).getD x 0 = (l.getD x 0 : Nat) := by
  rw [List.getD_eq_getElem?_getD, List.getD_eq_getElem?_getD, List.getElem?_map]
  cases l[x]? <;> rfl

set_option maxHeartbeats 4000000 in
set_option maxRecDepth 4000 in
theorem sharesW_any {R R' : Nat → Prop} (wb cb k L : Nat) (A : Option Addr) (c : Nat) (ws : List Nat) (w : World) (hw : w.cell? ⟨wb, 0, none⟩ = some (.pointer (some ⟨cb, 0, none⟩))) (hwc : wb ≠ cb) (hc : Chz w R cb k) (hRcb : ¬ R cb) (hRw : ∀ j, R j → j < w.heap.size) (hk : k ≤ 1073741824)
    (hs : Sl w R' A (nats ws)) (_hR' : ¬ R' cb) (h12 : ∀ x ∈ ws, x < 12) (hl : ws.length ≤ 255) (hl1 : 1 ≤ ws.length) (h5 : 5 ≤ L) (h6 : L ≤ 6) :
    Calls Tryd.prog 98 #[.pointer (some ⟨wb, 0, none⟩), .slice A ws.length c, .int .i64 (L : Int)] w fun e w' => ∃ k', k' ≤ k + 12 ∧ Chz w' R cb k' ∧ Keep (· = cb) w w' ∧
      (e = .returned (.slice none 0 0) ∨ ∃ g c' ps, e = .returned (.slice (some ⟨g, 0, none⟩) (List.length ps) c') ∧ ShareOf ws L ps ∧ w.heap.size ≤ g ∧ Blk w' g 3 (i64s ps)) := by
  obtain ⟨N, hN⟩ : ∃ N, N = 2 ^ L := ⟨_, rfl⟩
  have hNi : (2 : Int) ^ L = (N : Int) := by rw [two_pow_int, hN]
  have hN64 : N ≤ 64 := by rw [hN]; exact (Nat.pow_le_pow_right (by decide) h6 : 2 ^ L ≤ 2 ^ 6)
  obtain ⟨M, hM⟩ : ∃ M, M = ws.length := ⟨_, rfl⟩
  have HN := Lib.hid hN
  have Hc := Lib.hid hc
  have H12 := Lib.hid h12
  have HM := Lib.hid hM
  have HRw := Lib.hid hRw
  rw [← hM] at hl hl1 ⊢
  clear hN hc h12 hM hRw
  go_enter Tryd.func98, Tryd.ntmps98
  go_wp2
  go_loopg [7, 21] (M + 1) (fun g s7 s21 wr => ∃ (i n : Nat) (A' : Option Addr) (c' : Nat) (cs : List Nat), M - i < g ∧ i ≤ M ∧ s21 = .int .i64 i ∧ s7 = .slice A' n c' ∧ n ≤ 12 ∧ wr.ownsRow w.heap.size 3 1 (.slice A' n c') n (nats cs) ∧ Hid (n = cs.length) ∧ Hid (Counts (ws.take i) cs) ∧ Kept w wr)
  case atStart => exact ⟨0, 0, none, 0, [], by omega, by omega, rfl, rfl, by omega, World.ownsRow_nil _ _ _ _, rfl, ⟨fun s => by simp, fun h => absurd rfl h⟩, Keep.refl _ _⟩
  case round =>
    obtain ⟨i, n, A', c', cs, q1, q2, rfl, rfl, q3, qo, qn, qc, qk⟩ := hrel
    by_cases hlt : i < M
    · obtain ⟨g, o, s, hR, rfl, hcx, hxk⟩ := (hs.kept qk).nat (k := i) (by rw [← HM.out]; exact hlt)
      have hs12 : s < 12 := H12.out s (List.mem_of_getElem? hxk.out)
      go_wp2
      go_loopg [7] (s + 3) (fun gg s7 wr2 => ∃ (n' : Nat) (A2 : Option Addr) (c2 : Nat) (cs' : List Nat), s + 1 - n' < gg ∧ s7 = .slice A2 n' c2 ∧ n' ≤ 12 ∧ wr2.ownsRow w.heap.size 3 1 (.slice A2 n' c2) n' (nats cs') ∧ Hid (n' = cs'.length) ∧ Hid (∀ j, cs'.getD j 0 = (ws.take i).count j) ∧ Hid (cs' = cs ∨ n' ≤ s + 1) ∧ Kept w wr2)
      case atStart => exact ⟨n, A', c', cs, by omega, rfl, by omega, qo, qn.out, qc.out.1, .inl rfl, qk⟩
      case round =>
        obtain ⟨n', A2, c2, cs', r1, rfl, r2, ro, rn, rc, rl, rk⟩ := hrel
        by_cases hn : n' ≤ s
        · go_wp2_with (at_builtin; refine wpList_push rfl _ _ rfl elInt rk A2 n' c2 _ rfl ro [.int .i64 0] rfl rfl (by simp [Value.oneCell']) (by omega) ?_; intro A3 c3 w3 ho3 hk3 hg3)
          go_roundg (s + 1 - n')
          case measure => omega
          case rel => exact ⟨n' + 1, A3, c3, cs' ++ [0], by omega, rfl, by omega, by rw [nats_push]; exact ho3, by show _ = _; rw [List.length_append, ← rn.out]; rfl, fun j => by rw [getD_push_zero, rc.out], .inr (by omega), hk3⟩
        · obtain ⟨g2, rfl, hg2b, hg2l⟩ := own_some ro (by omega)
          obtain ⟨x, hx⟩ : ∃ x, cs'[s]? = some x := ⟨_, List.getElem?_eq_getElem (by rw [← rn.out]; omega)⟩
          have hxd : cs'.getD s 0 = x := by rw [List.getD_eq_getElem?_getD, hx]; rfl
          have d0 : wr.cell? ⟨g2, s, none⟩ = some (.int .i64 (x : Int)) := by
            rw [ro.cellAt s (by omega), nats, List.getElem?_map, hx]; rfl
          have f0 := ro.frozenAt s
          have hst := counts_step hxk.out rc.out (by rcases rl.out with h | h; exact .inl h; exact .inr (by rw [← rn.out]; exact h)) (by rw [← rn.out]; omega) qc.out.2
          rw [hxd] at hst
          have hx255 : x ≤ 255 := by
            have h1 := rc.out s
            rw [hxd] at h1
            have h2 := List.count_le_length (a := s) (l := ws.take i)
            rw [List.length_take] at h2
            have h3 := HM.out
            omega
          have hsn : s < n' := by omega
          have Hst := Lib.hid hst
          have hroS := ro.stored s (.int .i64 ((x : Int) + 1))
          have HroS := Lib.hid hroS
          clear hst hx hxd hroS
          go_wp2
          go_roundg (M - i)
          case measure => exact q1
          case rel =>
            refine ⟨i + 1, n', _, c2, cs'.set s (x + 1), by omega, by omega, rfl, rfl, by omega, ?_, by show _ = _; rw [List.length_set, ← rn.out], Hst.out, rk.set (p := ⟨g2, s, none⟩) (.inr hg2b) _⟩
            have := HroS.out.1
            rw [show ((x : Int) + 1) = ((x + 1 : Nat) : Int) by omega, nats_set] at this
            exact this
    · obtain rfl : i = M := by omega
      rw [List.take_of_length_le (by rw [← HM.out]; exact Nat.le_refl _)] at qc
      have hcs := qc.out
      have hn1 : 1 ≤ n := by
        obtain ⟨x, r, hxr⟩ : ∃ x r, ws = x :: r := by
          cases hws : ws with
          | nil => rw [hws] at HM; have := HM.out; simp at this; omega
          | cons x r => exact ⟨x, r, rfl⟩
        have h1 := hcs.1 x
        have h2 : 0 < ws.count x := List.count_pos_iff.2 (by rw [hxr]; exact List.mem_cons_self ..)
        refine Nat.lt_of_not_le fun h => ?_
        have h3 : cs = [] := List.eq_nil_of_length_eq_zero (by rw [← qn.out]; omega)
        rw [h3] at h1
        simp at h1
        omega
      have hcl : ∀ j, cs.getD j 0 ≤ i := fun j => by
        rw [hcs.1 j]
        have := List.count_le_length (a := j) (l := ws)
        rw [← HM.out] at this
        exact this
      obtain ⟨g7, rfl, hg7b, hg7l⟩ := own_some qo (by omega)
      have hsc := Sl.of_own qo
      have Hcs := Lib.hid hcs
      have Hcl := Lib.hid hcl
      have hkw := qk
      clear hcs hcl qc q1 q2 hlt
      go_upto_region 9 with (fail)
      go_quiet (fail)
      obtain ⟨W0, hW0⟩ : ∃ x, x = wr.drewN nq := ⟨_, rfl⟩
      have hkW0 : Kept w W0 := by rw [hW0]; exact hkw.drewN _
      have hsc0 : Sl W0 (fun j => w.heap.size ≤ j ∧ j < W0.heap.size) (some ⟨g7, 0, none⟩) (nats cs) := by rw [hW0]; exact hsc
      rw [← hW0]
      clear hW0 hkw hsc qo qk hg7l
      go_wp2_with (at_make; refine wpList_make rfl _ _ rfl elInt .i64 .i64 n n rfl rfl (Nat.le_refl _) (by omega) ?_; intro w1 hk1 hg1)
      obtain ⟨gb, hgb⟩ : ∃ x, x = W0.heap.size := ⟨_, rfl⟩
      rw [← hgb] at hg1 ⊢
      have hg2 : Blk w1 gb 3 (nats (List.replicate n 0)) := Blk.cast hg1 (by rw [Nat.mul_one, ← nats_zeros]; exact made_list (.int .i64 0) rfl n)
      have hsc1 := hsc0.kept hk1
      have hkw1 := hkW0.trans hk1
      have hwgb : w.heap.size ≤ gb := by rw [hgb]; exact hkW0.size
      have Hgb := Lib.hid hgb
      have hg1l := hg2.lt
      clear hg1 hsc0 hgb
      go_loopg [11, 12, 13, 48] (n + 1) (fun gg s11 s12 s13 s48 wr2 => ∃ (s used great : Nat) (left : Int) (os : List Nat), n - s < gg ∧ s ≤ n ∧ s48 = .int .i64 s ∧ s11 = .int .i64 used ∧ s12 = .int .i64 left ∧ s13 = .int .i64 great ∧ great < n ∧ used ≤ s ∧ left ≤ 64 ∧ -(16384 * (s : Int)) ≤ left ∧
        Hid (os.length = n) ∧ Hid (used = (usedC (cs.take s)).length) ∧ Hid (left + (os.sum : Int) = N) ∧ Hid (∀ j, j < s → cs.getD j 0 ≠ 0 → 1 ≤ os.getD j 0) ∧ Hid (∀ j, s ≤ j → os.getD j 0 = 0) ∧ Hid (∀ j, os.getD j 0 ≤ 16384) ∧ Blk wr2 gb 3 (nats os) ∧ Keep (· = gb) w1 wr2)
      case atStart =>
        refine ⟨0, 0, 0, N, List.replicate n 0, by omega, by omega, rfl, rfl, rfl, rfl, by omega, by omega, by omega, by omega, List.length_replicate .., rfl, ?_, fun j hj => by omega, fun j _ => ?_, fun j => ?_, hg2, Keep.refl _ _⟩
        · show _ = _
          simp
        · rw [List.getD_eq_getElem?_getD, List.getElem?_replicate]; split <;> rfl
        · rw [List.getD_eq_getElem?_getD, List.getElem?_replicate]; split <;> simp
      case round =>
        clear hg2
        obtain ⟨s, used, great, left, os, r1, r2, rfl, rfl, rfl, rfl, r3, r4, r5, r6, ol, ou, osum, o1, o0, o16, rb, rk⟩ := hrel
        by_cases hs : s < n
        · obtain ⟨gx, ox, x, hRx, hAx, hcx, hxk⟩ := (hsc1.keep rk (fun i _ h1 h2 => by have := Hgb.out; omega)).nat (k := s) (by rw [← qn.out]; exact hs)
          simp only [Option.some.injEq, Addr.mk.injEq] at hAx
          obtain ⟨rfl, rfl, _⟩ := hAx
          rw [Nat.zero_add] at hcx
          have hup := usedC_push hxk.out
          have hxd : cs.getD s 0 = x := by rw [List.getD_eq_getElem?_getD, hxk.out]; rfl
          have hxi : x ≤ i := by rw [← hxd]; exact Hcl.out s
          have Hxd := Lib.hid hxd
          clear hxd
          by_cases hx0 : x = 0
          · rw [if_pos hx0, List.append_nil] at hup
            have Hup := Lib.hid hup
            clear hup
            subst hx0
            have hcx0 : wr.cell? ⟨g7, s, none⟩ = some (.int .i64 0) := hcx
            clear hcx
            go_wp2
            go_roundg (n - s)
            case measure => exact r1
            case rel => exact ⟨s + 1, used, great, left, os, by omega, by omega, rfl, rfl, rfl, rfl, r3, by omega, r5, by omega, ol, by show _ = _; rw [Hup.out]; exact ou.out, osum, fun j hj hc => by
              by_cases hjs : j = s
              · subst hjs; exact absurd Hxd.out hc
              · exact o1.out j (by omega) hc, fun j hj => o0.out j (by omega), o16, rb, rk⟩
          · rw [if_neg hx0] at hup
            have Hup := Lib.hid hup
            clear hup
            have hxb : ((x : Int) == 0) = false := beq_eq_false_iff_ne.2 (by omega)
            obtain ⟨P, hP⟩ : ∃ P, P = x * N := ⟨_, rfl⟩
            have hPi : (x : Int) * (N : Int) = (P : Int) := by rw [hP, Int.natCast_mul]
            have hPb : P ≤ 16384 := by rw [hP]; exact Nat.le_trans (Nat.mul_le_mul hxi hN64) (by omega)
            obtain ⟨D, hD⟩ : ∃ D, D = P / i := ⟨_, rfl⟩
            have hDb : D ≤ 16384 := by rw [hD]; exact Nat.le_trans (Nat.div_le_self _ _) hPb
            have hDi : (P : Int) / (i : Int) = (D : Int) := by rw [hD, Int.natCast_ediv]
            have hDt : (P : Int).tdiv (i : Int) = (D : Int) := by rw [Int.tdiv_eq_ediv_of_nonneg (by omega)]; exact hDi
            obtain ⟨E, hE⟩ : ∃ E, E = D / 2 := ⟨_, rfl⟩
            have hEi : (D : Int) / 2 = (E : Int) := by omega
            have hEt : (D : Int).tdiv 2 = (E : Int) := by rw [Int.tdiv_eq_ediv_of_nonneg (by omega)]; exact hEi
            obtain ⟨y, hy⟩ : ∃ y, y = max 1 E := ⟨_, rfl⟩
            have hyi : max (1 : Int) (E : Int) = (y : Int) := by omega
            have hy1 : 1 ≤ y := by omega
            have hyb : y ≤ 16384 := by omega
            have hosx : os[s]? = some 0 := by
              have := o0.out s (Nat.le_refl _)
              rw [List.getD_eq_getElem?_getD, List.getElem?_eq_getElem (by rw [ol.out]; exact hs)] at this
              rw [List.getElem?_eq_getElem (by rw [ol.out]; exact hs)]
              exact congrArg some this
            have e0 : wr.cell? ⟨gb, s, none⟩ = some (.int .i64 0) := by rw [rb.cell, nats, List.getElem?_map, hosx]; rfl
            have f0 := rb.frozen s
            have hsum := sum_set os s 0 y hosx
            have Hsum := Lib.hid hsum
            have Hosx := Lib.hid hosx
            clear hP hD hE hy hsum hosx
            go_upto_region 18 with (fail)
            obtain ⟨os', hos'⟩ : ∃ x, x = os.set s y := ⟨_, rfl⟩
            obtain ⟨W2, hW2⟩ : ∃ x, x = wr.setCell ⟨gb, s, none⟩ (.int .i64 (y : Int)) := ⟨_, rfl⟩
            rw [← hW2]
            have rb2 : Blk W2 gb 3 (nats os') := by rw [hW2, hos', ← nats_set]; exact rb.set s _
            have rk2 : Keep (· = gb) w1 W2 := by rw [hW2]; exact rk.set (p := ⟨gb, s, none⟩) (.inl rfl) _
            have hl2 : os'.length = n := by rw [hos', List.length_set]; exact ol.out
            have hgs : os'.getD s 0 = y := by rw [hos', getD_set, if_pos ⟨rfl, by rw [ol.out]; exact hs⟩]
            have hother : ∀ j, j ≠ s → os'.getD j 0 = os.getD j 0 := fun j hj => by rw [hos', getD_set, if_neg (fun h => hj h.1)]
            have hat : ∀ j, j < n → W2.cell? ⟨gb, j, none⟩ = some (.int .i64 ((os'.getD j 0 : Nat) : Int)) := fun j hj => by
              rw [rb2.cell, nats_at (by rw [hl2]; exact hj)]
            have e1 := hat s hs
            rw [hgs] at e1
            obtain ⟨gy, hgy⟩ : ∃ x, x = os'.getD great 0 := ⟨_, rfl⟩
            have e2 := hat great r3
            rw [← hgy] at e2
            have hgyb : gy ≤ 16384 := by
              rw [hgy]
              by_cases hgs2 : great = s
              · rw [hgs2, hgs]; exact hyb
              · rw [hother great hgs2]; exact o16.out great
            have hsum2 : left - (y : Int) + (os'.sum : Int) = N := by have := osum.out; have := Hsum.out; rw [← hos'] at this; omega
            have hrel2 : (∀ j, j < s + 1 → cs.getD j 0 ≠ 0 → 1 ≤ os'.getD j 0) ∧ (∀ j, s + 1 ≤ j → os'.getD j 0 = 0) ∧ (∀ j, os'.getD j 0 ≤ 16384) := by
              refine ⟨fun j hj hc => ?_, fun j hj => ?_, fun j => ?_⟩
              · by_cases hjs : j = s
                · rw [hjs, hgs]; exact hy1
                · rw [hother j hjs]; exact o1.out j (by omega) hc
              · rw [hother j (by omega)]; exact o0.out j (by omega)
              · by_cases hjs : j = s
                · rw [hjs, hgs]; exact hyb
                · rw [hother j hjs]; exact o16.out j
            have Hrel2 := Lib.hid hrel2
            have Hl2 := Lib.hid hl2
            have Hsum2 := Lib.hid hsum2
            clear hW2 hos' hl2 hgs hother hat hgy hsum2 hrel2 rb rk o1 o0 o16 osum ol e0 f0 hcx
            by_cases hge : gy ≤ y
            · have d1 : decide (gy ≤ y) = true := decide_eq_true hge
              have d2 : decide ((gy : Int) ≤ (y : Int)) = true := decide_eq_true (by omega)
              go_wp2
              go_quiet (fail)
              go_wp2
              go_roundg (n - s)
              case measure => exact r1
              case rel => exact ⟨s + 1, used + 1, s, left - (y : Int), os', by omega, by omega, rfl, rfl, rfl, rfl, hs, by omega, by omega, by omega, Hl2.out, by show _ = _; rw [Hup.out, List.length_append, ← ou.out]; rfl, Hsum2.out, Hrel2.out.1, Hrel2.out.2.1, Hrel2.out.2.2, rb2.drewN _, rk2.drewN _⟩
            · have d1 : decide (gy ≤ y) = false := decide_eq_false hge
              have d2 : decide ((gy : Int) ≤ (y : Int)) = false := decide_eq_false (by omega)
              go_wp2
              go_quiet (fail)
              go_wp2
              go_roundg (n - s)
              case measure => exact r1
              case rel => exact ⟨s + 1, used + 1, great, left - (y : Int), os', by omega, by omega, rfl, rfl, rfl, rfl, r3, by omega, by omega, by omega, Hl2.out, by show _ = _; rw [Hup.out, List.length_append, ← ou.out]; rfl, Hsum2.out, Hrel2.out.1, Hrel2.out.2.1, Hrel2.out.2.2, rb2.drewN _, rk2.drewN _⟩
        · obtain rfl : s = n := by omega
          rw [List.take_of_length_le (by rw [← qn.out]; exact Nat.le_refl _)] at ou
          have hkk : Kept w wr := hkw1.then rk (fun j hj h => by omega)
          by_cases hu2 : used < 2
          · clear o1 o0 o16
            go_wp2
            go_ret
            exact ⟨k, by omega, Hc.out.kept hkk, Kept.any hkk _, .inl rfl⟩
          by_cases hlf : left < 0
          · clear o1 o0 o16
            go_wp2
            go_ret
            exact ⟨k, by omega, Hc.out.kept hkk, Kept.any hkk _, .inl rfl⟩
          obtain ⟨lv, rfl⟩ : ∃ lv : Nat, left = (lv : Int) := ⟨left.toNat, by omega⟩
          obtain ⟨gy, hgy⟩ : ∃ x, x = os.getD great 0 := ⟨_, rfl⟩
          have hog : os[great]? = some gy := by
            rw [hgy, List.getD_eq_getElem?_getD, List.getElem?_eq_getElem (by rw [ol.out]; exact r3)]; rfl
          have hgyb : gy ≤ 16384 := by rw [hgy]; exact o16.out great
          have e0 : wr.cell? ⟨gb, great, none⟩ = some (.int .i64 (gy : Int)) := by rw [rb.cell, nats, List.getElem?_map, hog]; rfl
          have f0 := rb.frozen great
          have hs2 := sum_set os great gy (gy + lv) hog
          obtain ⟨os2, hos2⟩ : ∃ x, x = os.set great (gy + lv) := ⟨_, rfl⟩
          have hsum : os2.sum = N := by rw [hos2]; have := osum.out; omega
          have hl2 : os2.length = s := by rw [hos2, List.length_set]; exact ol.out
          have hpos2 : ∀ j, cs.getD j 0 ≠ 0 → 1 ≤ os2.getD j 0 := fun j hj => by
            have hjn : j < s := by
              refine Nat.lt_of_not_le fun h => hj ?_
              rw [List.getD_eq_getElem?_getD, List.getElem?_eq_none (by rw [← qn.out]; exact h)]; rfl
            have h1 := o1.out j hjn hj
            rw [hos2, getD_set]
            split
            · rename_i h; rw [h.1] at h1; omega
            · exact h1
          have Hsum := Lib.hid hsum
          have Hl2 := Lib.hid hl2
          have Hpos2 := Lib.hid hpos2
          clear hgy hog hs2 hsum hl2 hpos2 o1 o0 o16 osum ol
          go_upto_region 25 with (fail)
          obtain ⟨W2, hW2⟩ : ∃ x, x = wr.setCell ⟨gb, great, none⟩ (.int .i64 ((gy : Int) + (lv : Int))) := ⟨_, rfl⟩
          rw [← hW2]
          have rb2 : Blk W2 gb 3 (nats os2) := by
            rw [hW2, hos2, ← nats_set, show ((gy + lv : Nat) : Int) = (gy : Int) + (lv : Int) by omega]; exact rb.set great _
          have rk2 : Keep (· = gb) w1 W2 := by rw [hW2]; exact rk.set (p := ⟨gb, great, none⟩) (.inl rfl) _
          have hkk2 : Kept w W2 := hkw1.then rk2 (fun j hj h => by omega)
          have hwb2 := hkk2.cell hw (fun h => h)
          have hwbl := World.block_lt_of_cell? w _ hw
          have hcb2 : cb < w.heap.size := by obtain ⟨_, _, _, _, hb, _⟩ := Hc.out; exact hb.lt
          have hcz2 := Hc.out.kept hkk2
          have hRcb2 : ∀ j, R j → j ≠ cb ∧ j ≠ gb := fun j hj => ⟨fun h => hRcb (h ▸ hj), by have := HRw.out j hj; omega⟩
          have HRcb2 := Lib.hid hRcb2
          have hwbg : ¬ wb = gb := by simp only at hwbl; omega
          have hcbg : ¬ cb = gb := by omega
          clear hW2 hos2 rb rk e0 f0 hkk hRcb2
          go_wp2
          go_loopg [100] (s + 1) (fun gg s100 wr2 => ∃ (j k' : Nat) (ps : List Int), s - j < gg ∧ j ≤ s ∧ s100 = .int .i64 j ∧ k' ≤ k + j ∧ Hid (ps.length = s) ∧ Hid (∀ x, (ps.getD x 0).natAbs = os2.getD x 0) ∧ Hid (∀ x, -1 ≤ ps.getD x 0) ∧ Hid (∀ x, j ≤ x → ps.getD x 0 = (os2.getD x 0 : Nat)) ∧ Blk wr2 gb 3 (i64s ps) ∧ Chz wr2 R cb k' ∧ Keep (fun x => x = cb ∨ x = gb) W2 wr2)
          case atStart =>
            refine ⟨0, k, os2.map Int.ofNat, by omega, by omega, rfl, by omega, by show _ = _; rw [List.length_map]; exact Hl2.out, fun x => ?_, fun x => ?_, fun x _ => ?_, Blk.cast rb2 ?_, hcz2, Keep.refl _ _⟩
            · rw [getD_ofNat]; exact Int.natAbs_natCast _
            · rw [getD_ofNat]; omega
            · exact getD_ofNat _ _
            · rw [nats, i64s, List.map_map]; rfl
          case round =>
            clear rb2 hcz2
            obtain ⟨j, k', ps, t1, t2, rfl, t3, pl, pa, p1, p0, tb, tc, tk⟩ := hrel
            by_cases hj : j < s
            · obtain ⟨o, ho⟩ : ∃ o, o = os2.getD j 0 := ⟨_, rfl⟩
              have hpj := p0.out j (Nat.le_refl _)
              rw [← ho] at hpj
              have hpg : ps[j]? = some (o : Int) := by
                rw [← hpj, List.getD_eq_getElem?_getD, List.getElem?_eq_getElem (by rw [pl.out]; exact hj)]; rfl
              have e0 : wr.cell? ⟨gb, j, none⟩ = some (.int .i64 (o : Int)) := by rw [tb.cell, i64s, List.getElem?_map, hpg]; rfl
              have f0 := tb.frozen j
              have ew : wr.cell? ⟨wb, 0, none⟩ = some (.pointer (some ⟨cb, 0, none⟩)) := tk.cell hwb2 (fun h => by rcases h with h | h; exact hwc h; exact hwbg h)
              have Ho := Lib.hid ho
              clear hpj hpg ho
              by_cases ho1 : o = 1
              · have hob : ((o : Int) == 1) = true := beq_iff_eq.2 (by omega)
                have hch := chooser_any cb k' 2 wr tc hRcb (by omega) (by decide) (by decide)
                have Hch := Lib.hid hch
                clear hch tc
                go_wp2_with (go_at_call 61; (with_reducible refine Hch.out.mono ?_); rintro e w3 ⟨v, k2, rfl, hv, hk2, tc3, hk3⟩; have hv2 : v = 0 ∨ v = 1 := (by omega); clear hv; have e3 := hk3.cell e0 (fun h => hcbg h.symm); have tb3 := tb.keep hk3 (fun h => hcbg h.symm); have f3 := tb3.frozen j)
                · go_roundg (s - j)
                  case measure => exact t1
                  case rel =>
                    refine ⟨j + 1, k2, ps.set j (-1), by omega, by omega, rfl, by omega, by show _ = _; rw [List.length_set]; exact pl.out, fun x => ?_, fun x => ?_, fun x hx => ?_, Blk.cast (tb3.set j _) (by simp [i64s, List.map_set]), tc3.keep ((Keep.refl (· = gb) _).set (p := ⟨gb, j, none⟩) (.inl rfl) _) hcbg (fun y _ h1 h2 => (HRcb2.out y h1).2 h2), (tk.then hk3 (fun y _ h => .inl h)).set (p := ⟨gb, j, none⟩) (.inl (.inr rfl)) _⟩
                    · rw [getD_set]
                      split
                      · rename_i h; rw [h.1, ← Ho.out, ho1]; rfl
                      · exact pa.out x
                    · rw [getD_set]
                      split
                      · omega
                      · exact p1.out x
                    · rw [getD_set, if_neg (by omega)]
                      exact p0.out x (by omega)
                · go_roundg (s - j)
                  case measure => exact t1
                  case rel => exact ⟨j + 1, k2, ps, by omega, by omega, rfl, by omega, pl.out, pa.out, p1.out, fun x hx => p0.out x (by omega), tb3, tc3, tk.then hk3 (fun y _ h => .inl h)⟩
              · have hob : ((o : Int) == 1) = false := beq_eq_false_iff_ne.2 (by omega)
                go_wp2
                go_roundg (s - j)
                case measure => exact t1
                case rel => exact ⟨j + 1, k', ps, by omega, by omega, rfl, by omega, pl.out, pa.out, p1.out, fun x hx => p0.out x (by omega), tb, tc, tk⟩
            · obtain rfl : j = s := by omega
              have hsf := shares_fine (L := L) Hcs.out (by rw [Hl2.out]; exact qn.out) (by rw [pl.out]; exact qn.out) Hpos2.out (by rw [Hsum.out]; exact HN.out) (by rw [← ou.out]; omega) pa.out p1.out (by rw [← qn.out]; exact q3)
              have Hsf := Lib.hid hsf
              clear hsf
              go_wp2
              go_ret
              exact ⟨k', by omega, tc, (Kept.any hkk2 (· = cb)).then tk (fun y hy h => by rcases h with h | h; exact h; omega), .inr ⟨gb, j, ps, by rw [pl.out]; rfl, Hsf.out, hwgb, tb⟩⟩
end

section
/-- What weightBytes and treeBytes hand back: nothing, or what tells the weights. -/
def WbPost (R : Nat → Prop) (cb k lim : Nat) (ws : List Nat) (w : World) (e : Ending) (w' : World) : Prop :=
  ∃ k', k' ≤ k + lim ∧ Chz w' R cb k' ∧ Keep (· = cb) w w' ∧ (e = .returned (.slice none 0 0) ∨
    ∃ g n c' zs, e = .returned (.slice (some ⟨g, 0, none⟩) n c') ∧ Hid (n = List.length zs) ∧ n ≤ 256 ∧ w'.ownsRow w.heap.size 5 1 (.slice (some ⟨g, 0, none⟩) n c') n (u8s zs) ∧ TellsW zs ws)

theorem tot_take_push {ps : List Int} {k : Nat} {p : Int} (h : ps[k]? = some p) : tot (ps.take (k + 1)) = tot (ps.take k) + p.natAbs := by rw [take_push h, tot_push]
/-- States that are found from the last one on. -/
structure GoodSt (tb : List (Nat × Nat × Nat)) (N : Nat) (ws st : List Nat) (j : Nat) : Prop where
  lt : st.getD j 0 < N
  sym : symOf tb (st.getD j 0) = ws.getD j 0
  next : j + 2 < ws.length → baseS tb (st.getD j 0) ≤ st.getD (j + 2) 0 ∧ st.getD (j + 2) 0 < baseS tb (st.getD j 0) + 2 ^ bitsS tb (st.getD j 0)
  last : ws.length ≤ j + 2 → 0 < bitsS tb (st.getD j 0)
theorem GoodSt.keep {tb : List (Nat × Nat × Nat)} {N : Nat} {ws st : List Nat} {j i x : Nat} (h : GoodSt tb N ws st j) (hij : i < j) : GoodSt tb N ws (st.set i x) j := by
  have e1 : (st.set i x).getD j 0 = st.getD j 0 := by rw [getD_set, if_neg (by omega)]
  have e2 : (st.set i x).getD (j + 2) 0 = st.getD (j + 2) 0 := by rw [getD_set, if_neg (by omega)]
  obtain ⟨h1, h2, h3, h4⟩ := h
  exact ⟨by rw [e1]; exact h1, by rw [e1]; exact h2, by rw [e1, e2]; exact h3, by rw [e1]; exact h4⟩
theorem good_tells {tb : List (Nat × Nat × Nat)} {N : Nat} {ws st : List Nat} (hl : st.length = ws.length) (h2 : 2 ≤ ws.length) (h : ∀ j, j < ws.length → GoodSt tb N ws st j) : Tells tb ws st ∧ ∀ x ∈ st, x < N := by
  refine ⟨⟨hl, h2, fun i hi => (h i hi).sym, fun i hi => (h i (by omega)).next hi, ?_⟩, fun x hx => ?_⟩
  · exact (h (ws.length - 2) (by omega)).last (by omega)
  · obtain ⟨j, hj, rfl⟩ := List.getElem_of_mem hx
    have := (h j (by omega)).lt
    rw [List.getD_eq_getElem?_getD, List.getElem?_eq_getElem hj] at this
    exact this

theorem Rest.shares {L : Nat} {ps : List Int} (h : Rest ps (2 ^ L)) (h5 : 5 ≤ L) (h9 : L ≤ 9) : IsShares L ps := ⟨h5, h9, h.least, (tot_expand ps 0 h.least).trans h.sum⟩
theorem Sl.blk {w : World} {g : Nat} {t : TypeId} {cs : List Value} (h : Blk w g t cs) : Sl w (· = g) (some ⟨g, 0, none⟩) cs := .inr ⟨g, 0, rfl, rfl, fun j u hu => by rw [Nat.zero_add, h.cell]; exact hu⟩

set_option maxHeartbeats 8000000 in
set_option maxRecDepth 4000 in
theorem weightBytes_any {R R' : Nat → Prop} (wb cb k : Nat) (A : Option Addr) (c : Nat) (ws : List Nat) (w : World) (hw : w.cell? ⟨wb, 0, none⟩ = some (.pointer (some ⟨cb, 0, none⟩))) (hwc : wb ≠ cb) (hc : Chz w R cb k) (hRcb : ¬ R cb) (hRw : ∀ j, R j → j < w.heap.size) (hk : k ≤ 1073741000)
    (hs : Sl w R' A (nats ws)) (hR' : ¬ R' cb) (hRw' : ∀ j, R' j → j < w.heap.size) (h12 : ∀ x ∈ ws, x < 12) (hl : ws.length ≤ 255) (hl1 : 1 ≤ ws.length) :
    Calls Tryd.prog 83 #[.pointer (some ⟨wb, 0, none⟩), .slice A ws.length c] w (WbPost R cb k 16 ws w) := by
  have hch := chooser_any cb k 2 w hc hRcb (by omega) (by decide) (by decide)
  have hsh := fun (k' L : Nat) w' (hk' : k' ≤ k + 1) (h5 : 5 ≤ L) (h6 : L ≤ 6) (hkk : Keep (· = cb) w w') (hcz : Chz w' R cb k') =>
    sharesW_any wb cb k' L A c ws w' (hkk.cell hw hwc) hwc hcz hRcb (fun j hj => Nat.lt_of_lt_of_le (hRw j hj) hkk.size) (by omega) (hs.keep hkk (fun j _ h1 h2 => hR' (h2 ▸ h1))) hR' h12 hl hl1 h5 h6
  obtain ⟨M, hM⟩ : ∃ M, M = ws.length := ⟨_, rfl⟩
  rw [← hM] at hl hl1 hsh ⊢
  have Hch := Lib.hid hch
  have Hsh := Lib.hid hsh
  have HM := Lib.hid hM
  have hcbw : cb < w.heap.size := by obtain ⟨_, _, _, _, hb, _⟩ := hc; exact hb.lt
  have HRw := Lib.hid hRw
  clear hch hsh hM h12 hc hRw
  have hnl := fun (w : World) (a : Option Addr) (n c n' c' : Nat) => Lib.run_eql_slice_nil (P := Tryd.prog) w 23 3 a n c n' c' Tryd.underlying23
  go_enter Tryd.func83, Tryd.ntmps83
  by_cases h3 : M < 3
  · go_wp2_with (first
      | (go_at_call 61; (with_reducible refine Hch.out.mono ?_); rintro e w1 ⟨v, k1, rfl, hv, hk1, tc1, hkk1⟩; have hv2 : v ≤ 1 := (by omega); clear hv; obtain ⟨L, hL⟩ : ∃ L : Nat, (5 : Int) + (v : Int) = (L : Int) := ⟨5 + v, by omega⟩; have h5 : 5 ≤ L := (by omega); have h6 : L ≤ 6 := (by omega))
      | (go_at_call 98; (with_reducible refine (Hsh.out k1 L w1 hk1 h5 h6 hkk1 tc1).mono ?_); rintro e w2 ⟨k2, hk2, tc2, hkk2, rfl | ⟨g, c', ps, rfl, hsf, hwg, hgb⟩⟩))
    all_goals
      have hkk := hkk1.trans hkk2
      go_ret
      exact ⟨k2, by omega, tc2, hkk, .inl rfl⟩
  · go_wp2_with (first
      | (go_at_call 61; (with_reducible refine Hch.out.mono ?_); rintro e w1 ⟨v, k1, rfl, hv, hk1, tc1, hkk1⟩; have hv2 : v ≤ 1 := (by omega); clear hv; obtain ⟨L, hL⟩ : ∃ L : Nat, (5 : Int) + (v : Int) = (L : Int) := ⟨5 + v, by omega⟩; have h5 : 5 ≤ L := (by omega); have h6 : L ≤ 6 := (by omega))
      | (go_at_call 98; (with_reducible refine (Hsh.out k1 L w1 hk1 h5 h6 hkk1 tc1).mono ?_); rintro e w2 ⟨k2, hk2, tc2, hkk2, rfl | ⟨g, c', ps, rfl, hsf, hwg, hgb⟩⟩))
    · have hkk := hkk1.trans hkk2
      go_wp2
      go_ret
      exact ⟨k2, by omega, tc2, hkk, .inl rfl⟩
    · have hkk := hkk1.trans hkk2
      obtain ⟨n, hn⟩ : ∃ n, n = ps.length := ⟨_, rfl⟩
      obtain ⟨N, hN⟩ : ∃ N, N = 2 ^ L := ⟨_, rfl⟩
      have hNi : (2 : Int) ^ L = (N : Int) := by rw [two_pow_int, hN]
      have hN64 : N ≤ 64 := by rw [hN]; exact (Nat.pow_le_pow_right (by decide) h6 : 2 ^ L ≤ 2 ^ 6)
      have hn12 : n ≤ 12 := by rw [hn]; exact hsf.few
      have htot : tot ps = N := by rw [hN]; exact hsf.rest.sum
      have htl : ∀ k, tot (ps.take k) ≤ N := fun k => by rw [← htot]; exact tot_take_le ps k
      have hwg1 : w.heap.size ≤ g := by have := hkk1.size; omega
      have Hn := Lib.hid hn
      have HN := Lib.hid hN
      have Hsf := Lib.hid hsf
      have Htot := Lib.hid htot
      have Htl := Lib.hid htl
      rw [← hn]
      clear hn hN hsf htot htl Hch Hsh
      go_wp2
      go_loopg [6, 36] (n + 1) (fun gg s6 s36 wr => ∃ i z : Nat, n - i < gg ∧ i ≤ n ∧ s36 = .int .i64 i ∧ s6 = .int .i64 z ∧ z ≤ 64 ∧ Hid (z = tot (ps.take i)) ∧ w2 = wr)
      case atStart => exact ⟨0, 0, by omega, by omega, rfl, rfl, by omega, rfl, rfl⟩
      case round =>
        obtain ⟨i, z, r1, r2, rfl, rfl, r3, r4, rfl⟩ := hrel
        by_cases hi : i < n
        · obtain ⟨p, hp⟩ : ∃ p, ps[i]? = some p := ⟨_, List.getElem?_eq_getElem (by rw [← Hn.out]; exact hi)⟩
          have e0 : w2.cell? ⟨g, i, none⟩ = some (.int .i64 p) := by rw [hgb.cell, i64s, List.getElem?_map, hp]; rfl
          obtain ⟨y, hy⟩ : ∃ y, y = p.natAbs := ⟨_, rfl⟩
          have hyi : max p (-p) = (y : Int) := by omega
          have htp := tot_take_push hp
          rw [← hy, ← r4.out] at htp
          have hzb : z + y ≤ 64 := by have := Htl.out (i + 1); omega
          have Htp := Lib.hid htp
          have hpb : -64 ≤ p ∧ p ≤ 64 := by omega
          obtain ⟨hpb1, hpb2⟩ := hpb
          clear htp hy hp
          go_wp2
          go_roundg (n - i)
          case measure => exact r1
          case rel => exact ⟨i + 1, z + y, by omega, by omega, rfl, rfl, hzb, Htp.out.symm, rfl⟩
        · obtain rfl : n = i := by omega
          rw [List.take_of_length_le (by rw [← Hn.out]; exact Nat.le_refl _), Htot.out] at r4
          have hz : z = N := r4.out
          subst hz
          clear r4
          obtain ⟨tb, htb⟩ : ∃ x, x = tab L ps := ⟨_, rfl⟩
          have hish := Hsf.out.rest.shares h5 (by omega)
          have htab := fun w' (hk : Kept w2 w') => tableOf_any (some ⟨g, 0, none⟩) c' L ps w' (Sl.blk (hgb.kept hk)) hish (by rw [← Hn.out]; omega)
          rw [← Hn.out, ← htb, ← HN.out] at htab
          have htbl : tb.length = z := by rw [htb, tab_length, HN.out]
          have hb1 := fun (s t : Nat) w' gt (hg : Blk w' gt 177 (flat cel3 tb)) (hs : ps.getD s 0 ≠ 0) (ht : t < z) => before_to gt L s t ps w' (by rw [← htb]; exact hg) hish h6 hs (by rw [← HN.out]; exact ht)
          have hb2 := fun (s : Nat) w' gt (hg : Blk w' gt 177 (flat cel3 tb)) (hs : ps.getD s 0 ≠ 0) (ht : (ps.getD s 0).natAbs < z) => before_last gt L s ps w' (by rw [← htb]; exact hg) hish h6 hs (by rw [← HN.out]; exact ht)
          rw [← htb, ← HN.out] at hb1 hb2
          have htold := fun w' (hk : Kept w2 w') => shareBytes_any (some ⟨g, 0, none⟩) n c' L ps Hn.out w' (Sl.blk (hgb.kept hk)) Hsf.out.rest h5 (by omega) (by rw [← Hn.out]; omega)
          have Hb1 := Lib.hid hb1
          have Hb2 := Lib.hid hb2
          have Htold := Lib.hid htold
          have Htab := Lib.hid htab
          have Htbl := Lib.hid htbl
          have Htb := Lib.hid htb
          have Hish := Lib.hid hish
          have hLt : ∀ j, 2 ^ j < z ↔ j < L := fun j => by rw [HN.out]; exact Nat.pow_lt_pow_iff_right (by decide)
          have HLt := Lib.hid hLt
          clear htab htbl htb hish hb1 hb2 htold hLt
          go_wp2
          go_loopg [9] (L + 1) (fun gg s9 wr => ∃ j : Nat, L - j < gg ∧ 5 ≤ j ∧ j ≤ L ∧ s9 = .int .i64 j ∧ w2 = wr)
          case atStart => exact ⟨5, by omega, by omega, by omega, rfl, rfl⟩
          case round =>
            obtain ⟨j, r1, r2, r3, rfl, rfl⟩ := hrel
            by_cases hj : j < L
            · obtain ⟨Q, hQ⟩ : ∃ Q, Q = 2 ^ j := ⟨_, rfl⟩
              have hQz : Q < z := by rw [hQ]; exact (HLt.out j).2 hj
              have hQi : (2 : Int) ^ j = (Q : Int) := by rw [two_pow_int, hQ]
              clear hQ
              go_wp2
              go_roundg (L - j)
              case measure => exact r1
              case rel => exact ⟨j + 1, by omega, by omega, by omega, rfl, rfl⟩
            · obtain rfl : L = j := by omega
              clear r1 r2 r3 hj
              go_wp2_with (first
                | (go_at_call 52; (with_reducible refine (Htab.out _ (Keep.refl _ _)).mono ?_); rintro e w3 ⟨gt, hgt, rfl, hgt3, hk3⟩)
                | (at_make; refine wpList_make rfl _ _ rfl elInt .i64 .i64 M M rfl rfl (Nat.le_refl _) (by omega) ?_; intro w4 hk4 hg4))
              obtain ⟨tk, htk⟩ : ∃ x, x = w3.heap.size := ⟨_, rfl⟩
              obtain ⟨W3, hW3⟩ : ∃ x, x = w3.alloc (.cells #[.slice (some ⟨gt, 0, none⟩) z z, .int .i64 (L : Int)] 104) := ⟨_, rfl⟩
              have hW3s : W3.heap.size = tk + 1 := by rw [hW3, htk]; simp
              have htk3 : Blk W3 tk 104 [.slice (some ⟨gt, 0, none⟩) z z, .int .i64 (L : Int)] := by rw [hW3, htk]; exact Blk.new w3 104 _
              have hkW3 : Kept w3 W3 := by rw [hW3]; exact (Keep.refl _ _).alloc _
              rw [← hW3] at hk4 hg4
              rw [hW3s] at hg4
              obtain ⟨gs, hgs⟩ : ∃ x, x = tk + 1 := ⟨_, rfl⟩
              rw [← htk, ← hgs]
              rw [← hgs] at hg4
              have hs4 : Blk w4 gs 3 (nats (List.replicate M 0)) := Blk.cast hg4 (by rw [Nat.mul_one, ← nats_zeros]; exact made_list (.int .i64 0) rfl M)
              have ht4 := htk3.kept hk4
              have hk24 : Kept w2 w4 := (hk3.trans hkW3).trans hk4
              have hgt4 := (hgt3.kept hkW3).kept hk4
              have hw2tk : w2.heap.size ≤ tk := by rw [htk]; exact hk3.size
              have hgttk : gt < tk := by rw [htk]; exact hgt3.lt
              have Hgs := Lib.hid hgs
              have hgs1 : tk < gs := by omega
              have hSr := (hs.keep hkk (fun j _ h1 h2 => hR' (h2 ▸ h1))).kept hk24
              clear htk hW3 hW3s htk3 hkW3 hg4 hgs hgt3 hk3 hk4
              go_loopg [12] (M + 1) (fun gg s12 wr => ∃ (lo : Nat) (x : Int) (st : List Nat), lo < gg ∧ lo ≤ M ∧ s12 = .int .i64 x ∧ x = (lo : Int) - 1 ∧ Hid (st.length = M) ∧ Hid (∀ j, lo ≤ j → j < M → GoodSt tb z ws st j) ∧ Blk wr gs 3 (nats st) ∧ Keep (· = gs) w4 wr)
              case atStart => exact ⟨M, (M : Int) - 1, List.replicate M 0, by omega, by omega, rfl, rfl, List.length_replicate .., fun j h1 h2 => by omega, hs4, Keep.refl _ _⟩
              case round =>
                clear hs4
                obtain ⟨lo, x, st, r1, r2, rfl, hx, sl, sg, rb, rk⟩ := hrel
                by_cases hlo : 0 < lo
                · obtain ⟨j, rfl⟩ : ∃ j, lo = j + 1 := ⟨lo - 1, by omega⟩
                  obtain rfl : x = (j : Int) := by omega
                  clear hx
                  have hjM : j < M := by omega
                  obtain ⟨gw, ow, wj, _, rfl, hcw, hwk⟩ := (hSr.keep rk (fun i hi h1 h2 => by have := hRw' i h1; have := hkk.size; omega)).nat (k := j) (by rw [← HM.out]; exact hjM)
                  have hwd : ws.getD j 0 = wj := by rw [List.getD_eq_getElem?_getD, hwk.out]; rfl
                  have hps := Hsf.out.has wj (List.mem_of_getElem? hwk.out)
                  have hgtr := hgt4.keep rk (by omega)
                  have htkr := ht4.keep rk (by omega)
                  have dt0 : wr.cell? ⟨tk, 0, none⟩ = some (.slice (some ⟨gt, 0, none⟩) z z) := htkr.cell 0
                  have dt1 : wr.cell? ⟨tk, 1, none⟩ = some (.int .i64 (L : Int)) := htkr.cell 1
                  have hsj : ∃ u : Nat, wr.cell? ⟨gs, j, none⟩ = some (.int .i64 (u : Int)) := ⟨_, by rw [rb.cell, nats_at (by rw [sl.out]; exact hjM)]⟩
                  obtain ⟨uj, huj⟩ := hsj
                  have fj := rb.frozen j
                  by_cases hj2 : j + 2 < M
                  · obtain ⟨t2, ht2⟩ : ∃ x, x = st.getD (j + 2) 0 := ⟨_, rfl⟩
                    have hg2 := sg.out (j + 2) (by omega) hj2
                    have ht2z : t2 < z := by rw [ht2]; exact hg2.lt
                    have e2 : wr.cell? ⟨gs, j + 2, none⟩ = some (.int .i64 (t2 : Int)) := by rw [rb.cell, nats_at (by rw [sl.out]; exact hj2), ht2]
                    have hbl := fun w' hg => Hb1.out wj t2 w' gt hg hps.1 ht2z
                    have Hbl := Lib.hid hbl
                    have Hgtr := Lib.hid hgtr
                    have Hrb := Lib.hid rb
                    have Hwd := Lib.hid hwd
                    have Ht2 := Lib.hid ht2
                    have Hji := Lib.hid (show (j : Int) - 1 = ((j : Nat) : Int) - 1 from rfl)
                    clear hbl hps hgtr htkr rb hwk hwd ht2 hg2
                    go_wp2
                    go_region_law (go_simp; go_at_call 99; refine (Hbl.out _ (Hgtr.out.drew)).mono ?_; rintro e wx ⟨a, rfl, ha1, ha2, hkx⟩; have hrbx := (Hrb.out.drew).kept hkx; have ex : wx.cell? ⟨gs, j, none⟩ = some (.int .i64 (uj : Int)) := hkx.cell huj (fun h => h); have fx := hrbx.frozen j)
                    all_goals
                      go_wp2
                      go_roundg (j + 1)
                      case measure => omega
                      case rel =>
                        refine ⟨j, (j : Int) - 1, st.set j a, by omega, by omega, rfl, rfl, by show _ = _; rw [List.length_set]; exact sl.out, fun i h1 h2 => ?_, Blk.cast (hrbx.set j _) (nats_set _ _ _), (((rk.drew).kept hkx).set (p := ⟨gs, j, none⟩) (.inl rfl) _)⟩
                        by_cases hij : i = j
                        · subst hij
                          have hgd : (st.set i a).getD i 0 = a := by rw [getD_set, if_pos ⟨rfl, by rw [sl.out]; exact hjM⟩]
                          have hgd2 : (st.set i a).getD (i + 2) 0 = t2 := by rw [getD_set, if_neg (by omega), Ht2.out]
                          refine ⟨by rw [hgd]; exact ha1, by rw [hgd, Hwd.out]; exact ha2.1, fun _ => by rw [hgd, hgd2]; exact ha2.2, fun h => by rw [← HM.out] at h; omega⟩
                        · exact (sg.out i (by omega) h2).keep (by omega)
                  · have hbl := fun w' hg => Hb2.out wj w' gt hg hps.1 (by rw [HN.out]; exact hps.2)
                    have Hbl := Lib.hid hbl
                    have Hgtr := Lib.hid hgtr
                    have Hrb := Lib.hid rb
                    have Hwd := Lib.hid hwd
                    clear hbl hps hgtr htkr rb hwk hwd
                    go_wp2
                    go_region_law (go_simp; go_at_call 99; refine (Hbl.out _ (Hgtr.out.drew)).mono ?_; rintro e wx ⟨a, rfl, ha1, ha2, ha3, hkx⟩; have hrbx := (Hrb.out.drew).kept hkx; have ex : wx.cell? ⟨gs, j, none⟩ = some (.int .i64 (uj : Int)) := hkx.cell huj (fun h => h); have fx := hrbx.frozen j)
                    all_goals
                      go_wp2
                      go_roundg (j + 1)
                      case measure => omega
                      case rel =>
                        refine ⟨j, (j : Int) - 1, st.set j a, by omega, by omega, rfl, rfl, by show _ = _; rw [List.length_set]; exact sl.out, fun i h1 h2 => ?_, Blk.cast (hrbx.set j _) (nats_set _ _ _), (((rk.drew).kept hkx).set (p := ⟨gs, j, none⟩) (.inl rfl) _)⟩
                        by_cases hij : i = j
                        · subst hij
                          have hgd : (st.set i a).getD i 0 = a := by rw [getD_set, if_pos ⟨rfl, by rw [sl.out]; exact hjM⟩]
                          refine ⟨by rw [hgd]; exact ha1, by rw [hgd, Hwd.out]; exact ha2, fun h => by rw [← HM.out] at h; omega, fun _ => by rw [hgd]; exact ha3⟩
                        · exact (sg.out i (by omega) h2).keep (by omega)
                · obtain rfl : lo = 0 := by omega
                  have hx0 : ¬ (0 : Int) ≤ x := by omega
                  have hgood := good_tells (N := z) (st := st) (by rw [sl.out]; exact HM.out) (by rw [← HM.out]; omega) (fun j hj => sg.out j (Nat.zero_le _) (by rw [HM.out]; exact hj))
                  have hst : ∀ j, j < M → wr.cell? ⟨gs, j, none⟩ = some (.int .i64 ((st.getD j 0 : Nat) : Int)) := fun j hj => by rw [rb.cell, nats_at (by rw [sl.out]; exact hj)]
                  have hkwr : Kept w2 wr := hk24.then rk (fun j hj h => by omega)
                  obtain ⟨base, hbase⟩ : ∃ x, x = wr.heap.size := ⟨_, rfl⟩
                  have hgsb : gs < base := by rw [hbase]; exact rb.lt
                  obtain ⟨W5, hW5⟩ : ∃ x, x = wr.alloc (.cells #[.slice none 0 0] 218) := ⟨_, rfl⟩
                  have hB0 : BB W5 base base 0 [] := ⟨none, 0, by rw [hW5, hbase]; exact Blk.new wr 218 _, rfl, World.ownsRow_nil _ _ _ _⟩
                  have hkW5 : Kept wr W5 := by rw [hW5]; exact (Keep.refl _ _).alloc _
                  have hkw25 := hkwr.trans hkW5
                  obtain ⟨s0, hs0⟩ : ∃ x, x = st.getD 0 0 := ⟨_, rfl⟩
                  obtain ⟨s1, hs1⟩ : ∃ x, x = st.getD 1 0 := ⟨_, rfl⟩
                  have es0 := hkW5.cell (hst 0 (by omega)) (fun h => h)
                  have es1 := hkW5.cell (hst 1 (by omega)) (fun h => h)
                  rw [← hs0] at es0
                  rw [← hs1] at es1
                  have hsz : ∀ j, j < M → st.getD j 0 < z := fun j hj => (sg.out j (Nat.zero_le _) hj).lt
                  have hs0z : s0 < z := by rw [hs0]; exact hsz 0 (by omega)
                  have hs1z : s1 < z := by rw [hs1]; exact hsz 1 (by omega)
                  have hst5 : ∀ w', Keep (base ≤ ·) W5 w' → ∀ j, j < M → w'.cell? ⟨gs, j, none⟩ = some (.int .i64 ((st.getD j 0 : Nat) : Int)) := fun w' hk j hj => hk.cell (hkW5.cell (hst j hj) (fun h => h)) (fun h => by simp only at h; omega)
                  have htk5 : ∀ w', Keep (base ≤ ·) W5 w' → w'.cell? ⟨tk, 0, none⟩ = some (.slice (some ⟨gt, 0, none⟩) z z) ∧ Blk w' gt 177 (flat cel3 tb) := fun w' hk =>
                    ⟨(((ht4.keep rk (by omega)).kept hkW5).keep hk (by omega)).cell 0, ((hgt4.keep rk (by omega)).kept hkW5).keep hk (by omega)⟩
                  have hadd0 := bbAdd_any base base s0 L 0 [] W5 hB0 (Nat.le_refl _) (by omega) (by omega) (by omega)
                  have Hadd0 := Lib.hid hadd0
                  have Hgood := Lib.hid hgood
                  have Hst5 := Lib.hid hst5
                  have Htk5 := Lib.hid htk5
                  have Hs0 := Lib.hid hs0
                  have Hs1 := Lib.hid hs1
                  have Hsz := Lib.hid hsz
                  have Hbase := Lib.hid hbase
                  have Hkw25 := Lib.hid hkw25
                  clear hadd0 hgood hst hst5 htk5 hs0 hs1 hsz hB0 sg rb rk r1 r2 hx hlo hgt4 ht4 hSr Hb1 Hb2 Htab HLt
                  go_upto_region 23 with (fail)
                  rw [← hbase, ← hW5]
                  clear hbase hW5 hkW5 hkwr hkw25
                  go_wp2_with (first
                    | (go_at_call 100; (with_reducible refine Hadd0.out.mono ?_); rintro e w6 ⟨rfl, hB6, hk6⟩; have es6 := hk6.cell es1 (fun h => by simp only at h; omega); have hadd1 := bbAdd_any base base s1 L _ _ w6 hB6 (Nat.le_refl _) (by omega) (by omega) (by omega); have Hadd1 := Lib.hid hadd1; clear hadd1 hB6)
                    | (go_at_call 100; (with_reducible refine Hadd1.out.mono ?_); rintro e w7 ⟨rfl, hB7, hk7⟩; have hk57 := hk6.trans hk7))
                  have hB7' : BB w7 base base (L + L) (hbAll ((s0, L) :: (s1, L) :: steps tb st 0 0)) := by
                    rw [hbAll_cons, hbAll_cons]
                    simpa [steps, hbAll] using hB7
                  clear hB7 Hadd0 Hadd1 es0 es1 es6
                  go_loopg [15] (M + 1) (fun gg s15 wr2 => ∃ i kk : Nat, M - i < gg ∧ i + 2 ≤ M ∧ s15 = .int .i64 i ∧ kk ≤ 12 + 6 * i ∧ BB wr2 base base kk (hbAll ((s0, L) :: (s1, L) :: steps tb st i 0)) ∧ Keep (base ≤ ·) W5 wr2)
                  case atStart => exact ⟨0, L + L, by omega, by omega, rfl, by omega, hB7', hk57⟩
                  case round =>
                    clear hB7' hk57
                    obtain ⟨i, kk, t1, t2, rfl, t3, tB, tK⟩ := hrel
                    by_cases hi : i + 2 < M
                    · obtain ⟨a, ha⟩ : ∃ a, a = st.getD i 0 := ⟨_, rfl⟩
                      obtain ⟨b, hb⟩ : ∃ b, b = st.getD (i + 2) 0 := ⟨_, rfl⟩
                      have haz : a < z := by rw [ha]; exact Hsz.out i (by omega)
                      have ea := Hst5.out wr tK i (by omega)
                      have eb := Hst5.out wr tK (i + 2) hi
                      rw [← ha] at ea
                      rw [← hb] at eb
                      obtain ⟨dt, hgtb⟩ := Htk5.out wr tK
                      have hrow : tb[a]? = some (symOf tb a, bitsS tb a, baseS tb a) := tab_get (by rw [Htbl.out]; exact haz)
                      obtain ⟨sy, hsy⟩ : ∃ x, x = symOf tb a := ⟨_, rfl⟩
                      obtain ⟨bt, hbt⟩ : ∃ x, x = bitsS tb a := ⟨_, rfl⟩
                      obtain ⟨ba, hba⟩ : ∃ x, x = baseS tb a := ⟨_, rfl⟩
                      rw [← hsy, ← hbt, ← hba] at hrow
                      have c0 : wr.cell? ⟨gt, a * 3, none⟩ = some (.int .i64 (sy : Int)) := hgtb.row cel3_length (j := 0) hrow rfl
                      have c1 : wr.cell? ⟨gt, a * 3 + 1, none⟩ = some (.int .i64 (bt : Int)) := hgtb.row cel3_length (j := 1) hrow rfl
                      have c2 : wr.cell? ⟨gt, a * 3 + 2, none⟩ = some (.int .i64 (ba : Int)) := hgtb.row cel3_length (j := 2) hrow rfl
                      have hnx := Hgood.out.1.next i (by rw [← HM.out]; exact hi)
                      rw [← ha, ← hb, ← hba, ← hbt] at hnx
                      have hbt6 : bt ≤ 6 := by
                        have h1 := tab_next Hish.out (a := a) (x := 0) (by rw [← HN.out]; exact haz) (pow_pos' _)
                        rw [← Htb.out, ← hbt] at h1
                        omega
                      obtain ⟨d, hd⟩ : ∃ d, d = b - ba := ⟨_, rfl⟩
                      have hdi : (b : Int) - (ba : Int) = (d : Int) := by omega
                      have hbz : b < z := by rw [hb]; exact Hsz.out (i + 2) hi
                      have hpush : hbAll ((s0, L) :: (s1, L) :: steps tb st i 0) ++ hiBits d bt = hbAll ((s0, L) :: (s1, L) :: steps tb st (i + 1) 0) := by
                        rw [steps_push, Nat.zero_add, ← ha, ← hb, ← hba, ← hbt, ← hd, hbAll_cons, hbAll_cons, hbAll_cons, hbAll_cons, hbAll_append, hbAll_one]
                        simp only [List.append_assoc]
                      have hadd := fun w' (hB : BB w' base base kk (hbAll ((s0, L) :: (s1, L) :: steps tb st i 0))) => bbAdd_all base base d bt kk _ w' hB (Nat.le_refl _) (by omega) (by omega) (by omega)
                      rw [hpush] at hadd
                      have Hadd := Lib.hid hadd
                      have HtB := Lib.hid tB
                      have hws : ∀ x, wr.heap.size ≤ x → base ≤ x := fun x hx => by obtain ⟨_, _, hbb, _⟩ := tB; have := hbb.lt; omega
                      have Hws := Lib.hid hws
                      have hbw : base < wr.heap.size := by obtain ⟨_, _, hbb, _⟩ := tB; exact hbb.lt
                      have hgtw := hgtb.lt
                      have hgsw : gs < wr.heap.size := by omega
                      have htkw : tk < wr.heap.size := by omega
                      have hiM : i < M := by omega
                      clear ha hb hrow hsy hbt hba hnx hd hpush hadd tB hgtb hws
                      go_wp2
                      go_region
                      obtain ⟨c9, hc9⟩ : ∃ x, x = wr.heap.size := ⟨_, rfl⟩
                      obtain ⟨W8, hW8⟩ : ∃ x, x = (wr.alloc (.cells #[.int .i64 (sy : Int), .int .i64 (bt : Int), .int .i64 (ba : Int)] 177)).drew := ⟨_, rfl⟩
                      have hk8 : Kept wr W8 := by rw [hW8]; exact ((Keep.refl _ _).alloc _).drew
                      have hb8 : Blk W8 c9 177 [.int .i64 (sy : Int), .int .i64 (bt : Int), .int .i64 (ba : Int)] := by rw [hW8, hc9]; exact (Blk.new wr 177 _).drew
                      have q1 : W8.cell? ⟨c9, 1, none⟩ = some (.int .i64 (bt : Int)) := hb8.cell 1
                      have q2 : W8.cell? ⟨c9, 2, none⟩ = some (.int .i64 (ba : Int)) := hb8.cell 2
                      have q3 := hk8.cell eb (fun h => h)
                      have hc9b : c9 ≠ base := by omega
                      have hB8 := Lib.hid (HtB.out.kept hk8)
                      have Hb8 := Lib.hid hb8
                      rw [← hc9, ← hW8]
                      have l1 : IntKind.i64.wrap ((i : Int) + 2) = (i : Int) + 2 := by rw [IntKind.wrap_i64]; omega
                      have l2 : (0 : Int) ≤ (i : Int) + 2 := by omega
                      have l3 : (i : Int) + 2 < (M : Int) := by omega
                      have l4 : ((i : Int) + 2).toNat = i + 2 := by omega
                      have l5 : IntKind.i64.wrap (d : Int) = (d : Int) := by rw [IntKind.wrap_i64]; omega
                      clear hc9 hW8 c0 c1 c2 ea eb dt hb8
                      go_wp2
                      go_region_held3 (fun w' => w'.cell? ⟨gs, i + 2, none⟩ = some (.int .i64 (b : Int)) ∧ w'.cell? ⟨c9, 1, none⟩ = some (.int .i64 (bt : Int)) ∧ w'.cell? ⟨c9, 2, none⟩ = some (.int .i64 (ba : Int))) (first | exact ⟨hk.1.cell q3 (fun h => by simp only at h; omega), (hk.2 _ _ _ Hb8.out hc9b (by decide)).cell 1, (hk.2 _ _ _ Hb8.out hc9b (by decide)).cell 2⟩ | go_keep)
                        (first | (go_at_call 100; (with_reducible refine (Hadd.out _ (hB8.out.kept (Keep.refl _ _).drew)).mono ?_); rintro e w9 ⟨rfl, hB9, hk⟩))
                      go_wp2
                      go_roundg (M - i)
                      case measure => exact t1
                      case rel => exact ⟨i + 1, kk + bt, by omega, by omega, rfl, by omega, hB9, (tK.kept hk8.drew).trans hk.1⟩
                    · have hiM : i + 2 = M := by omega
                      obtain ⟨fs, hfs⟩ : ∃ x, x = (s0, L) :: (s1, L) :: steps tb st i 0 := ⟨_, rfl⟩
                      rw [← hfs] at tB
                      have hfs2 : fs = stateBits L tb st := by
                        rw [hfs, stateBits, ← Hs0.out, ← Hs1.out, show st.length - 2 = i by rw [sl.out]; omega]
                      have hkf : kk = flen fs := by obtain ⟨_, _, _, h, _⟩ := tB; rw [h, hbAll_length]
                      obtain ⟨nB, hnB⟩ : ∃ x, x = (flen (told L ps) + 7) / 8 := ⟨_, rfl⟩
                      obtain ⟨ny, hny⟩ : ∃ x, x = kk / 8 + 1 := ⟨_, rfl⟩
                      have hnBl : nB ≤ 1024 := by
                        have h1 := encs_len _ false (2 ^ L) ps (Nat.lt_succ_self _) (by rw [← HN.out]; omega)
                        have h2 := Hn.out
                        rw [hnB, told, flen_cons]
                        simp only [Bool.false_eq_true, if_false] at h1
                        simp only
                        omega
                      have hnyl : ny ≤ 400 := by omega
                      have hk2w : ∀ w', Keep (base ≤ ·) W5 w' → Kept w2 w' := fun w' hk => Hkw25.out.then hk (fun j hj h => by omega)
                      have hkwr := hk2w wr tK
                      have htold : Calls Tryd.prog 59 #[.slice (some ⟨g, 0, none⟩) n c', .int .i64 L] wr fun e w' => ∃ g zs, List.length zs = nB ∧ e = .returned (.slice (some ⟨g, 0, none⟩) nB nB) ∧ wr.heap.size ≤ g ∧ Blk w' g 5 (u8s zs) ∧ Bytes zs ∧ num zs = fnum (told L ps) ∧ Kept wr w' := by
                        have := Htold.out wr hkwr
                        unfold ToldPost at this
                        rw [← hnB] at this
                        exact this
                      have hbyt : ∀ w', Kept wr w' → Calls Tryd.prog 101 #[.pointer (some ⟨base, 0, none⟩)] w' fun e w'' => ∃ g zs, List.length zs = ny ∧ e = .returned (.slice (some ⟨g, 0, none⟩) ny ny) ∧ w'.heap.size ≤ g ∧ Blk w'' g 5 (u8s zs) ∧ Bytes zs ∧ num zs = marked (hbAll fs) ∧ Kept w' w'' := fun w' hk => by
                        have := bbBytes_any base base kk _ w' (tB.kept hk) (by omega)
                        unfold BbPost at this
                        rw [hbAll_length, ← hkf, ← hny] at this
                        exact this
                      have Hfs2 := Lib.hid hfs2
                      have Hkf := Lib.hid hkf
                      have HnB := Lib.hid hnB
                      have Hny := Lib.hid hny
                      have Htold2 := Lib.hid htold
                      have Hbyt := Lib.hid hbyt
                      have hws2 := hkwr.size
                      clear hfs hfs2 hkf hnB hny htold hbyt hk2w tB tK Hst5 Htk5 Htold
                      by_cases hT : nB + ny ≤ 127
                      · go_wp2_with (first
                          | (go_at_call 59; (with_reducible refine Htold2.out.mono ?_); rintro e w8 ⟨g8, zs, hzl, rfl, hg8, hb8, hz8, hn8, hk8⟩; have Hzl := Lib.hid hzl; have Hz8 := Lib.hid hz8; have Hn8 := Lib.hid hn8; clear hzl hz8 hn8)
                          | (go_at_call 101; (with_reducible refine (Hbyt.out _ hk8).mono ?_); rintro e w9 ⟨g9, ys, hyl, rfl, hg9, hb9, hy9, hn9, hk9⟩; have Hyl := Lib.hid hyl; have Hy9 := Lib.hid hy9; have Hn9 := Lib.hid hn9; clear hyl hy9 hn9; have hk29 := (hkwr.trans hk8).trans hk9; have hown8 := own_of_blk (base := w2.heap.size) (n := nB) (hb8.kept hk9) (by omega) (by rw [u8s_length, Hzl.out]) (by unfold maxLen; omega))
                          | (at_builtin; refine wpList_append rfl _ _ rfl elByte hk29 (some ⟨g8, 0, none⟩) nB nB (u8s zs) rfl hown8 ny (u8s ys) _ rfl (src_blk Tryd.underlying22 hb9 ny ny (by rw [u8s_length, Hyl.out, Nat.mul_one]) (u8s_one ys)) (by omega) ?_; intro A4 c4 w10 ho10 hk10 hg10)
                          | (at_builtin; refine wpList_append rfl _ _ rfl elByte (hk10.alloc _) (some ⟨w10.heap.size, 0, none⟩) 1 1 [.int .u8 ((nB : Int) + (ny : Int))] rfl (own_of_blk (Blk.new w10 5 [.int .u8 ((nB : Int) + (ny : Int))]) hk10.size rfl (by unfold maxLen; omega)) (nB + ny) (u8s zs ++ u8s ys) _ rfl (src_sl Tryd.underlying22 ((Sl.of_own ho10).kept ((Keep.refl _ _).alloc _)) (nB + ny) c4 (by rw [List.length_append, u8s_length, u8s_length, Hzl.out, Hyl.out, Nat.mul_one]) (fun u hu => (List.mem_append.1 hu).elim (u8s_one zs u) (u8s_one ys u))) (by omega) ?_; intro A5 c5 w11 ho11 hk11 hg11))
                        have hzy := wtsOf_told (L := L) (ps := ps) (ws := ws) (st := st) (zs := zs) (ys := ys) h5 h6 Hsf.out.rest (by rw [← Hn.out]; omega) Hz8.out Hy9.out (by rw [Hzl.out]; exact HnB.out) Hn8.out (by rw [← Htb.out]; exact Hgood.out.1) (by rw [← HM.out]; exact hl) (by rw [← HN.out]; exact Hgood.out.2) (by rw [← Htb.out, ← Hfs2.out, ← Hkf.out, Hyl.out]; exact Hny.out) (by rw [← Htb.out, ← Hfs2.out]; exact Hn9.out)
                        have hbz : Bytes (zs ++ ys) := fun x hx => (List.mem_append.1 hx).elim (Hz8.out x) (Hy9.out x)
                        have hzl2 : (zs ++ ys).length = nB + ny := by rw [List.length_append, Hzl.out, Hyl.out]
                        have hft := fse_told hbz (by rw [hzl2]; exact hT) hzy
                        obtain ⟨g5, rfl, hg5b, hg5l⟩ := own_some ho11 (by omega)
                        have Hft := Lib.hid hft
                        have Hzl2 := Lib.hid hzl2
                        have Ho11 := Lib.hid ho11
                        clear hzy hbz hft hzl2 ho11
                        go_ret
                        refine ⟨k2, by omega, tc2.kept hk11, hkk.then hk11 (fun _ _ h => h.elim), .inr ⟨g5, 1 + (nB + ny), c5, (zs ++ ys).length :: (zs ++ ys), rfl, by show _ = _; rw [List.length_cons, Hzl2.out, Nat.add_comm], by omega, ?_, Hft.out⟩⟩
                        have := own_mono Ho11.out hkk.size
                        rw [Hzl2.out]
                        simpa [u8s] using this
                      · go_wp2_with (first
                          | (go_at_call 59; (with_reducible refine Htold2.out.mono ?_); rintro e w8 ⟨g8, zs, hzl, rfl, hg8, hb8, hz8, hn8, hk8⟩; have Hzl := Lib.hid hzl; have Hz8 := Lib.hid hz8; have Hn8 := Lib.hid hn8; clear hzl hz8 hn8)
                          | (go_at_call 101; (with_reducible refine (Hbyt.out _ hk8).mono ?_); rintro e w9 ⟨g9, ys, hyl, rfl, hg9, hb9, hy9, hn9, hk9⟩; have Hyl := Lib.hid hyl; have Hy9 := Lib.hid hy9; have Hn9 := Lib.hid hn9; clear hyl hy9 hn9; have hk29 := (hkwr.trans hk8).trans hk9; have hown8 := own_of_blk (base := w2.heap.size) (n := nB) (hb8.kept hk9) (by omega) (by rw [u8s_length, Hzl.out]) (by unfold maxLen; omega))
                          | (at_builtin; refine wpList_append rfl _ _ rfl elByte hk29 (some ⟨g8, 0, none⟩) nB nB (u8s zs) rfl hown8 ny (u8s ys) _ rfl (src_blk Tryd.underlying22 hb9 ny ny (by rw [u8s_length, Hyl.out, Nat.mul_one]) (u8s_one ys)) (by omega) ?_; intro A4 c4 w10 ho10 hk10 hg10))
                        go_ret
                        exact ⟨k2, by omega, tc2.kept hk10, hkk.then hk10 (fun _ _ h => h.elim), .inl rfl⟩
end
end Go.Proofs.YtabaholflahepaaDoor
