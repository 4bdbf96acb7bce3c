/-
  Contract of (spec.writer).stream: a text, told by its symbols' codes. And more of its kind (EncS, EncU).
-/
import Derived.Test.YtabaholflahepaaDoorEncH
import Derived.Test.YtabaholflahepaaDoorEncT
namespace Go.Proofs.YtabaholflahepaaDoor
open Go.RowKit

section
/-- Each symbol's code, and how many bits it has. -/
def toldB (cs l t : List Nat) : List (Nat × Nat) := t.map fun x => (cs.getD x 0, l.getD x 0)
theorem toldB_push {cs l t : List Nat} {i x : Nat} (h : t[i]? = some x) : toldB cs l (t.take (i + 1)) = toldB cs l (t.take i) ++ [(cs.getD x 0, l.getD x 0)] := by
  rw [take_push h, toldB, toldB, List.map_append]
  rfl
theorem flen_toldB (cs l : List Nat) (hl : ∀ x ∈ l, x ≤ 11) : ∀ t : List Nat, flen (toldB cs l t) ≤ 11 * t.length
  | [] => by simp [toldB]
  | x :: t => by
    have h := flen_toldB cs l hl t
    have hx : l.getD x 0 ≤ 11 := by
      rw [List.getD_eq_getElem?_getD]
      rcases h2 : l[x]? with _ | y
      · simp
      · exact hl y (List.mem_of_getElem? h2)
    rw [show toldB cs l (x :: t) = (cs.getD x 0, l.getD x 0) :: toldB cs l t from rfl, flen_cons, List.length_cons]
    simp only
    omega

set_option maxHeartbeats 4000000 in
set_option maxRecDepth 4000 in
theorem stream_any {R R2 R3 : Nat → Prop} (wb : Nat) (A A2 A3 : Option Addr) (c c2 c3 : Nat) (t cs l : List Nat) (w : World) (hs : Sl w R A (u8s t)) (hR : ∀ k, R k → k < w.heap.size) (hs2 : Sl w R2 A2 (nats cs)) (hR2 : ∀ k, R2 k → k < w.heap.size) (hs3 : Sl w R3 A3 (nats l)) (hR3 : ∀ k, R3 k → k < w.heap.size)
    (hw4 : w.cell? ⟨wb, 4, none⟩ = some (.slice A3 l.length c3)) (hwb : wb < w.heap.size) (hl : ∀ x ∈ l, x ≤ 11) (hcs : ∀ x ∈ cs, x < 1099511627776) (ht : ∀ x ∈ t, x < l.length ∧ x < cs.length) (hlen : t.length ≤ 1048576) :
    Calls Tryd.prog 109 #[.pointer (some ⟨wb, 0, none⟩), .slice A t.length c, .slice A2 cs.length c2] w (BbPost w (hbAll (toldB cs l t))) := by
  obtain ⟨N, hN⟩ : ∃ N, N = t.length := ⟨_, rfl⟩
  obtain ⟨NL, hNL⟩ : ∃ N, N = l.length := ⟨_, rfl⟩
  obtain ⟨NC, hNC⟩ : ∃ N, N = cs.length := ⟨_, rfl⟩
  have Hs := Lib.hid hs
  have Hs2 := Lib.hid hs2
  have Hs3 := Lib.hid hs3
  have HR := Lib.hid hR
  have HR2 := Lib.hid hR2
  have HR3 := Lib.hid hR3
  have Hl := Lib.hid hl
  have Hcs := Lib.hid hcs
  have Ht := Lib.hid ht
  rw [← hNL] at hw4
  rw [← hN] at hlen
  rw [← hN, ← hNC]
  have HN := Lib.hid hN
  have HNL := Lib.hid hNL
  have HNC := Lib.hid hNC
  obtain ⟨b, hb⟩ : ∃ b, b = w.heap.size := ⟨_, rfl⟩
  have hb0 : BB (w.alloc (.cells #[.slice none 0 0] 218)) b b 0 (hbAll (toldB cs l (t.take 0))) := ⟨none, 0, by rw [hb]; exact Blk.new w 218 _, rfl, World.ownsRow_nil _ _ _ _⟩
  have Hb := Lib.hid hb
  have hbw : wb < b := by omega
  clear hs hs2 hs3 hR hR2 hR3 hl hcs ht hN hNL hNC hb
  go_enter Tryd.func109, Tryd.ntmps109
  go_wp2
  rw [← Hb.out]
  obtain ⟨W1, hW1⟩ : ∃ x, x = w.alloc (.cells #[.slice none 0 0] 218) := ⟨_, rfl⟩
  rw [← hW1] at hb0 ⊢
  have hk1 : Kept w W1 := by rw [hW1]; exact (Keep.refl _ _).alloc _
  clear hW1
  go_loopg [14] (N + 1) (fun f s14 wr => ∃ i k : Nat, N - i < f ∧ i ≤ N ∧ s14 = .int .i64 i ∧ k ≤ 11 * i ∧ BB wr b b k (hbAll (toldB cs l (t.take i))) ∧ Keep (b ≤ ·) w wr)
  case atStart => exact ⟨0, 0, by omega, by omega, rfl, by omega, hb0, Kept.any hk1 _⟩
  case round =>
    obtain ⟨i, k, q1, q2, rfl, q3, qB, qk⟩ := hrel
    by_cases hlt : i < N
    · have hout : ∀ j, j < w.heap.size → ¬ b ≤ j := fun j hj h => by have := Hb.out; omega
      obtain ⟨g1, o1, x, hg1, rfl, hcx, hxk⟩ := (Hs.out.keep qk (fun j hj _ => hout j hj)).u8 (k := i) (by rw [← HN.out]; exact hlt)
      have hx := Ht.out x (List.mem_of_getElem? hxk.out)
      obtain ⟨g2, o2, v, hg2, rfl, hcv, hvk⟩ := (Hs2.out.keep qk (fun j hj _ => hout j hj)).nat (k := x) hx.2
      obtain ⟨g3, o3, nb, hg3, rfl, hcn, hnk⟩ := (Hs3.out.keep qk (fun j hj _ => hout j hj)).nat (k := x) hx.1
      have hc4 := qk.cell hw4 (fun h => by simp only at h; omega)
      have hv := Hcs.out v (List.mem_of_getElem? hvk.out)
      have hn := Hl.out nb (List.mem_of_getElem? hnk.out)
      have hx1 : x < NL := by rw [HNL.out]; exact hx.1
      have hx2 : x < NC := by rw [HNC.out]; exact hx.2
      have hpush : hbAll (toldB cs l (t.take i)) ++ hiBits v nb = hbAll (toldB cs l (t.take (i + 1))) := by
        rw [toldB_push hxk.out, hbAll_append, hbAll_one, List.getD_eq_getElem?_getD, List.getD_eq_getElem?_getD, hvk.out, hnk.out]
        rfl
      have hadd := fun w' (hB : BB w' b b k (hbAll (toldB cs l (t.take i)))) => bbAdd_all b b v nb k _ w' hB (Nat.le_refl _) (by omega) hv (by omega)
      rw [hpush] at hadd
      have Hadd := Lib.hid hadd
      have HB := Lib.hid qB
      clear hpush hadd qB hx hvk hnk hxk hout
      go_wp2
      go_region_held3 (fun w' => w'.cell? ⟨g2, o2 + x, none⟩ = some (.int .i64 (v : Int)) ∧ w'.cell? ⟨g3, o3 + x, none⟩ = some (.int .i64 (nb : Int)) ∧ w'.cell? ⟨wb, 4, none⟩ = some (.slice (some ⟨g3, o3, none⟩) NL c3)) (first | exact ⟨hk.1.cell hcv (fun h => by have := HR2.out _ hg2; have := Hb.out; simp only at h; omega), hk.1.cell hcn (fun h => by have := HR3.out _ hg3; have := Hb.out; simp only at h; omega), hk.1.cell hc4 (fun h => by simp only at h; omega)⟩ | go_keep)
        (first | (go_at_call 100; (with_reducible refine (Hadd.out _ (HB.out.kept (Keep.refl _ _).drew)).mono ?_); rintro e w9 ⟨rfl, hB9, hk⟩))
      go_wp2
      go_roundg (N - i)
      case measure => exact q1
      case rel => exact ⟨i + 1, k + nb, by omega, by omega, rfl, by omega, hB9, (qk.kept (Keep.refl _ _).drew).trans hk.1⟩
    · obtain rfl : i = N := by omega
      rw [List.take_of_length_le (by rw [← HN.out]; exact Nat.le_refl _)] at qB
      have hby := bbBytes_any b b k _ wr qB (by omega)
      have Hby := Lib.hid hby
      clear hby qB
      go_wp2_with (go_at_call 101; (with_reducible refine Hby.out.mono ?_); rintro e w9 ⟨gz, zs, hz1, rfl, hz2, hz3, hz4, hz5, hz6⟩)
      go_ret
      exact ⟨gz, zs, hz1, rfl, by have := qk.size; omega, hz3, hz4, hz5, (qk.kept hz6).mono (fun j hj h => by have := Hb.out; omega)⟩
end

section
/-- A stream that is told: bytes. -/
def Stream (l : List Nat) (m : Nat) (t zs : List Nat) : Prop :=
  zs.length = (hbAll (toldB (codesAll (wtsBy m l) m) l t)).length / 8 + 1 ∧ Bytes zs ∧ num zs = marked (hbAll (toldB (codesAll (wtsBy m l) m) l t))

section
variable {l : List Nat} {m : Nat} (hL : Lens l m)
include hL
theorem toldB_codes {t : List Nat} (ht : ∀ x ∈ t, 0 < l.getD x 0) : toldB (codesAll (wtsBy m l) m) l t = codes (wtsBy m l) m t ∧ ∀ x ∈ t, 0 < (wtsBy m l).getD x 0 := by
  have h1 : ∀ x ∈ t, x < l.length ∧ 0 < (wtsBy m l).getD x 0 ∧ m + 1 - (wtsBy m l).getD x 0 = l.getD x 0 := fun x hx => by
    have h2 := ht x hx
    have hxl : x < l.length := by
      refine Classical.byContradiction fun h => ?_
      rw [List.getD_eq_getElem?_getD, List.getElem?_eq_none (by omega)] at h2
      simp at h2
    have hle := hL.le (l.getD x 0) (by rw [List.getD_eq_getElem?_getD, List.getElem?_eq_getElem hxl]; exact List.getElem_mem _)
    rw [wtsBy_get, if_pos hxl, wtOf, if_neg (by omega)]
    omega
  refine ⟨?_, fun x hx => (h1 x hx).2.1⟩
  refine List.map_congr_left fun x hx => ?_
  obtain ⟨h2, h3, h4⟩ := h1 x hx
  rw [h4]
  congr 1
  rw [codesAll, List.getD_eq_getElem?_getD, List.getElem?_map, List.getElem?_range (by rw [wtsBy_length]; exact h2)]
  simp only [Option.map_some, Option.getD_some]
  rw [if_pos h3]
theorem Stream.dec {t zs : List Nat} (h : Stream l m t zs) (ht : ∀ x ∈ t, 0 < l.getD x 0) : decV zs m (rowsTo (wtsBy m l) m m) t.length = (1, t) := by
  obtain ⟨h1, h2⟩ := toldB_codes hL ht
  obtain ⟨h3, h4, h5⟩ := h
  rw [h1] at h3 h5
  refine decV_told (fun w hw => wtsBy_le w hw) hL.full h4 h2 ?_ h5
  rw [h3, hbAll_length]
theorem strV_one {t zs : List Nat} (h : Stream l m t zs) (ht : ∀ x ∈ t, 0 < l.getD x 0) : strV zs m (rowsTo (wtsBy m l) m m) t.length false = (1, t) := by
  rw [strV, if_pos rfl, h.dec hL ht]
theorem fourV_push {sz : Option Nat} {n : Nat} {r : List (Option Nat × Nat)} {t zs d out : List Nat} (h : Stream l m t zs) (ht : ∀ x ∈ t, 0 < l.getD x 0) (hn : n = t.length) (hn0 : n ≠ 0) (hsz : sz.getD (zs ++ d).length = zs.length) :
    fourV m (rowsTo (wtsBy m l) m m) ((sz, n) :: r) (zs ++ d) out = fourV m (rowsTo (wtsBy m l) m m) r d (out ++ t) := by
  subst hn
  rw [fourV, hsz, if_neg (by rw [List.length_append]; omega), if_neg hn0, List.take_left, List.drop_left, h.dec hL ht]
  simp
theorem strV_four {t t1 t2 t3 t4 s1 s2 s3 s4 : List Nat} {n e : Nat} (hn : n = t.length) (he : e = (n + 3) / 4) (h6 : 6 ≤ n) (htt : t = t1 ++ (t2 ++ (t3 ++ t4))) (h1 : t1.length = e) (h2 : t2.length = e) (h3 : t3.length = e) (h4 : t4.length ≠ 0)
    (q1 : Stream l m t1 s1) (q2 : Stream l m t2 s2) (q3 : Stream l m t3 s3) (q4 : Stream l m t4 s4) (ht : ∀ x ∈ t, 0 < l.getD x 0) (z1 : s1.length < 65536) (z2 : s2.length < 65536) (z3 : s3.length < 65536) :
    strV (lowB s1.length 2 ++ (lowB s2.length 2 ++ (lowB s3.length 2 ++ (s1 ++ (s2 ++ (s3 ++ s4)))))) m (rowsTo (wtsBy m l) m m) n true = (1, t) := by
  have e2 : (256 : Nat) ^ 2 = 65536 := by decide
  have d4 : ∀ r : List Nat, (lowB s1.length 2 ++ (lowB s2.length 2 ++ r)).drop 4 = r := fun r => by
    have h := lowB_drop (v := s1.length) (hb := 2) (r := lowB s2.length 2 ++ r)
    have h' := lowB_drop (v := s2.length) (hb := 2) (r := r)
    rw [show (4 : Nat) = 2 + 2 from rfl, ← List.drop_drop, h, h']
  have d6 : ∀ r : List Nat, (lowB s1.length 2 ++ (lowB s2.length 2 ++ (lowB s3.length 2 ++ r))).drop 6 = r := fun r => by
    rw [show (6 : Nat) = 4 + 2 from rfl, ← List.drop_drop, d4, lowB_drop]
  have hlen : ∀ r : List Nat, ¬ (lowB s1.length 2 ++ (lowB s2.length 2 ++ (lowB s3.length 2 ++ r))).length < 6 := fun r => by
    rw [lowB_len, lowB_len, lowB_len]; omega
  have hmem1 : ∀ x ∈ t1, x ∈ t := fun x hx => by rw [htt]; exact List.mem_append_left _ hx
  have hmem2 : ∀ x ∈ t2, x ∈ t := fun x hx => by rw [htt]; exact List.mem_append_right _ (List.mem_append_left _ hx)
  have hmem3 : ∀ x ∈ t3, x ∈ t := fun x hx => by rw [htt]; exact List.mem_append_right _ (List.mem_append_right _ (List.mem_append_left _ hx))
  have hmem4 : ∀ x ∈ t4, x ∈ t := fun x hx => by rw [htt]; exact List.mem_append_right _ (List.mem_append_right _ (List.mem_append_right _ hx))
  have hl4 : n - 3 * e = t4.length := by rw [hn, htt, List.length_append, List.length_append, List.length_append, h1, h2, h3]; omega
  rw [strV, if_neg (by decide), if_neg (by omega), if_neg (hlen _), lowB_take, lowB_num (by omega), lowB_drop, lowB_take, lowB_num (by omega), d4, lowB_take, lowB_num (by omega), d6, ← he, hl4,
    fourV_push hL q1 (fun x hx => ht x (hmem1 x hx)) h1.symm (by omega) rfl, fourV_push hL q2 (fun x hx => ht x (hmem2 x hx)) h2.symm (by omega) rfl, fourV_push hL q3 (fun x hx => ht x (hmem3 x hx)) h3.symm (by omega) rfl]
  have hl := fourV_push hL (sz := none) (r := []) (d := []) (out := [] ++ t1 ++ t2 ++ t3) q4 (fun x hx => ht x (hmem4 x hx)) rfl h4 (by rw [List.append_nil]; rfl)
  rw [List.append_nil] at hl
  rw [hl, fourV, htt]
  simp
end
end
end Go.Proofs.YtabaholflahepaaDoor
