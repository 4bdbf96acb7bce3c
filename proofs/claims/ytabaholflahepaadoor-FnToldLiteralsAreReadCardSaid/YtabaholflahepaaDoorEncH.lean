/-
  Plain law: the codes of symbols by how many bits they have; a text that is told by them is decoded as this text. And more of its kind (EncC, EncD, EncE, EncG, LitT).
-/
import Derived.Test.YtabaholflahepaaDoorEncPlain
import Derived.Test.YtabaholflahepaaDoorLitA
import Derived.Test.YtabaholflahepaaDoorToldA
namespace Go.Proofs.YtabaholflahepaaDoor
open Go.RowKit

section
/-- Where a symbol's rows begin. -/
def rowOf (al : List Nat) (m s : Nat) : Nat := (rowsTo al m (al.getD s 0 - 1)).length + (idxs (al.getD s 0) 0 (al.take s)).length * wc (al.getD s 0)
def codeOf (al : List Nat) (m s : Nat) : Nat := rowOf al m s / wc (al.getD s 0)
section
variable {al : List Nat} {m : Nat} (hal : ∀ w ∈ al, w ≤ m) (hs : wsum al = 2 ^ m)
include hal hs

theorem code_facts {s : Nat} (hv : 0 < al.getD s 0) : al.getD s 0 ≤ m ∧ rowOf al m s = codeOf al m s * wc (al.getD s 0) ∧ rowOf al m s + wc (al.getD s 0) ≤ 2 ^ m ∧ ∀ k, rowOf al m s ≤ k → k < rowOf al m s + wc (al.getD s 0) → (rowsTo al m m)[k]? = some (s, m + 1 - al.getD s 0) := by
  obtain ⟨v, hve⟩ : ∃ v, v = al.getD s 0 := ⟨_, rfl⟩
  have hsl : s < al.length := by
    refine Classical.byContradiction fun h => ?_
    rw [List.getD_eq_getElem?_getD, List.getElem?_eq_none (by omega)] at hv
    simp at hv
  have hg : al[s]? = some v := by rw [hve, List.getD_eq_getElem?_getD, List.getElem?_eq_getElem hsl]; rfl
  have hvm := hal v (List.mem_of_getElem? hg)
  rw [← hve] at hv
  obtain ⟨a, b, e, hl, _, _⟩ := rows_split hg hv hvm
  have hro : rowOf al m s = a.length := by rw [hl, rowOf, ← hve]
  have hdv : wc v ∣ a.length := by
    rw [hl]
    obtain ⟨u, rfl⟩ : ∃ u, v = u + 1 := ⟨v - 1, by omega⟩
    rw [Nat.add_sub_cancel, wc_succ]
    exact Nat.dvd_add (rowsTo_dvd hs (by omega)) (Nat.dvd_mul_left _ _)
  have hlen := rows_length hal
  rw [e, hs, List.length_append, List.length_append, List.length_replicate] at hlen
  rw [codeOf, ← hve, hro]
  refine ⟨hvm, (Nat.div_mul_cancel hdv).symm, by omega, fun k h1 h2 => ?_⟩
  rw [e, List.getElem?_append_right h1, List.getElem?_append_left (by rw [List.length_replicate]; omega), List.getElem?_replicate, if_pos (by omega)]
theorem code_row {s k : Nat} (hv : 0 < al.getD s 0) (hk : k / wc (al.getD s 0) = codeOf al m s) : (rowsTo al m m)[k]? = some (s, m + 1 - al.getD s 0) := by
  obtain ⟨_, h2, _, h4⟩ := code_facts hal hs hv
  have h5 := Nat.div_add_mod k (wc (al.getD s 0))
  have h6 := Nat.mod_lt k (wc_pos hv)
  rw [hk, Nat.mul_comm] at h5
  exact h4 k (by omega) (by omega)
theorem code_lt {s : Nat} (hv : 0 < al.getD s 0) : codeOf al m s < 2 ^ (m + 1 - al.getD s 0) := by
  obtain ⟨h1, h2, h3, _⟩ := code_facts hal hs hv
  have h4 := wc_pos hv
  obtain ⟨u, hu⟩ : ∃ u, al.getD s 0 = u + 1 := ⟨al.getD s 0 - 1, by omega⟩
  rw [hu, wc_succ] at h2 h3 h4
  rw [hu]
  have e : 2 ^ (m + 1 - (u + 1)) * 2 ^ u = 2 ^ m := by rw [← Nat.pow_add]; congr 1; omega
  refine Nat.lt_of_mul_lt_mul_right (a := 2 ^ u) ?_
  rw [e]; omega

/-- A text's codes. -/
def codes (al : List Nat) (m : Nat) (t : List Nat) : List (Nat × Nat) := t.map fun x => (codeOf al m x, m + 1 - al.getD x 0)

theorem dec_told {N : Nat} : ∀ (t out : List Nat) (pre : List Bool), (∀ x ∈ t, 0 < al.getD x 0) → N = marked (pre ++ hbAll (codes al m t)) → decS N m (rowsTo al m m) t.length ((flen (codes al m t) : Nat) : Int) out = (out ++ t, 0)
  | [], out, pre, _, _ => by simp [decS, codes]
  | x :: t, out, pre, ht, hN => by
    have hv := ht x (List.mem_cons_self ..)
    obtain ⟨h1, h2, h3, h4⟩ := code_facts hal hs hv
    obtain ⟨u, hu⟩ : ∃ u, al.getD x 0 = u + 1 := ⟨al.getD x 0 - 1, by omega⟩
    have hcl := code_lt hal hs hv
    have ec : codes al m (x :: t) = (codeOf al m x, m + 1 - al.getD x 0) :: codes al m t := rfl
    rw [ec, hbAll_cons] at hN
    rw [ec, flen_cons, List.length_cons]
    simp only at hN ⊢
    rw [hu] at hcl hN ⊢
    obtain ⟨n, hn⟩ : ∃ n, n = m + 1 - (u + 1) := ⟨_, rfl⟩
    rw [← hn] at hcl hN ⊢
    have hbv : backVal N ((n + flen (codes al m t) : Nat) : Int) m / 2 ^ u = codeOf al m x := by
      have e1 := backVal_top N ((n + flen (codes al m t) : Nat) : Int) n u
      rw [show n + u = m by omega] at e1
      rw [e1, backVal_in N _ n (by omega), Nat.add_sub_cancel_left, hN, ← hbAll_length]
      exact marked_read _ _ hcl
    have hrow := code_row hal hs (k := backVal N ((n + flen (codes al m t) : Nat) : Int) m) hv (by rw [hu, wc_succ]; exact hbv)
    rw [decS, List.getD_eq_getElem?_getD, hrow, Option.getD_some]
    simp only
    rw [hu, ← hn, show ((n + flen (codes al m t) : Nat) : Int) - ((n : Nat) : Int) = ((flen (codes al m t) : Nat) : Int) by omega]
    have := dec_told (N := N) t (out ++ [x]) (pre ++ hiBits (codeOf al m x) n) (fun y hy => ht y (List.mem_cons_of_mem _ hy)) (by rw [hN, List.append_assoc])
    rw [this, List.append_assoc]; rfl

/-- A stream of a text is decoded as this text. -/
theorem decV_told {t zs : List Nat} (hz : Bytes zs) (ht : ∀ x ∈ t, 0 < al.getD x 0) (hl : zs.length = flen (codes al m t) / 8 + 1) (hn : num zs = marked (hbAll (codes al m t))) : decV zs m (rowsTo al m m) t.length = (1, t) := by
  have hbl : (hbAll (codes al m t)).length = flen (codes al m t) := hbAll_length _
  obtain ⟨x, hmk, hpos⟩ := marked_mark hz (by rw [hbl]; exact hl) hn
  rw [decV_mark hmk, hpos, hbl]
  have := dec_told hal hs (N := num zs) t [] [] ht (by rw [hn]; rfl)
  rw [this]
  simp
end
end

section
/-- The codes of the symbols whose weights are below v, and of those of weight v ahead of symbol k. -/
def codesTo (al : List Nat) (m v k : Nat) : List Nat := (List.range al.length).map fun s => if 0 < al.getD s 0 ∧ (al.getD s 0 < v ∨ (al.getD s 0 = v ∧ s < k)) then codeOf al m s else 0
/-- Each symbol's code. -/
def codesAll (al : List Nat) (m : Nat) : List Nat := (List.range al.length).map fun s => if 0 < al.getD s 0 then codeOf al m s else 0
theorem codesTo_length (al : List Nat) (m v k : Nat) : (codesTo al m v k).length = al.length := by simp [codesTo]
theorem codesAll_length (al : List Nat) (m : Nat) : (codesAll al m).length = al.length := by simp [codesAll]
theorem codesTo_zero (al : List Nat) (m : Nat) : codesTo al m 1 0 = List.replicate al.length 0 := by
  refine List.eq_replicate_iff.2 ⟨codesTo_length al m 1 0, fun x hx => ?_⟩
  obtain ⟨s, _, rfl⟩ := List.mem_map.1 hx
  rw [if_neg (by omega)]
theorem codesTo_other {al : List Nat} {m v k : Nat} (h : al.getD k 0 ≠ v) : codesTo al m v (k + 1) = codesTo al m v k := by
  refine List.map_congr_left fun s hs => ?_
  by_cases hsk : s = k
  · subst hsk
    have e : (0 < al.getD s 0 ∧ (al.getD s 0 < v ∨ al.getD s 0 = v ∧ s < s + 1)) = (0 < al.getD s 0 ∧ (al.getD s 0 < v ∨ al.getD s 0 = v ∧ s < s)) := by
      apply propext
      omega
    simp only [e]
  · have e : (0 < al.getD s 0 ∧ (al.getD s 0 < v ∨ al.getD s 0 = v ∧ s < k + 1)) = (0 < al.getD s 0 ∧ (al.getD s 0 < v ∨ al.getD s 0 = v ∧ s < k)) := by
      apply propext
      omega
    simp only [e]
theorem codesTo_next (al : List Nat) (m v : Nat) : codesTo al m (v + 1) 0 = codesTo al m v al.length := by
  refine List.map_congr_left fun s hs => ?_
  have hs' := List.mem_range.1 hs
  have e : (0 < al.getD s 0 ∧ (al.getD s 0 < v + 1 ∨ al.getD s 0 = v + 1 ∧ s < 0)) = (0 < al.getD s 0 ∧ (al.getD s 0 < v ∨ al.getD s 0 = v ∧ s < al.length)) := by
    apply propext
    omega
  simp only [e]
theorem codesTo_all {al : List Nat} {m v : Nat} (h : ∀ x ∈ al, x < v) : codesTo al m v 0 = codesAll al m := by
  refine List.map_congr_left fun s hs => ?_
  have hs' := List.mem_range.1 hs
  have hx : al.getD s 0 < v := h _ (by rw [List.getD_eq_getElem?_getD, List.getElem?_eq_getElem hs']; exact List.getElem_mem hs')
  have e : (0 < al.getD s 0 ∧ (al.getD s 0 < v ∨ al.getD s 0 = v ∧ s < 0)) = (0 < al.getD s 0) := by
    apply propext
    omega
  simp only [e]
theorem codesTo_set {al : List Nat} {m v k : Nat} (hk : k < al.length) (hv : 0 < v) (h : al.getD k 0 = v) : (codesTo al m v k).set k (codeOf al m k) = codesTo al m v (k + 1) := by
  refine List.ext_getElem? fun j => ?_
  rw [List.getElem?_set]
  by_cases hj : k = j
  · subst hj
    rw [if_pos rfl, if_pos (by rw [codesTo_length]; exact hk), codesTo, List.getElem?_map, List.getElem?_range hk]
    simp only [Option.map_some]
    rw [if_pos ⟨by omega, .inr ⟨h, by omega⟩⟩]
  · rw [if_neg hj, codesTo, codesTo, List.getElem?_map, List.getElem?_map]
    rcases Nat.lt_or_ge j al.length with hl | hl
    · rw [List.getElem?_range hl]
      simp only [Option.map_some]
      have e : (0 < al.getD j 0 ∧ (al.getD j 0 < v ∨ al.getD j 0 = v ∧ j < k)) = (0 < al.getD j 0 ∧ (al.getD j 0 < v ∨ al.getD j 0 = v ∧ j < k + 1)) := by
        apply propext
        omega
      simp only [e]
    · rw [List.getElem?_eq_none (by simpa using hl)]
      rfl
end

section
theorem wtsBy_get (m : Nat) (l : List Nat) (k : Nat) : (wtsBy m l).getD k 0 = if k < l.length then wtOf m (l.getD k 0) else 0 := by
  rw [wtsBy, List.getD_eq_getElem?_getD, List.getElem?_map]
  split
  · rename_i h
    rw [List.getD_eq_getElem?_getD, List.getElem?_eq_getElem h]
    rfl
  · rename_i h
    rw [List.getElem?_eq_none (by omega)]
    rfl
theorem wtOf_eq {m x b : Nat} (hx : x ≤ m) (hb : 0 < b) (hbm : b ≤ m) : wtOf m x = m + 1 - b ↔ x = b := by
  rw [wtOf]
  split <;> omega
theorem wtsBy_le {m : Nat} {l : List Nat} (w : Nat) (h : w ∈ wtsBy m l) : w ≤ m := by
  obtain ⟨x, _, rfl⟩ := List.mem_map.1 h
  rw [wtOf]
  split <;> omega
theorem rows_room {al : List Nat} {m d k : Nat} (hal : ∀ w ∈ al, w ≤ m) (hs : wsum al = 2 ^ m) (hd : d < m) : (rowsTo al m d).length + (idxs (d + 1) 0 (al.take k)).length * 2 ^ d ≤ 2 ^ m := by
  have h1 := rows_length hal
  obtain ⟨r, h2, _⟩ := rowsTo_prefix (al := al) (most := m) (j := d + 1) (k := m) (by omega)
  rw [h2, List.length_append, rowsTo_succ, List.length_append, rowsW_length, wc_succ, hs] at h1
  have h3 : (idxs (d + 1) 0 (al.take k)).length ≤ (idxs (d + 1) 0 al).length := by
    rw [idxs_count, idxs_count]
    exact (List.take_sublist k al).count_le _
  have h4 := Nat.mul_le_mul_right (2 ^ d) h3
  omega

theorem nats_set (xs : List Nat) (i v : Nat) : (nats xs).set i (.int .i64 (v : Int)) = nats (xs.set i v) := by simp [nats, List.map_set]

set_option maxHeartbeats 4000000 in
set_option maxRecDepth 4000 in
theorem codesOf_any {R : Nat → Prop} (A : Option Addr) (c m : Nat) (l : List Nat) (w : World) (hs : Sl w R A (nats l)) (hL : Lens l m) :
    Calls Tryd.prog 108 #[.slice A l.length c] w fun e w' => ∃ g, e = .returned (.slice (some ⟨g, 0, none⟩) l.length l.length) ∧ w.heap.size ≤ g ∧ Blk w' g 3 (nats (codesAll (wtsBy m l) m)) ∧ Kept w w' := by
  obtain ⟨al, hal⟩ : ∃ x, x = wtsBy m l := ⟨_, rfl⟩
  have hale : ∀ w ∈ al, w ≤ m := fun w h => wtsBy_le w (hal ▸ h)
  have hsum : wsum al = 2 ^ m := by rw [hal]; exact hL.full
  have hall : al.length = l.length := by rw [hal, wtsBy_length]
  obtain ⟨N, hN⟩ : ∃ N, N = l.length := ⟨_, rfl⟩
  have hget : ∀ k, k < N → al.getD k 0 = wtOf m (l.getD k 0) := fun k hk => by rw [hal, wtsBy_get, if_pos (by omega)]
  have hle : ∀ k, k < N → l.getD k 0 ≤ m := fun k hk => hL.le _ (by rw [List.getD_eq_getElem?_getD, List.getElem?_eq_getElem (by omega)]; exact List.getElem_mem _)
  obtain ⟨g, o, hRg, rfl, hcell⟩ := hs.get (by have := hL.pos; simp; omega)
  have hnat : ∀ j, j < N → w.cell? ⟨g, o + j, none⟩ = some (.int .i64 ((l.getD j 0 : Nat) : Int)) := fun j hj => hcell j _ (nats_at (by omega))
  have hm11 := hL.top
  have hm1 := hL.one
  have hN1 : 1 ≤ N := by rw [hN]; exact hL.pos
  have hN256 : N ≤ 256 := by rw [hN]; exact hL.size
  have hroom : ∀ d k, d < m → (rowsTo al m d).length + (idxs (d + 1) 0 (al.take k)).length * 2 ^ d ≤ 2048 := fun d k hd => Nat.le_trans (rows_room hale hsum hd) (Nat.pow_le_pow_right (by decide) hm11)
  have HL := Lib.hid hL
  have Hal := Lib.hid hal
  have Hale := Lib.hid hale
  have Hget := Lib.hid hget
  have Hle := Lib.hid hle
  have Hnat := Lib.hid hnat
  have Hroom := Lib.hid hroom
  have Hall := Lib.hid (hall.trans hN.symm)
  rw [← hal]
  rw [← hN]
  have HN := Lib.hid hN
  clear hs hL hal hale hsum hall hget hle hnat hroom hcell hN
  go_enter Tryd.func108, Tryd.ntmps108
  go_wp2
  go_loopg [3, 13] (N + 1) (fun f s3 s13 wr => ∃ i v : Nat, N - i < f ∧ i ≤ N ∧ s13 = .int .i64 i ∧ s3 = .int .i64 v ∧ v ≤ 11 ∧ Hid ((∀ x ∈ l.take i, x ≤ v) ∧ (v = 0 ∨ v ∈ l.take i)) ∧ Kept w wr)
  case atStart => exact ⟨0, 0, by omega, by omega, rfl, rfl, by omega, ⟨fun x hx => by simp at hx, .inl rfl⟩, Keep.refl _ _⟩
  case round =>
    obtain ⟨i, v, q1, q2, rfl, rfl, q3, qv, qk⟩ := hrel
    by_cases hlt : i < N
    · obtain ⟨x, hx⟩ : ∃ x, x = l.getD i 0 := ⟨_, rfl⟩
      have hcx := Hnat.out i hlt
      rw [← hx] at hcx
      have qx := qk.cell hcx (fun h => h)
      have hxm : x ≤ m := by rw [hx]; exact Hle.out i hlt
      have hxi : l[i]? = some x := by rw [hx, List.getD_eq_getElem?_getD, List.getElem?_eq_getElem (by rw [← HN.out]; exact hlt)]; rfl
      have Hxi := Lib.hid hxi
      have hmx : max (v : Int) (x : Int) = ((max v x : Nat) : Int) := by omega
      have hmx1 : max v x ≤ 11 := by omega
      have Hmx : Hid ((∀ y ∈ l.take (i + 1), y ≤ max v x) ∧ (max v x = 0 ∨ max v x ∈ l.take (i + 1))) := by
        show _ ∧ _
        rw [take_push hxi]
        refine ⟨fun y hy => ?_, ?_⟩
        · rcases List.mem_append.1 hy with hy | hy
          · exact Nat.le_trans (qv.out.1 y hy) (Nat.le_max_left _ _)
          · rw [List.mem_singleton.1 hy]; exact Nat.le_max_right _ _
        · rcases Nat.le_total v x with h | h
          · rw [Nat.max_eq_right h]; exact .inr (List.mem_append_right _ (List.mem_singleton.2 rfl))
          · rw [Nat.max_eq_left h]
            exact qv.out.2.elim .inl (fun h => .inr (List.mem_append_left _ h))
      clear hx hcx hxi qv
      generalize max v x = u at hmx hmx1 Hmx
      go_wp2
      go_roundg (N - i)
      case measure => exact q1
      case rel => exact ⟨i + 1, u, by omega, by omega, rfl, by first | rfl | rw [hmx], hmx1, Hmx, qk⟩
    · obtain rfl : i = N := by omega
      have hvm : v = m := by
        have h1 := qv.out
        rw [List.take_of_length_le (by rw [← HN.out]; exact Nat.le_refl _)] at h1
        have h2 := h1.1 m HL.out.has
        rcases h1.2 with h3 | h3
        · omega
        · have := HL.out.le v h3; omega
      subst hvm
      clear qv
      go_wp2_with (at_make; refine wpList_make rfl _ _ rfl el23 .i64 .i64 i i rfl rfl (Nat.le_refl _) (by omega) ?_; intro w1 hk1 hg1)
      obtain ⟨gb, hgb⟩ : ∃ x, x = wr.heap.size := ⟨_, rfl⟩
      rw [← hgb] at hg1 ⊢
      have hg2 : Blk w1 gb 3 (nats (codesTo al v 1 0)) := by
        rw [Nat.mul_one, made_list _ rfl] at hg1
        rw [codesTo_zero, Hall.out, nats, List.map_replicate]
        exact hg1
      have hgw : w.heap.size ≤ gb := by rw [hgb]; exact qk.size
      have hk2 : Kept w w1 := qk.trans hk1
      clear hg1 hgb
      have hg3 : Blk w1 gb 3 (nats (codesTo al v (v + 1 - v) 0)) := by rw [Nat.add_sub_cancel_left]; exact hg2
      clear hg2
      go_loopg [7, 8] (v + 1) (fun f s7 s8 wr => ∃ b X : Nat, b < f ∧ b ≤ v ∧ s8 = .int .i64 b ∧ s7 = .int .i64 X ∧ Hid (X = (rowsTo al v (v - b)).length) ∧ Blk wr gb 3 (nats (codesTo al v (v + 1 - b) 0)) ∧ Kept w wr)
      case atStart => exact ⟨v, 0, by omega, by omega, rfl, rfl, by show 0 = _; rw [Nat.sub_self]; rfl, hg3, hk2⟩
      case round =>
        obtain ⟨b, X0, p1, p2, rfl, rfl, pX, pb, pk⟩ := hrel
        by_cases hb : 0 < b
        · obtain ⟨d, hd⟩ : ∃ d, d = v - b := ⟨_, rfl⟩
          have hdi : (v : Int) - (b : Int) = (d : Int) := by omega
          have hdv : d < v := by omega
          obtain ⟨P, hP⟩ : ∃ P, P = 2 ^ d := ⟨_, rfl⟩
          have hPi : (2 : Int) ^ d = (P : Int) := by rw [two_pow_int, hP]
          have hP0 : 0 < P := by rw [hP]; exact pow_pos' _
          have hPl : P ≤ 2048 := by rw [hP]; exact Nat.pow_le_pow_right (n := 2) (i := d) (j := 11) (by decide) (by omega)
          have hd1 : v + 1 - b = d + 1 := by omega
          rw [hd1] at pb
          have hX := pX.out
          rw [← hd] at hX
          have HX := Lib.hid hX
          have HP := Lib.hid hP
          have Hd := Lib.hid hd
          have hroomP : ∀ k, X0 + (idxs (d + 1) 0 (al.take k)).length * P ≤ 2048 := fun k => by rw [hX, hP]; exact Hroom.out d k hdv
          have Hrm := Lib.hid hroomP
          have hX2048 : X0 ≤ 2048 := by have := hroomP 0; omega
          clear hX hP hd pX hroomP hd1
          go_wp2
          go_loopg [7, 31] (i + 1) (fun f s7 s31 wr => ∃ k X : Nat, i - k < f ∧ k ≤ i ∧ s31 = .int .i64 k ∧ s7 = .int .i64 X ∧ X ≤ 2048 ∧ Hid (X = X0 + (idxs (d + 1) 0 (al.take k)).length * P) ∧ Blk wr gb 3 (nats (codesTo al v (d + 1) k)) ∧ Kept w wr)
          case atStart => exact ⟨0, X0, by omega, by omega, rfl, rfl, hX2048, by show X0 = _; rw [List.take_zero, idxs, List.length_nil]; omega, pb, pk⟩
          case round =>
            obtain ⟨k, X, r1, r2, rfl, rfl, r3, rX, rb, rk⟩ := hrel
            by_cases hlk : k < i
            · obtain ⟨x, hx⟩ : ∃ x, x = l.getD k 0 := ⟨_, rfl⟩
              have hcx := Hnat.out k hlk
              rw [← hx] at hcx
              have qx := rk.cell hcx (fun h => h)
              have hxm : x ≤ v := by rw [hx]; exact Hle.out k hlk
              have hax : al.getD k 0 = wtOf v x := by rw [hx]; exact Hget.out k hlk
              have hak : al[k]? = some (wtOf v x) := by rw [← hax, List.getD_eq_getElem?_getD, List.getElem?_eq_getElem (by rw [Hall.out]; exact hlk)]; rfl
              by_cases hxb : x = b
              · subst hxb
                have hwt : wtOf v x = d + 1 := by rw [(wtOf_eq hxm hb p2).2 rfl]; have := Hd.out; omega
                rw [hwt] at hax hak
                have hcode : codeOf al v k = X / P := by
                  rw [codeOf, rowOf, hax, wc_succ, Nat.add_sub_cancel, ← HP.out, ← HX.out, ← rX.out]
                have hst := codesTo_set (al := al) (m := v) (v := d + 1) (k := k) (by rw [Hall.out]; exact hlk) (by omega) hax
                have rs := rb.set k (.int .i64 ((codeOf al v k : Nat) : Int))
                rw [nats_set, hst] at rs
                have r0 : ∃ y : Nat, wr.cell? ⟨gb, k, none⟩ = some (.int .i64 (y : Int)) := ⟨(codesTo al v (d + 1) k).getD k 0, by rw [rb.cell]; exact nats_at (by rw [codesTo_length, Hall.out]; exact hlk)⟩
                obtain ⟨y, r0⟩ := r0
                have rf := rb.frozen k
                have rk2 := rk.set (p := ⟨gb, k, none⟩) (.inr hgw) (.int .i64 ((codeOf al v k : Nat) : Int))
                have hnx : Hid (X + P = X0 + (idxs (d + 1) 0 (al.take (k + 1))).length * P) := by
                  show _ = _
                  rw [idxs_push hak, if_pos rfl, List.length_append, List.length_singleton, Nat.add_mul, rX.out]
                  omega
                have hxp : X + P ≤ 2048 := by rw [hnx.out]; exact Hrm.out (k + 1)
                have hdi2 : (X : Int) / (P : Int) = ((X / P : Nat) : Int) := rfl
                rw [hcode] at rs rk2
                generalize X / P = cd at rs rk2 hdi2
                have Rs := Lib.hid rs
                have Rk := Lib.hid rk2
                clear hx hcx hax hak hst rs rk2 hcode rb rX hwt
                go_wp2
                go_roundg (i - k)
                case measure => exact r1
                case rel => exact ⟨k + 1, X + P, by omega, by omega, rfl, rfl, hxp, hnx, Rs.out, Rk.out⟩
              · have hwt : wtOf v x ≠ d + 1 := fun h => hxb ((wtOf_eq hxm hb p2).1 (by rw [h]; have := Hd.out; omega))
                have rb2 : Blk wr gb 3 (nats (codesTo al v (d + 1) (k + 1))) := by
                  rw [codesTo_other (by rw [hax]; exact hwt)]
                  exact rb
                have rX2 : Hid (X = X0 + (idxs (d + 1) 0 (al.take (k + 1))).length * P) := by
                  show _ = _
                  rw [idxs_push hak, if_neg hwt, List.append_nil]
                  exact rX.out
                clear hx hcx hax hak rb rX hwt
                go_wp2
                go_roundg (i - k)
                case measure => exact r1
                case rel => exact ⟨k + 1, X, by omega, by omega, rfl, rfl, r3, rX2, rb2, rk⟩
            · obtain rfl : k = i := by omega
              have hfull : al.take k = al := List.take_of_length_le (by rw [Hall.out]; exact Nat.le_refl _)
              rw [hfull] at rX
              have rb2 : Blk wr gb 3 (nats (codesTo al v (v + 1 - (b - 1)) 0)) := by
                rw [show v + 1 - (b - 1) = d + 1 + 1 by have := Hd.out; omega, codesTo_next, Hall.out]
                exact rb
              have rX2 : Hid (X = (rowsTo al v (v - (b - 1))).length) := by
                show _ = _
                rw [show v - (b - 1) = d + 1 by have := Hd.out; omega, rowsTo_succ, List.length_append, rowsW_length, wc_succ, ← HP.out, ← HX.out]
                exact rX.out
              clear rb rX hfull
              go_wp2
              go_roundg b
              case measure => exact p1
              case rel => exact ⟨b - 1, X, by omega, by omega, by congr 1; omega, rfl, rX2, rb2, rk⟩
        · obtain rfl : b = 0 := by omega
          have pb2 : Blk wr gb 3 (nats (codesAll al v)) := by
            rw [Nat.sub_zero, codesTo_all (fun x hx => by have := Hale.out x hx; omega)] at pb
            exact pb
          clear pb
          go_wp2
          go_ret
          exact ⟨gb, rfl, hgw, pb2, pk⟩
end

section
/-- A number's first bytes, the lowest first. -/
def lowB (v n : Nat) : List Nat := (List.range n).map fun j => v / 256 ^ j % 256
theorem lowB_length (v n : Nat) : (lowB v n).length = n := by simp [lowB]
theorem lowB_push (v n : Nat) : lowB v (n + 1) = lowB v n ++ [v / 256 ^ n % 256] := by simp [lowB, List.range_succ]
theorem lowB_bytes (v n : Nat) : Bytes (lowB v n) := fun x hx => by
  obtain ⟨j, _, rfl⟩ := List.mem_map.1 hx
  exact Nat.mod_lt _ (by decide)
theorem num_lowB (v : Nat) : ∀ n, num (lowB v n) = v % 256 ^ n
  | 0 => by rw [Nat.pow_zero, Nat.mod_one]; rfl
  | n + 1 => by
    have e : (2 : Nat) ^ (8 * n) = 256 ^ n := by rw [Nat.pow_mul]
    rw [lowB_push, num_append, num_lowB v n, lowB_length, e, num, num, Nat.pow_succ, Nat.mod_mul]
    have h : v / 256 ^ n % 256 + 0 * 256 = v / 256 ^ n % 256 := by omega
    rw [Nat.mul_comm (256 ^ n)]
    simp

set_option maxHeartbeats 1000000 in
theorem low_any (v n : Nat) (hn : n ≤ 8) (hv : v < 9223372036854775808) (w : World) :
    Calls Tryd.prog 91 #[.int .u64 (v : Int), .int .i64 (n : Int)] w fun e w' => ∃ A c, e = .returned (.slice A n c) ∧ w'.ownsRow w.heap.size 5 1 (.slice A n c) n (u8s (lowB v n)) ∧ Kept w w' := by
  go_enter Tryd.func91, Tryd.ntmps91
  go_wp2
  go_loopg [0, 5, 7] (n + 1) (fun f s0 s5 s7 wr => ∃ (k V : Nat) (A : Option Addr) (c : Nat), n - k < f ∧ k ≤ n ∧ s7 = .int .i64 k ∧ s0 = .int .u64 V ∧ Hid (V = v / 256 ^ k) ∧ V < 9223372036854775808 ∧ s5 = .slice A k c ∧ wr.ownsRow w.heap.size 5 1 (.slice A k c) k (u8s (lowB v k)) ∧ Kept w wr)
  case atStart => exact ⟨0, v, none, 0, by omega, by omega, rfl, rfl, by show v = _; rw [Nat.pow_zero, Nat.div_one], hv, rfl, World.ownsRow_nil _ _ _ _, Keep.refl _ _⟩
  case round =>
    obtain ⟨k, V, A, c, q1, q2, rfl, rfl, qV, qv, rfl, qo, qk⟩ := hrel
    by_cases hlt : k < n
    · obtain ⟨x, hx⟩ : ∃ x, x = V % 256 := ⟨_, rfl⟩
      obtain ⟨V1, hV1⟩ : ∃ x, x = V / 256 := ⟨_, rfl⟩
      have hcv : IntKind.u8.wrap (V : Int) = (x : Int) := by rw [IntKind.wrap_u8]; omega
      have hdv : (V : Int) / 256 = (V1 : Int) := by omega
      have hV63 : V1 < 9223372036854775808 := by omega
      have hV2 : Hid (V1 = v / 256 ^ (k + 1)) := by
        show _ = _
        rw [hV1, qV.out, Nat.div_div_eq_div_mul, Nat.pow_succ]
      have hpush : lowB v (k + 1) = lowB v k ++ [x] := by rw [lowB_push, hx, qV.out]
      have Hpush := Lib.hid hpush
      clear hpush hx hV1 qV
      go_wp2_with (at_builtin; refine wpList_push rfl _ _ rfl elByte qk A k c _ rfl qo [.int .u8 (x : Int)] rfl rfl (by simp [Value.oneCell']) (by omega) ?_; intro A2 c2 w2 ho2 hk2 hg2)
      go_roundg (n - k)
      case measure => exact q1
      case rel => exact ⟨k + 1, V1, A2, c2, by omega, by omega, rfl, rfl, hV2, hV63, rfl, by rw [Hpush.out]; simpa [u8s] using ho2, hk2⟩
    · obtain rfl : k = n := by omega
      go_wp2
      go_ret
      exact ⟨A, c, rfl, qo, qk⟩
end

section
section
variable {v hb : Nat} {r : List Nat}
theorem lowB_first (h : 0 < hb) : (lowB v hb ++ r).getD 0 0 = v % 256 := by
  rw [List.getD_eq_getElem?_getD, List.getElem?_append_left (by rw [lowB_length]; exact h), lowB, List.getElem?_map, List.getElem?_range h]
  simp
theorem lowB_take : (lowB v hb ++ r).take hb = lowB v hb := by
  rw [List.take_append_of_le_length (by rw [lowB_length]; exact Nat.le_refl _), List.take_of_length_le (by rw [lowB_length]; exact Nat.le_refl _)]
theorem lowB_drop : (lowB v hb ++ r).drop hb = r := by
  have h := List.drop_left (l₁ := lowB v hb) (l₂ := r)
  rwa [lowB_length] at h
theorem lowB_num (h : v < 256 ^ hb) : num (lowB v hb) = v := by rw [num_lowB, Nat.mod_eq_of_lt h]
theorem lowB_len : (lowB v hb ++ r).length = hb + r.length := by rw [List.length_append, lowB_length]
theorem lowB_ne (h : 0 < hb) : lowB v hb ++ r ≠ [] := by
  intro h2
  have := congrArg List.length h2
  rw [lowB_len] at this
  simp at this
  omega
end

/-- Raw literals. -/
theorem litS_raw {f n : Nat} {t tl : List Nat} (hf : f = 0 ∨ f = 1 ∨ f = 3) (hn : n = t.length) (hfit : n * 2 ^ sh1 f + 4 * f < 256 ^ hd1 f) (hn2 : n ≤ 131072) :
    litS (lowB (n * 2 ^ sh1 f + 4 * f) (hd1 f) ++ (t ++ tl)) = (1, t, hd1 f + n) := by
  have h1 : 0 < hd1 f := by rcases hf with rfl | rfl | rfl <;> decide
  obtain ⟨v, hv⟩ : ∃ v, v = n * 2 ^ sh1 f + 4 * f := ⟨_, rfl⟩
  rw [← hv] at hfit ⊢
  have hk : v % 256 % 4 = 0 := by
    rcases hf with rfl | rfl | rfl
    · have e : (2 : Nat) ^ sh1 0 = 8 := by decide
      rw [hv, e]; omega
    · have e : (2 : Nat) ^ sh1 1 = 16 := by decide
      rw [hv, e]; omega
    · have e : (2 : Nat) ^ sh1 3 = 16 := by decide
      rw [hv, e]; omega
  obtain ⟨f', hf', e1, e2, hf0⟩ : ∃ f', (f = 0 → f' = 2 * (n % 2)) ∧ hd1 f' = hd1 f ∧ sh1 f' = sh1 f ∧ (f ≠ 0 → f' = f) := by
    rcases hf with rfl | rfl | rfl
    · rcases Nat.mod_two_eq_zero_or_one n with h | h
      · exact ⟨0, fun _ => by omega, rfl, rfl, fun h => absurd rfl h⟩
      · exact ⟨2, fun _ => by omega, rfl, rfl, fun h => absurd rfl h⟩
    · exact ⟨1, fun h => by omega, rfl, rfl, fun _ => rfl⟩
    · exact ⟨3, fun h => by omega, rfl, rfl, fun _ => rfl⟩
  have hff : v % 256 / 4 % 4 = f' := by
    rcases hf with rfl | rfl | rfl
    · have e : (2 : Nat) ^ sh1 0 = 8 := by decide
      have h := hf' rfl
      rw [hv, e]; omega
    · have e : (2 : Nat) ^ sh1 1 = 16 := by decide
      have h := hf0 (by decide)
      rw [hv, e]; omega
    · have e : (2 : Nat) ^ sh1 3 = 16 := by decide
      have h := hf0 (by decide)
      rw [hv, e]; omega
  have hdn : v / 2 ^ sh1 f = n := by
    rcases hf with rfl | rfl | rfl
    · have e : (2 : Nat) ^ sh1 0 = 8 := by decide
      rw [hv, e]; omega
    · have e : (2 : Nat) ^ sh1 1 = 16 := by decide
      rw [hv, e]; omega
    · have e : (2 : Nat) ^ sh1 3 = 16 := by decide
      rw [hv, e]; omega
  have hraws : raws (lowB v (hd1 f) ++ (t ++ tl)) f' = n := by rw [raws, e1, e2, lowB_take, lowB_num hfit, hdn]
  rw [litS, if_neg (lowB_ne h1), lowB_first h1, hk, hff, if_pos (by decide), litR, e1, lowB_len, hraws, if_neg (by omega), if_neg (by omega), if_neg (by decide), if_neg (by rw [List.length_append]; omega), lowB_drop, List.take_append_of_le_length (by omega), List.take_of_length_le (by omega)]
/-- One byte again and again. -/
theorem litS_run {f n x : Nat} {tl : List Nat} (hf : f = 0 ∨ f = 1 ∨ f = 3) (hfit : n * 2 ^ sh1 f + 4 * f + 1 < 256 ^ hd1 f) (hn2 : n ≤ 131072) :
    litS (lowB (n * 2 ^ sh1 f + 4 * f + 1) (hd1 f) ++ (x :: tl)) = (1, List.replicate n x, hd1 f + 1) := by
  have h1 : 0 < hd1 f := by rcases hf with rfl | rfl | rfl <;> decide
  obtain ⟨v, hv⟩ : ∃ v, v = n * 2 ^ sh1 f + 4 * f + 1 := ⟨_, rfl⟩
  rw [← hv] at hfit ⊢
  have hk : v % 256 % 4 = 1 := by
    rcases hf with rfl | rfl | rfl
    · have e : (2 : Nat) ^ sh1 0 = 8 := by decide
      rw [hv, e]; omega
    · have e : (2 : Nat) ^ sh1 1 = 16 := by decide
      rw [hv, e]; omega
    · have e : (2 : Nat) ^ sh1 3 = 16 := by decide
      rw [hv, e]; omega
  obtain ⟨f', hf', e1, e2, hf0⟩ : ∃ f', (f = 0 → f' = 2 * (n % 2)) ∧ hd1 f' = hd1 f ∧ sh1 f' = sh1 f ∧ (f ≠ 0 → f' = f) := by
    rcases hf with rfl | rfl | rfl
    · rcases Nat.mod_two_eq_zero_or_one n with h | h
      · exact ⟨0, fun _ => by omega, rfl, rfl, fun h => absurd rfl h⟩
      · exact ⟨2, fun _ => by omega, rfl, rfl, fun h => absurd rfl h⟩
    · exact ⟨1, fun h => by omega, rfl, rfl, fun _ => rfl⟩
    · exact ⟨3, fun h => by omega, rfl, rfl, fun _ => rfl⟩
  have hff : v % 256 / 4 % 4 = f' := by
    rcases hf with rfl | rfl | rfl
    · have e : (2 : Nat) ^ sh1 0 = 8 := by decide
      have h := hf' rfl
      rw [hv, e]; omega
    · have e : (2 : Nat) ^ sh1 1 = 16 := by decide
      have h := hf0 (by decide)
      rw [hv, e]; omega
    · have e : (2 : Nat) ^ sh1 3 = 16 := by decide
      have h := hf0 (by decide)
      rw [hv, e]; omega
  have hdn : v / 2 ^ sh1 f = n := by
    rcases hf with rfl | rfl | rfl
    · have e : (2 : Nat) ^ sh1 0 = 8 := by decide
      rw [hv, e]; omega
    · have e : (2 : Nat) ^ sh1 1 = 16 := by decide
      rw [hv, e]; omega
    · have e : (2 : Nat) ^ sh1 3 = 16 := by decide
      rw [hv, e]; omega
  have hraws : raws (lowB v (hd1 f) ++ (x :: tl)) f' = n := by rw [raws, e1, e2, lowB_take, lowB_num hfit, hdn]
  have hget : (lowB v (hd1 f) ++ (x :: tl)).getD (hd1 f) 0 = x := by
    have h2 := congrArg (fun l => l[0]?) (lowB_drop (v := v) (hb := hd1 f) (r := x :: tl))
    simp only [List.getElem?_drop, Nat.add_zero, List.getElem?_cons_zero] at h2
    rw [List.getD_eq_getElem?_getD, h2]
    rfl
  rw [litS, if_neg (lowB_ne h1), lowB_first h1, hk, hff, if_pos (by decide), litR, e1, lowB_len, hraws, if_neg (by omega), if_neg (by omega), if_pos rfl, if_neg (by rw [List.length_cons]; omega), hget]

/-- Compressed literals. -/
theorem litS_huf {f n m : Nat} {l zs S t tl : List Nat} (hf : f < 4) (hn : n = t.length) (hn0 : 0 < n) (hn2 : n ≤ 131072) (hnf : n < 2 ^ wd2 f) (hcf : zs.length + S.length < 2 ^ wd2 f) (hL : Lens l m) (hz : TellsW zs (wtsBy m (l.take (l.length - 1))))
    (hS : strV S m (rowsTo (wtsBy m l) m m) n (f != 0) = (1, t)) :
    litS (lowB ((zs.length + S.length) * 2 ^ (4 + wd2 f) + n * 16 + 4 * f + 2) (hd2 f) ++ (zs ++ S ++ tl)) = (1, t, hd2 f + (zs.length + S.length)) := by
  have h1 : 0 < hd2 f := by have := hd2_low hf; omega
  obtain ⟨C, hC⟩ : ∃ C, C = zs.length + S.length := ⟨_, rfl⟩
  rw [← hC] at hcf ⊢
  obtain ⟨W, hW⟩ : ∃ W, W = 2 ^ wd2 f := ⟨_, rfl⟩
  have e4 : 2 ^ (4 + wd2 f) = 16 * W := by rw [Nat.pow_add, ← hW]
  rw [← hW] at hcf hnf
  obtain ⟨v, hv⟩ : ∃ v, v = C * 2 ^ (4 + wd2 f) + n * 16 + 4 * f + 2 := ⟨_, rfl⟩
  rw [← hv]
  have hCW : C * W + W ≤ W * W := by
    rw [← Nat.succ_mul]
    exact Nat.mul_le_mul_right _ hcf
  have hvw : v = 16 * (C * W + n) + 4 * f + 2 := by rw [hv, e4, Nat.mul_left_comm]; omega
  have hfit : v < 256 ^ hd2 f := by
    have h4 : f = 0 ∨ f = 1 ∨ f = 2 ∨ f = 3 := by omega
    have hlt : v < 16 * (W * W) := by omega
    refine Nat.lt_of_lt_of_le hlt ?_
    rw [hW]
    rcases h4 with rfl | rfl | rfl | rfl <;> decide
  have hk : v % 256 % 4 = 2 := by omega
  have hff : v % 256 / 4 % 4 = f := by omega
  have hd16 : v / 16 = C * W + n := by omega
  have hmany : lmany (lowB v (hd2 f) ++ (zs ++ S ++ tl)) f = n := by
    rw [lmany, lowB_take, lowB_num hfit, hd16, ← hW, Nat.mul_comm, Nat.mul_add_mod, Nat.mod_eq_of_lt hnf]
  have hsize : lsize (lowB v (hd2 f) ++ (zs ++ S ++ tl)) f = C := by
    rw [lsize, lowB_take, lowB_num hfit, hd16, ← hW, Nat.mul_comm, Nat.mul_add_div (by omega), Nat.div_eq_of_lt hnf, Nat.add_zero]
  have hwin : ((lowB v (hd2 f) ++ (zs ++ S ++ tl)).drop (hd2 f)).take C = zs ++ S := by
    rw [lowB_drop, List.take_append_of_le_length (by rw [List.length_append]; omega), List.take_of_length_le (by rw [List.length_append]; omega)]
  rw [litS, if_neg (lowB_ne h1), lowB_first h1, hk, hff, if_neg (by decide), litH, lowB_len, hsize, if_neg (by omega), if_neg (by rw [List.length_append, List.length_append]; omega), if_neg (by decide), hwin, hL.tells hz S]
  simp only
  rw [litT, if_neg (fun h => h hL.one_mem), hmany, if_neg (by omega), hsize, hwin, List.drop_left, hS]
end
end Go.Proofs.YtabaholflahepaaDoor
