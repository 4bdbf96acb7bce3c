/-
  The walk of laws.FnToldTreeIsRead: it returns true.
-/
import Derived.Test.YtabaholflahepaaDoorEncTree
import Derived.Test.YtabaholflahepaaDoorHuffZ
namespace Go.Proofs.YtabaholflahepaaDoor
open Go.RowKit

/-- How often each number below 256 comes. -/
def tally (t : List Nat) : List Nat := (List.range 256).map fun s => t.count s
@[simp] theorem tally_length (t : List Nat) : (tally t).length = 256 := by simp [tally]
theorem tally_at (t : List Nat) {s : Nat} (h : s < 256) : (tally t)[s]? = some (t.count s) := by simp [tally, h]
theorem tally_push (t : List Nat) {s : Nat} (h : s < 256) : (tally t).set s (t.count s + 1) = tally (t ++ [s]) := by
  refine List.ext_getElem? fun j => ?_
  by_cases hj : j < 256
  · rw [tally_at _ hj, List.getElem?_set, List.count_append, List.count_singleton]
    by_cases e : s = j
    · subst e
      simp [h]
    · have : (s == j) = false := beq_eq_false_iff_ne.2 e
      rw [if_neg e, tally_at _ hj, this]
      simp
  · rw [List.getElem?_eq_none (by simp; omega), List.getElem?_eq_none (by simp; omega)]
theorem tally_nil : tally [] = List.replicate 256 0 := by
  refine List.ext_getElem? fun j => ?_
  by_cases hj : j < 256
  · rw [tally_at _ hj, List.getElem?_replicate, if_pos hj, List.count_nil]
  · rw [List.getElem?_eq_none (by rw [tally_length]; omega), List.getElem?_eq_none (by rw [List.length_replicate]; omega)]

/-- A row of a told tree. -/
theorem Lens.row {l : List Nat} {m i s b : Nat} (_h : Lens l m) (hr : (rowsTo (wtsBy m l) m m)[i]? = some (s, b)) : l[s]? = some b ∧ s < l.length ∧ 1 ≤ b := by
  obtain ⟨v, h1, h2, h3, h4⟩ := rowsTo_mem (List.mem_of_getElem? hr)
  simp only at h3 h4
  rw [wtsBy, List.getElem?_map] at h3
  obtain ⟨x, hx, hxv⟩ := Option.map_eq_some_iff.1 h3
  have hx0 : x ≠ 0 := by rintro rfl; rw [wt_zero] at hxv; omega
  rw [wtOf, if_neg hx0] at hxv
  have : x = b := by omega
  subst this
  exact ⟨hx, (List.getElem?_eq_some_iff.1 hx).1, by omega⟩
theorem Lens.count {l : List Nat} {m s n : Nat} (h : Lens l m) (hs : l[s]? = some n) : ((rowsTo (wtsBy m l) m m).map (·.1)).count s = if n = 0 then 0 else 2 ^ (m - n) := by
  have hle : ∀ w ∈ wtsBy m l, w ≤ m := fun w hw => by
    obtain ⟨x, _, rfl⟩ := List.mem_map.1 hw
    exact wt_le m x
  rw [rows_count hle]
  have hg : (wtsBy m l).getD s 0 = wtOf m n := by
    rw [List.getD_eq_getElem?_getD, wtsBy, List.getElem?_map, hs]; rfl
  rw [hg]
  split
  · rename_i h0; subst h0; rw [wt_zero, wc_zero]
  · rename_i h0; exact wc_wt h0 (h.le n (List.mem_of_getElem? hs))

set_option maxHeartbeats 8000000 in
set_option maxRecDepth 4000 in
theorem fnToldTreeIsRead_walk (A : Option Addr) (c : Nat) (cs : List Int) (A' : Option Addr) (c' : Nat) (xs : List Int) (A2 : Option Addr) (c2 : Nat) (bs : List Nat) (w : World) (hs : Sl w (· < w.heap.size) A (i64s cs)) (_hx : I64s cs) (_hm : cs.length ≤ 9223372036854775807)
    (hs' : Sl w (· < w.heap.size) A' (i64s xs)) (hx' : I64s xs) (_hm' : xs.length ≤ 9223372036854775807) (hs2 : Sl w (· < w.heap.size) A2 (u8s bs)) (hb : Bytes bs) (_hm2 : bs.length ≤ 9223372036854775807) (he : Errs w.heap.size w) :
    Calls Tryd.prog 12 #[.slice A cs.length c, .slice A' xs.length c', .slice A2 bs.length c2] w fun e w' => e = .returned (.bool true) ∧ Kept w w' := by
  by_cases g1 : 2147483647 < cs.length
  · go_enter Tryd.func12, Tryd.ntmps12
    go_wp2_with fail
    go_ret
    exact ⟨rfl, Keep.refl _ _⟩
  by_cases g2 : 2147483647 < xs.length
  · go_enter Tryd.func12, Tryd.ntmps12
    go_wp2_with fail
    go_ret
    exact ⟨rfl, Keep.refl _ _⟩
  by_cases g3 : 2147483647 < bs.length
  · go_enter Tryd.func12, Tryd.ntmps12
    go_wp2_with fail
    go_ret
    exact ⟨rfl, Keep.refl _ _⟩
  by_cases g4 : 1048576 < bs.length
  · go_enter Tryd.func12, Tryd.ntmps12
    go_wp2_with fail
    go_ret
    exact ⟨rfl, Keep.refl _ _⟩
  have htt := treeTold_any A c cs A' c' xs w hs hs' hx' (by omega) (by omega)
  have Htt := Lib.hid htt
  have Hb := Lib.hid hb
  have hnl := fun (w : World) (a : Option Addr) (n c n' c' : Nat) => Lib.run_eql_slice_nil (P := Tryd.prog) w 22 5 a n c n' c' Tryd.underlying22
  clear htt hs hs' hx' hb
  go_enter Tryd.func12, Tryd.ntmps12
  go_wp2_with (first
    | (go_at_call 34; (with_reducible refine Htt.out.mono ?_); rintro e w1 ⟨hk1, ⟨v, rfl⟩ | ⟨g, n, c9, zs, A3, n', c3, l, m, rfl, hn, hn', hnb, ho1, ho2, hLT⟩⟩)
    | (at_builtin; refine wpList_append rfl _ _ rfl elByte hk1 (some ⟨g, 0, none⟩) n c9 (u8s zs) rfl ho1 bs.length (u8s bs) _ rfl (src_sl Tryd.underlying22 (hs2.kept hk1) bs.length c2 (by simp) (u8s_one bs)) (by omega) ?_; intro A4 c4 w4 ho4 hk4 hg4; have ho2b := ho2.kept hg4 (own_apart ho2 ho1 (by decide)))
    | (at_builtin; refine wpList_append rfl _ _ rfl elByte (hk4.alloc _) A4 (n + bs.length) c4 (u8s zs ++ u8s bs) rfl (ho4.alloc _) 2 [.int .u8 0, .int .u8 0] _ rfl (src_blk Tryd.underlying22 (Blk.new w4 5 [.int .u8 0, .int .u8 0]) 2 2 (by simp) (by simp [Value.oneCell'])) (by omega) ?_; intro A5 c5 w5 ho5 hk5 hg5; have ho2c := (ho2b.alloc _).kept hg5 (own_apart ho2b ho4 (by decide))))
  · go_ret
    exact ⟨rfl, hk1⟩
  · obtain ⟨hL, hT⟩ := hLT.out
    have hds : u8s zs ++ u8s bs ++ [.int .u8 0, .int .u8 0] = u8s (zs ++ (bs ++ [0, 0])) := by rw [u8s_append, u8s_append, List.append_assoc]; rfl
    have hdl : n + bs.length + 2 = (zs ++ (bs ++ [0, 0])).length := by rw [List.length_append, List.length_append, ← hn.out, Nat.add_assoc]; rfl
    rw [hds] at ho5
    have htree := hL.tells hT (bs ++ [0, 0])
    rw [← hn.out] at htree
    have himp := implTree_any A5 c5 (zs ++ (bs ++ [0, 0])) w5 (Sl.of_own ho5) (hT.2.2.append (Hb.out.append bytes_two)) (by rw [← hdl]; omega) (he.kept hk5)
    rw [← hdl] at himp
    have hm1 := hL.one
    have hm11 := hL.top
    have h1m := hL.one_mem
    have hl256 := hL.size
    obtain ⟨P, hP⟩ : ∃ P, P = 2 ^ m := ⟨_, rfl⟩
    have hPi : (2 : Int) ^ m = (P : Int) := by rw [two_pow_int, hP]
    have hP11 : P ≤ 2048 := by rw [hP]; exact (Nat.pow_le_pow_right (by decide) hm11 : 2 ^ m ≤ 2 ^ 11)
    obtain ⟨rs, hrs⟩ : ∃ x, x = rowsTo (wtsBy m l) m m := ⟨_, rfl⟩
    have hrl : rs.length = P := by
      rw [hrs, rows_length (fun w hw => by obtain ⟨x, _, rfl⟩ := List.mem_map.1 hw; exact wt_le m x), hL.full, hP]
    have Hrs := Lib.hid hrs
    have Hrl := Lib.hid hrl
    have HP := Lib.hid hP
    have HL := Lib.hid hL
    have Himp := Lib.hid himp
    have Htree := Lib.hid htree
    have Hdl := Lib.hid hdl
    have H1m := Lib.hid h1m
    have hn'256 : n' ≤ 256 := by rw [hn'.out]; exact hl256
    clear hds hdl ho5 ho4 ho1 ho2 htree himp hP hrs hrl hL hT h1m hk4 hg4 hg5 ho2b
    refine Himp.out.mono ?_
    rintro e w6 ⟨hk6, ⟨al', m', q', B1, d1, B2, d2, ht2, h12, rfl, ho3, ho4⟩ | ⟨rfl, hno⟩⟩
    · have heq := Htree.out.symm.trans ht2
      simp only [Option.some.injEq, Prod.mk.injEq] at heq
      obtain ⟨rfl, rfl, rfl⟩ := heq
      rw [← HP.out, ← Hrs.out] at ho3 ho4
      rw [← HP.out]
      have hkw : Kept w w6 := hk5.trans hk6
      have hsy := Sl.of_own ho3
      have hsb := Sl.of_own ho4
      have hsl := Sl.of_own (own_kept ho2c hk6)
      clear ht2 Himp Htree ho3 ho4 ho2c h12
      go_wp2_with (at_make; refine wpList_make rfl _ _ rfl elInt .i64 .i64 256 256 rfl rfl (Nat.le_refl _) (by omega) ?_; intro w7 hk7 hg7)
      obtain ⟨gr, hgr⟩ : ∃ x, x = w6.heap.size := ⟨_, rfl⟩
      rw [← hgr] at hg7 ⊢
      have hr7 : Blk w7 gr 3 (nats (tally [])) := Blk.cast hg7 (by rw [Nat.mul_one, tally_nil, ← nats_zeros]; exact made_list (.int .i64 0) rfl 256)
      have hkw7 := hkw.trans hk7
      have hsy7 := hsy.kept hk7
      have hsb7 := hsb.kept hk7
      have hsl7 := hsl.kept hk7
      have hgrw : w.heap.size ≤ gr := by rw [hgr]; exact hkw.size
      have Hgr := Lib.hid hgr
      clear hg7 hgr hsy hsb hsl hk7 hkw
      go_loopg [82] (P + 1) (fun gg s82 wr => ∃ i : Nat, P - i < gg ∧ i ≤ P ∧ s82 = .int .i64 i ∧ Blk wr gr 3 (nats (tally ((rs.take i).map (·.1)))) ∧ Keep (· = gr) w7 wr)
      case atStart => exact ⟨0, by omega, by omega, rfl, hr7, Keep.refl _ _⟩
      case round =>
        clear hr7
        obtain ⟨i, q1, q2, rfl, qb, qk⟩ := hrel
        by_cases hi : i < P
        · obtain ⟨⟨s, b⟩, hx⟩ : ∃ x, rs[i]? = some x := ⟨_, List.getElem?_eq_getElem (by rw [Hrl.out]; exact hi)⟩
          have hrow := HL.out.row (i := i) (s := s) (b := b) (by rw [← Hrs.out]; exact hx)
          have hsn : s < n' := by rw [hn'.out]; exact hrow.2.1
          obtain ⟨gy, oy, y, _, rfl, hcy, hyk⟩ := (hsy7.keep qk (fun j _ h1 h2 => by have := Hgr.out; omega)).nat (k := i) (by rw [List.length_map, Hrl.out]; exact hi)
          obtain rfl : y = s := by
            have := hyk.out
            rw [List.getElem?_map, hx] at this
            exact (Option.some.inj this).symm
          obtain ⟨gz, oz, z, _, rfl, hcz, hzk⟩ := (hsb7.keep qk (fun j _ h1 h2 => by have := Hgr.out; omega)).nat (k := i) (by rw [List.length_map, Hrl.out]; exact hi)
          obtain rfl : z = b := by
            have := hzk.out
            rw [List.getElem?_map, hx] at this
            exact (Option.some.inj this).symm
          obtain ⟨gl, ol, z2, _, rfl, hcl, hlk⟩ := (hsl7.keep qk (fun j _ h1 h2 => by have := Hgr.out; omega)).nat (k := y) hrow.2.1
          obtain rfl : z2 = z := by
            have := hlk.out
            rw [hrow.1] at this
            exact (Option.some.inj this).symm
          have hs256 : y < 256 := by omega
          have ht0 := tally_at ((rs.take i).map (·.1)) hs256
          have hpush : tally ((rs.take (i + 1)).map (·.1)) = (tally ((rs.take i).map (·.1))).set y (((rs.take i).map (·.1)).count y + 1) := by
            rw [tally_push _ hs256, take_push hx]; simp
          obtain ⟨v, hv⟩ : ∃ v, v = ((rs.take i).map (·.1)).count y := ⟨_, rfl⟩
          rw [← hv] at ht0 hpush
          have hvb : v ≤ 2048 := by
            rw [hv]
            have := List.count_le_length (a := y) (l := (rs.take i).map (·.1))
            rw [List.length_map, List.length_take] at this
            omega
          have e0 : wr.cell? ⟨gr, y, none⟩ = some (.int .i64 (v : Int)) := by rw [qb.cell, nats, List.getElem?_map, ht0]; rfl
          have f0 := qb.frozen y
          have k1 : decide ((y : Int) < 0) = false := decide_eq_false (by omega)
          have k2 : decide (n' ≤ y) = false := decide_eq_false (by omega)
          have k3 : decide ((n' : Int) ≤ (y : Int)) = false := decide_eq_false (by omega)
          have k4 : ((z2 : Int) != (z2 : Int)) = false := by simp
          have Hpush := Lib.hid hpush
          have Hx := Lib.hid hx
          have hny : y < n' := hsn
          have hiP : i < P := hi
          clear hpush hx ht0 hv hrow
          rcases Nat.eq_zero_or_pos i with hi0 | hi0
          · subst hi0
            rw [Nat.add_zero] at hcy hcz
            have k5 : decide ((0 : Int) < 0) = false := by decide
            go_wp2
            go_quiet (fail)
            go_wp2
            go_roundg (P - 0)
            case measure => exact q1
            case rel => exact ⟨1, by omega, by omega, rfl, Blk.cast ((qb.drewN _).set y _) (by rw [show ((v : Int) + 1) = ((v + 1 : Nat) : Int) by omega, nats_set, Hpush.out]), (qk.drewN _).set (p := ⟨gr, y, none⟩) (.inl rfl) _⟩
          · obtain ⟨i0, rfl⟩ : ∃ x, i = x + 1 := ⟨i - 1, by omega⟩
            obtain ⟨⟨s0, b0⟩, hx0⟩ : ∃ x, rs[i0]? = some x := ⟨_, List.getElem?_eq_getElem (by rw [Hrl.out]; omega)⟩
            have hord := rows_order (al := wtsBy m l) (m := m) (i := i0) (by rw [← Hrs.out]; exact hx0) (by rw [← Hrs.out]; exact Hx.out)
            simp only at hord
            obtain ⟨gy', oy', y0, _, hA1, hcy0, hyk0⟩ := (hsy7.keep qk (fun j _ h1 h2 => by have := Hgr.out; omega)).nat (k := i0) (by rw [List.length_map, Hrl.out]; omega)
            obtain ⟨gz', oz', z0, _, hA2, hcz0, hzk0⟩ := (hsb7.keep qk (fun j _ h1 h2 => by have := Hgr.out; omega)).nat (k := i0) (by rw [List.length_map, Hrl.out]; omega)
            simp only [Option.some.injEq, Addr.mk.injEq] at hA1 hA2
            obtain ⟨rfl, rfl, _⟩ := hA1
            obtain ⟨rfl, rfl, _⟩ := hA2
            obtain rfl : y0 = s0 := by
              have := hyk0.out
              rw [List.getElem?_map, hx0] at this
              exact (Option.some.inj this).symm
            obtain rfl : z0 = b0 := by
              have := hzk0.out
              rw [List.getElem?_map, hx0] at this
              exact (Option.some.inj this).symm
            have k5 : decide (((i0 + 1 : Nat) : Int) > 0) = true := decide_eq_true (by omega)
            have k5b : decide ((0 : Int) < (i0 : Int) + 1) = true := decide_eq_true (by omega)
            have k6 : IntKind.i64.wrap (((i0 + 1 : Nat) : Int) - 1) = (i0 : Int) := by rw [IntKind.wrap_i64]; omega
            have k6b : IntKind.i64.wrap (i0 : Int) = (i0 : Int) := by rw [IntKind.wrap_i64]; omega
            have k7 : i0 < P := by omega
            have k8 : decide (z0 < z2) = false := decide_eq_false (by omega)
            have k9 : decide ((z0 : Int) < (z2 : Int)) = false := decide_eq_false (by omega)
            clear hx0
            by_cases hzz : z0 = z2
            · have k10 : ((z0 : Int) == (z2 : Int)) = true := beq_iff_eq.2 (by omega)
              have k11 : decide (y < y0) = false := decide_eq_false (by omega)
              have k12 : decide ((y : Int) < (y0 : Int)) = false := decide_eq_false (by omega)
              subst hzz
              go_wp2
              go_quiet (fail)
              go_wp2
              go_roundg (P - (i0 + 1))
              case measure => exact q1
              case rel => exact ⟨i0 + 2, by omega, by omega, rfl, Blk.cast ((qb.drewN _).set y _) (by rw [show ((v : Int) + 1) = ((v + 1 : Nat) : Int) by omega, nats_set, Hpush.out]), (qk.drewN _).set (p := ⟨gr, y, none⟩) (.inl rfl) _⟩
            · have k10 : ((z0 : Int) == (z2 : Int)) = false := beq_eq_false_iff_ne.2 (by omega)
              go_wp2
              go_quiet (fail)
              go_wp2
              go_roundg (P - (i0 + 1))
              case measure => exact q1
              case rel => exact ⟨i0 + 2, by omega, by omega, rfl, Blk.cast ((qb.drewN _).set y _) (by rw [show ((v : Int) + 1) = ((v + 1 : Nat) : Int) by omega, nats_set, Hpush.out]), (qk.drewN _).set (p := ⟨gr, y, none⟩) (.inl rfl) _⟩
        · obtain rfl : P = i := by omega
          rw [List.take_of_length_le (by rw [Hrl.out]; exact Nat.le_refl _)] at qb
          have hlen' := hn'.out
          have Hlen' := Lib.hid hlen'
          have hcnt : ∀ j x, l[j]? = some x → (rs.map (·.1)).count j = if x = 0 then 0 else 2 ^ (m - x) := fun j x hjx => by rw [Hrs.out]; exact HL.out.count hjx
          have Hcnt := Lib.hid hcnt
          clear hcnt hlen' q1 q2 hi
          go_wp2
          go_loopg [152] (n' + 1) (fun gg s152 wr2 => ∃ j : Nat, n' - j < gg ∧ j ≤ n' ∧ s152 = .int .i64 j ∧ Blk wr2 gr 3 (nats (tally (rs.map (·.1)))) ∧ Keep (· = gr) w7 wr2)
          case atStart => exact ⟨0, by omega, by omega, rfl, qb, qk⟩
          case round =>
            clear qb qk
            obtain ⟨j, t1, t2, rfl, tb, tk⟩ := hrel
            by_cases hj : j < n'
            · obtain ⟨gl, ol, x, _, rfl, hcl, hlk⟩ := (hsl7.keep tk (fun j _ h1 h2 => by have := Hgr.out; omega)).nat (k := j) (by rw [← Hlen'.out]; exact hj)
              have hxm : x ≤ m := HL.out.le x (List.mem_of_getElem? hlk.out)
              have hc := Hcnt.out j x hlk.out
              have hj256 : j < 256 := by omega
              have ht0 := tally_at (rs.map (·.1)) hj256
              rw [hc] at ht0
              by_cases hx0 : x = 0
              · subst hx0
                rw [if_pos rfl] at ht0
                have e0 : wr.cell? ⟨gr, j, none⟩ = some (.int .i64 0) := by rw [tb.cell, nats, List.getElem?_map, ht0]; rfl
                have hcl0 : wr.cell? ⟨gl, ol + j, none⟩ = some (.int .i64 0) := hcl
                clear hcl hc ht0
                go_wp2
                go_quiet (fail)
                go_wp2
                go_roundg (n' - j)
                case measure => exact t1
                case rel => exact ⟨j + 1, by omega, by omega, rfl, tb.drewN _, tk.drewN _⟩
              · rw [if_neg hx0] at ht0
                obtain ⟨d, hd⟩ : ∃ d, d = m - x := ⟨_, rfl⟩
                obtain ⟨Q, hQ⟩ : ∃ Q, Q = 2 ^ d := ⟨_, rfl⟩
                rw [← hd, ← hQ] at ht0
                have hQi : (2 : Int) ^ d = (Q : Int) := by rw [two_pow_int, hQ]
                have hQb : Q ≤ 2048 := by rw [hQ]; exact (Nat.pow_le_pow_right (by decide) (by omega) : 2 ^ d ≤ 2 ^ 11)
                have e0 : wr.cell? ⟨gr, j, none⟩ = some (.int .i64 (Q : Int)) := by rw [tb.cell, nats, List.getElem?_map, ht0]; rfl
                have k1 : decide (0 < x) = true := decide_eq_true (by omega)
                have k2 : decide ((0 : Int) < (x : Int)) = true := decide_eq_true (by omega)
                have k3 : IntKind.i64.wrap ((m : Int) - (x : Int)) = (d : Int) := by rw [IntKind.wrap_i64]; omega
                have k3b : (m : Int) - (x : Int) = (d : Int) := by omega
                have k3c : IntKind.i64.wrap (d : Int) = (d : Int) := by rw [IntKind.wrap_i64]; omega
                have k4 : IntKind.i64.wrap (Q : Int) = (Q : Int) := by rw [IntKind.wrap_i64]; omega
                have k5 : ((Q : Int) != (Q : Int)) = false := by simp
                have k6 : ((x : Int) == 0) = false := beq_eq_false_iff_ne.2 (by omega)
                have hd62 : d ≤ 11 := by omega
                clear hc ht0 hd hQ k3
                go_wp2
                go_quiet (fail)
                go_wp2
                go_roundg (n' - j)
                case measure => exact t1
                case rel => exact ⟨j + 1, by omega, by omega, rfl, tb.drewN _, tk.drewN _⟩
            · go_wp2
              go_ret
              exact ⟨rfl, hkw7.then tk (fun j hj h => by omega)⟩
    · have := hno _ _ _ Htree.out H1m.out
      rw [← Hdl.out] at this
      omega
end Go.Proofs.YtabaholflahepaaDoor
