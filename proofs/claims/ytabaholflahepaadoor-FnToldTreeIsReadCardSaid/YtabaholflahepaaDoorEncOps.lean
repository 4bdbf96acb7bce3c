/-
  Contracts of (*chooser).of, spec.codeLengths, (*backBits).add, (*backBits).bytes, (spec.table).before.
-/
import Derived.Test.YtabaholflahepaaDoorTold
import Derived.Test.YtabaholflahepaaDoorEncPlain
import Derived.Test.YtabaholflahepaaDoorToldW
namespace Go.Proofs.YtabaholflahepaaDoor
open Go.RowKit

section
/-- A chooser: its numbers lie in R; how many were taken. -/
def Chz (w : World) (R : Nat → Prop) (cb k : Nat) : Prop := ∃ A n c xs, Blk w cb 122 [.slice A n c, .int .i64 (k : Int)] ∧ n = xs.length ∧ Sl w R A (i64s xs) ∧ I64s xs ∧ n ≤ 2147483647
theorem Chz.keep {S : Nat → Prop} {w w' : World} {R : Nat → Prop} {cb k : Nat} (h : Chz w R cb k) (hk : Keep S w w') (h1 : ¬ S cb) (h2 : ∀ j, j < w.heap.size → R j → ¬ S j) : Chz w' R cb k := by
  obtain ⟨A, n, c, xs, a1, a2, a3, a4, a5⟩ := h
  exact ⟨A, n, c, xs, a1.keep hk h1, a2, a3.keep hk h2, a4, a5⟩
theorem Chz.kept {w w' : World} {R : Nat → Prop} {cb k : Nat} (h : Chz w R cb k) (hk : Kept w w') : Chz w' R cb k := h.keep hk (fun h => h) (fun _ _ _ h => h)

set_option maxHeartbeats 1000000 in
theorem chooser_any {R : Nat → Prop} (cb k : Nat) (n : Int) (w : World) (h : Chz w R cb k) (hR : ¬ R cb) (hk : k ≤ 1099511627776) (hn0 : 0 ≤ n) (hn : n ≤ 1099511627776) :
    Calls Tryd.prog 61 #[.pointer (some ⟨cb, 0, none⟩), .int .i64 n] w fun e w' => ∃ v k' : Nat, e = .returned (.int .i64 (v : Int)) ∧ ((v : Int) < n ∨ v = 0) ∧ k' ≤ k + 1 ∧ Chz w' R cb k' ∧ Keep (· = cb) w w' := by
  obtain ⟨A, m, c, xs, a1, a2, a3, a4, a5⟩ := h
  have d0 : w.cell? ⟨cb, 0, none⟩ = some (.slice A m c) := a1.cell 0
  have d1 : w.cell? ⟨cb, 1, none⟩ = some (.int .i64 (k : Int)) := a1.cell 1
  have f1 := a1.frozen 1
  have Ha := Lib.hid (show Chz w R cb k from ⟨A, m, c, xs, a1, a2, a3, a4, a5⟩)
  by_cases hm : m = 0
  · subst hm
    clear a1 a2 a3
    go_enter Tryd.func61, Tryd.ntmps61
    go_wp2
    go_ret
    exact ⟨0, k, rfl, .inr rfl, by omega, Ha.out, Keep.refl _ _⟩
  have hmb : ((m : Int) == 0) = false := beq_eq_false_iff_ne.2 (by omega)
  by_cases hn2 : n < 2
  · clear a1 a2 a3
    go_enter Tryd.func61, Tryd.ntmps61
    go_wp2
    go_ret
    exact ⟨0, k, rfl, .inr rfl, by omega, Ha.out, Keep.refl _ _⟩
  have hlt : k % m < xs.length := by rw [← a2]; exact Nat.mod_lt _ (by omega)
  obtain ⟨g, o, x, hg, rfl, hcx, hxk⟩ := a3.i64 hlt
  have hx1 : I64 x := a4 x (List.mem_of_getElem? hxk.out)
  obtain ⟨hx1, hx2⟩ := hx1
  have hg1 : g ≠ cb := fun h => hR (h ▸ hg)
  have hg2 : cb ≠ g := fun h => hR (h ▸ hg)
  obtain ⟨q, hq⟩ : ∃ q, q = k % m := ⟨_, rfl⟩
  rw [← hq] at hcx hxk
  have hqm : q < m := by rw [hq]; exact Nat.mod_lt _ (by omega)
  have hmod : (k : Int).tmod (m : Int) = (q : Int) := by rw [hq]; rfl
  have hmod2 : (k : Int) % (m : Int) = (q : Int) := by rw [hq]; rfl
  have hr : -n < x.tmod n ∧ x.tmod n < n := ⟨by
    have := Int.lt_tmod_of_pos x (show 0 < n by omega)
    omega, Int.tmod_lt_of_pos x (by omega)⟩
  have Hxk := Lib.hid hxk
  have A1 := Lib.hid a1
  have A3 := Lib.hid a3
  have A2 := Lib.hid a2
  have hm0 : 0 < m := by omega
  have hqi : ((q : Int)).toNat = q := by omega
  clear a1 a3 hxk hlt hq a2 hmod2
  by_cases hneg : x.tmod n < 0
  · have e1 : x.tmod n + n = x % n := tmod_neg_add x n (by omega) hneg
    obtain ⟨y, hy⟩ : ∃ y : Nat, x.tmod n + n = (y : Int) := ⟨(x.tmod n + n).toNat, by omega⟩
    have E1 := Lib.hid hy
    clear e1
    go_enter Tryd.func61, Tryd.ntmps61
    go_wp2
    go_quiet (fail)
    go_wp2
    go_ret
    refine ⟨y, k + 1, by rw [← E1.out]; rfl, .inl (by omega), Nat.le_refl _, ⟨some ⟨g, o, none⟩, m, c, xs, Blk.cast ((A1.out.drewN _).set 1 _) rfl, A2.out, (A3.out.drewN _).keep ((Keep.refl (· = cb) _).set (p := ⟨cb, 1, none⟩) (.inl rfl) _) (fun j _ h1 h2 => hR (h2 ▸ h1)), a4, a5⟩, ((Keep.refl (· = cb) _).drewN _).set (p := ⟨cb, 1, none⟩) (.inl rfl) _⟩
  · obtain ⟨y, hy⟩ : ∃ y : Nat, x.tmod n = (y : Int) := ⟨(x.tmod n).toNat, by omega⟩
    go_enter Tryd.func61, Tryd.ntmps61
    go_wp2
    go_quiet (fail)
    go_wp2
    go_ret
    refine ⟨y, k + 1, rfl, .inl (by omega), Nat.le_refl _, ⟨some ⟨g, o, none⟩, m, c, xs, Blk.cast ((A1.out.drewN _).set 1 _) rfl, A2.out, (A3.out.drewN _).keep ((Keep.refl (· = cb) _).set (p := ⟨cb, 1, none⟩) (.inl rfl) _) (fun j _ h1 h2 => hR (h2 ▸ h1)), a4, a5⟩, ((Keep.refl (· = cb) _).drewN _).set (p := ⟨cb, 1, none⟩) (.inl rfl) _⟩
end

section
theorem nats_set (l : List Nat) (i x : Nat) : (nats l).set i (.int .i64 (x : Int)) = nats (l.set i x) := by simp [nats, List.map_set]
theorem nats_push (l : List Nat) (x : Nat) : nats (l ++ [x]) = nats l ++ [.int .i64 (x : Int)] := by simp [nats]
theorem nats_zeros (n : Nat) : List.replicate n (Value.int .i64 0) = nats (List.replicate n 0) := by rw [nats, List.map_replicate]; rfl

set_option maxHeartbeats 4000000 in
set_option maxRecDepth 4000 in
theorem codeLengths_any {R : Nat → Prop} (A : Option Addr) (c : Nat) (cs : List Int) (d : Bool) (w : World) (hs : Sl w R A (i64s cs)) (h256 : cs.length ≤ 256) (h2 : 2 ≤ (posAt 0 cs).length) :
    Calls Tryd.prog 60 #[.slice A cs.length c, .bool d] w fun e w' => ∃ A' c' l m, e = .returned (.slice A' (List.length l) c') ∧ Lens l m ∧ (∀ (s : Nat) (v : Int), cs[s]? = some v → 0 < v → l.getD s 0 ≠ 0) ∧ w'.ownsRow w.heap.size 3 1 (.slice A' l.length c') l.length (nats l) ∧ Kept w w' := by
  go_enter Tryd.func60, Tryd.ntmps60
  go_wp2
  go_loopg [5, 17] (cs.length + 1) (fun g s5 i wr => ∃ (k n : Nat) (A' : Option Addr) (c' : Nat), cs.length - k < g ∧ k ≤ cs.length ∧ i = .int .i64 k ∧ s5 = .slice A' n c' ∧ n ≤ k ∧ wr.ownsRow w.heap.size 3 1 (.slice A' n c') n (nats (posAt 0 (cs.take k))) ∧ Hid (n = (posAt 0 (cs.take k)).length) ∧ Kept w wr)
  case atStart => exact ⟨0, 0, none, 0, by omega, by omega, rfl, rfl, by omega, by simpa [posAt, nats] using World.ownsRow_nil _ _ _ _, rfl, Keep.refl _ _⟩
  case round =>
    obtain ⟨k, n, A', c', q1, q2, rfl, rfl, q3, qo, qn, qk⟩ := hrel
    by_cases hlt : k < cs.length
    · obtain ⟨g, o, x, hR, rfl, hcx, hxk⟩ := (hs.kept qk).i64 hlt
      have hpu := posAt_push hxk.out
      have Hpu := Lib.hid hpu
      clear hpu
      by_cases hpos : 0 < x
      · go_wp2_with (at_builtin; refine wpList_push rfl _ _ rfl elInt qk A' n c' _ rfl qo [.int .i64 (k : Int)] rfl rfl (by simp [Value.oneCell']) (by omega) ?_; intro A2 c2 w2 ho2 hk2 hg2)
        go_roundg (cs.length - k)
        case measure => exact q1
        case rel => exact ⟨k + 1, n + 1, A2, c2, by omega, by omega, rfl, rfl, by omega, by rw [Hpu.out, if_pos hpos, nats_push]; exact ho2, by show _ = _; rw [Hpu.out, if_pos hpos, List.length_append, ← qn.out]; rfl, hk2⟩
      · go_wp2
        go_roundg (cs.length - k)
        case measure => exact q1
        case rel => exact ⟨k + 1, n, A', c', by omega, by omega, rfl, rfl, by omega, by rw [Hpu.out, if_neg (by omega), List.append_nil]; exact qo, by show _ = _; rw [Hpu.out, if_neg (by omega), List.append_nil]; exact qn.out, qk⟩
    · obtain rfl : k = cs.length := by omega
      rw [List.take_length] at qo qn
      obtain ⟨us, hus⟩ : ∃ us, us = posAt 0 cs := ⟨_, rfl⟩
      have hsorted : us.Pairwise (· < ·) := hus ▸ posAt_sorted _ _
      have hall : ∀ x ∈ us, x < 256 := fun x hx => by have := posAt_mem cs 0 x (hus ▸ hx); omega
      have hmem : ∀ (s : Nat) (v : Int), cs[s]? = some v → 0 < v → s ∈ us := fun s v h1 h2 => by have := posAt_has cs 0 s v h1 h2; rw [Nat.zero_add] at this; exact hus ▸ this
      rw [← hus] at qo qn h2
      have hn2 : 2 ≤ n := by rw [qn.out]; exact h2
      have hn256 : n ≤ 256 := by omega
      obtain ⟨t, rfl⟩ : ∃ t, n = t + 1 := ⟨n - 1, by omega⟩
      obtain ⟨g0, o0, la, hRg, rfl, hcl, hlk⟩ := (Sl.of_own qo).nat (k := t) (by rw [← qn.out]; omega)
      have hla : la = us.getD (us.length - 1) 0 := by rw [← qn.out, Nat.add_sub_cancel, List.getD_eq_getElem?_getD, hlk.out]; rfl
      have hla256 : la < 256 := hall la (List.mem_of_getElem? hlk.out)
      have hul : ∀ j, j < us.length → us.getD j 0 < la + 1 := fun j hj => by have := sorted_last hsorted hj; omega
      have hkw := qk
      have Hs := Lib.hid hsorted
      have Hall := Lib.hid hall
      have Hmem := Lib.hid hmem
      have Hla := Lib.hid hla
      have Hul := Lib.hid hul
      clear hsorted hall hmem hla hul hus h2 q1 q2 hlt hs
      obtain ⟨gb, hgb⟩ : ∃ x, x = wr.heap.size := ⟨_, rfl⟩
      obtain ⟨N, hN⟩ : ∃ x, x = la + 1 := ⟨_, rfl⟩
      have hNi : (la : Int) + 1 = (N : Int) := by omega
      have hwgb : w.heap.size ≤ gb := by rw [hgb]; exact qk.size
      have hlt256 : ∀ w1, Blk w1 gb 3 (madeCells #[Value.int IntKind.i64 0] (N * 1)).toList → Blk w1 gb 3 (nats (lfill N us (fDiff (t + 1)) 0)) := fun w1 h => Blk.cast h (by rw [Nat.mul_one]; have := made_list (.int .i64 0) rfl N; rw [lfill, ← nats_zeros]; exact this)
      by_cases hd : d = true ∧ t + 1 ≤ 12
      · obtain ⟨rfl, h12⟩ := hd
        have Hgb := Lib.hid hgb
        have Hlt := Lib.hid hlt256
        have HN := Lib.hid hN
        have hN257 : N ≤ 256 := by omega
        clear hlt256 hgb hN
        go_wp2_with (at_make; refine wpList_make rfl _ _ rfl elInt .i64 .i64 N N rfl rfl (Nat.le_refl _) (by omega) ?_; intro w1 hk1 hg1; rw [← Hgb.out] at hg1 ⊢)
        have hg2 := Hlt.out w1 hg1
        have hown := (Sl.of_own qo).kept hk1
        clear hg1
        go_loopg [46] (t + 2) (fun gg s46 wr2 => ∃ j : Nat, t + 1 - j < gg ∧ j ≤ t + 1 ∧ s46 = .int .i64 j ∧ Blk wr2 gb 3 (nats (lfill N us (fDiff (t + 1)) j)) ∧ Keep (· = gb) w1 wr2)
        case atStart => exact ⟨0, by omega, by omega, rfl, hg2, Keep.refl _ _⟩
        case round =>
          clear hg2
          obtain ⟨j, r1, r2, rfl, rb, rk⟩ := hrel
          by_cases hj : j < t + 1
          · obtain ⟨gx, ox, u, hRx, hAx, hcu, huk⟩ := (hown.keep rk (fun i _ h1 h2 => by have := Hgb.out; omega)).nat (k := j) (by rw [← qn.out]; exact hj)
            simp only [Option.some.injEq, Addr.mk.injEq] at hAx
            obtain ⟨rfl, rfl, _⟩ := hAx
            have hue : us.getD j 0 = u := by rw [List.getD_eq_getElem?_getD, huk.out]; rfl
            have huN : u < N := by have := Hul.out j (by rw [← qn.out]; exact hj); have := HN.out; omega
            have hset : nats ((lfill N us (fDiff (t + 1)) j).set u (fDiff (t + 1) j)) = nats (lfill N us (fDiff (t + 1)) (j + 1)) := by rw [lfill, hue]
            obtain ⟨y, hy⟩ : ∃ y, y = fDiff (t + 1) j := ⟨_, rfl⟩
            rw [← hy] at hset
            have hy2 : y = min (j + 1) t := by rw [hy, fDiff, Nat.add_sub_cancel]
            have f0 := rb.frozen u
            obtain ⟨v, hv⟩ : ∃ v, wr.cell? ⟨gb, u, none⟩ = some v := by
              rw [rb.cell]; exact ⟨_, List.getElem?_eq_getElem (by rw [nats_length, lfill_length]; exact huN)⟩
            have hmin : min ((j : Int) + 1) (t : Int) = (y : Int) := by omega
            have Hset := Lib.hid hset
            have Hmin := Lib.hid hmin
            clear hset hy hy2 hue huk hmin
            go_wp2
            go_roundg (t + 1 - j)
            case measure => exact r1
            case rel => exact ⟨j + 1, by omega, by omega, rfl, Blk.cast (rb.set u _) (by rw [Hmin.out, nats_set, Hset.out]), rk.set (p := ⟨gb, u, none⟩) (.inl rfl) _⟩
          · obtain rfl : j = t + 1 := by omega
            have hl := diff_lens (us := us) Hs.out (by rw [← Hla.out]; omega) (by rw [← qn.out]; omega) (by rw [← qn.out]; exact h12)
            have hpos := fun s hs => lfill_pos (N := N) (us := us) (f := fDiff (t + 1)) Hs.out (by rw [HN.out]; exact Hul.out) (fun j _ => (fDiff_fine hn2).1) (s := s) hs
            rw [← Hla.out, ← HN.out] at hl
            rw [← qn.out] at hl hpos
            have Hl := Lib.hid hl
            have Hpos := Lib.hid hpos
            clear hl hpos
            go_wp2
            go_ret
            refine ⟨some ⟨gb, 0, none⟩, N, _, _, ?_, Hl.out, fun s v h1 h2 => Hpos.out s (Hmem.out s v h1 h2), ?_, (hkw.trans hk1).then rk (fun j hj h => by omega)⟩
            · rw [lfill_length]; rfl
            · rw [lfill_length]
              exact own_of_blk rb hwgb (by rw [nats_length, lfill_length]) (by unfold maxLen; omega)
      · obtain ⟨m, hm⟩ : ∃ m, m = upLog (t + 1) := ⟨_, rfl⟩
        have hml : ∀ j, 2 ^ j < t + 1 ↔ j < m := fun j => by rw [hm]; exact upLog_lt (by omega)
        have hm1 : 1 ≤ m := by have := (hml 0).1 (by simp; omega); omega
        have hm8 : m ≤ 8 := by
          refine Nat.le_of_not_lt fun h => ?_
          have := (hml 8).2 h
          have e : (2 : Nat) ^ 8 = 256 := by decide
          omega
        obtain ⟨P, hP⟩ : ∃ P, P = 2 ^ m := ⟨_, rfl⟩
        have hPn : t + 1 ≤ P := by rw [hP]; exact Nat.le_of_not_lt (fun h => by have := (hml m).1 h; omega)
        have hP256 : P ≤ 256 := by rw [hP]; exact (Nat.pow_le_pow_right (by decide) hm8 : 2 ^ m ≤ 2 ^ 8)
        have hPi : (2 : Int) ^ m = (P : Int) := by rw [two_pow_int, hP]
        have hlow : 2 ^ (m - 1) < t + 1 := (hml (m - 1)).2 (by omega)
        have Hlow := Lib.hid hlow
        have HP := Lib.hid hP
        have Hml := Lib.hid hml
        have Hgb := Lib.hid hgb
        have hlt2 : ∀ w1, Blk w1 gb 3 (madeCells #[Value.int IntKind.i64 0] (N * 1)).toList → Blk w1 gb 3 (nats (lfill N us (fSame m (P - (t + 1))) 0)) := hlt256
        have Hlt := Lib.hid hlt2
        have HN := Lib.hid hN
        have hN257 : N ≤ 256 := by omega
        have hd3 : d = false ∨ (d = true ∧ 12 < t + 1) := by
          cases d with
          | false => exact .inl rfl
          | true => exact .inr ⟨rfl, Nat.lt_of_not_le fun h => hd ⟨rfl, h⟩⟩
        clear hlt256 hlt2 hgb hN hm hml hP hlow hd
        rcases hd3 with rfl | ⟨rfl, h12⟩
        all_goals
          go_wp2_with (at_make; refine wpList_make rfl _ _ rfl elInt .i64 .i64 N N rfl rfl (Nat.le_refl _) (by omega) ?_; intro w1 hk1 hg1; rw [← Hgb.out] at hg1 ⊢)
          have hg2 := Hlt.out w1 hg1
          have hown := (Sl.of_own qo).kept hk1
          clear hg1
          go_loopg [12] (m + 1) (fun gg s12 wr2 => ∃ j : Nat, m - j < gg ∧ j ≤ m ∧ s12 = .int .i64 j ∧ w1 = wr2)
          case atStart => exact ⟨0, by omega, by omega, rfl, rfl⟩
          case round =>
            obtain ⟨j, r1, r2, rfl, rfl⟩ := hrel
            by_cases hj : j < m
            · obtain ⟨Q, hQ⟩ : ∃ Q, Q = 2 ^ j := ⟨_, rfl⟩
              have hQn : Q < t + 1 := by rw [hQ]; exact (Hml.out j).2 hj
              have hQi : (2 : Int) ^ j = (Q : Int) := by rw [two_pow_int, hQ]
              clear hQ
              go_wp2
              go_roundg (m - j)
              case measure => exact r1
              case rel => exact ⟨j + 1, by omega, by omega, rfl, rfl⟩
            · obtain rfl : m = j := by omega
              obtain ⟨K, hK⟩ : ∃ K, K = P - (t + 1) := ⟨_, rfl⟩
              rw [← hK] at hg2
              have HK := Lib.hid hK
              have hfs : ∀ j, fSame m K j ≠ 0 := fun j => by
                by_cases h1 : m = 1
                · have h2 : P = 2 := by rw [HP.out, h1]
                  unfold fSame
                  rw [if_neg (by omega)]
                  omega
                · unfold fSame
                  split <;> omega
              have Hfs := Lib.hid hfs
              clear hK r1 r2 hj hfs
              go_wp2
              go_loopg [69] (t + 2) (fun gg s69 wr2 => ∃ j : Nat, t + 1 - j < gg ∧ j ≤ t + 1 ∧ s69 = .int .i64 j ∧ Blk wr2 gb 3 (nats (lfill N us (fSame m K) j)) ∧ Keep (· = gb) w1 wr2)
              case atStart => exact ⟨0, by omega, by omega, rfl, hg2, Keep.refl _ _⟩
              case round =>
                clear hg2
                obtain ⟨j, r1, r2, rfl, rb, rk⟩ := hrel
                by_cases hj : j < t + 1
                · obtain ⟨gx, ox, u, hRx, hAx, hcu, huk⟩ := (hown.keep rk (fun i _ h1 h2 => by have := Hgb.out; omega)).nat (k := j) (by rw [← qn.out]; exact hj)
                  simp only [Option.some.injEq, Addr.mk.injEq] at hAx
                  obtain ⟨rfl, rfl, _⟩ := hAx
                  have hue : us.getD j 0 = u := by rw [List.getD_eq_getElem?_getD, huk.out]; rfl
                  have huN : u < N := by have := Hul.out j (by rw [← qn.out]; exact hj); have := HN.out; omega
                  have hset : nats ((lfill N us (fSame m K) j).set u (fSame m K j)) = nats (lfill N us (fSame m K) (j + 1)) := by rw [lfill, hue]
                  have f0 := rb.frozen u
                  obtain ⟨v, hv⟩ : ∃ v, wr.cell? ⟨gb, u, none⟩ = some v := by
                    rw [rb.cell]; exact ⟨_, List.getElem?_eq_getElem (by rw [nats_length, lfill_length]; exact huN)⟩
                  by_cases hjK : j < K
                  · rw [fSame, if_pos hjK] at hset
                    have hc : (j : Int) < (P : Int) - ((t : Int) + 1) := by have := HK.out; omega
                    have hm1i : ((m - 1 : Nat) : Int) = (m : Int) - 1 := by omega
                    have Hset := Lib.hid hset
                    have Hm1i := Lib.hid hm1i
                    clear hset hue huk hm1i
                    go_wp2
                    go_roundg (t + 1 - j)
                    case measure => exact r1
                    case rel => exact ⟨j + 1, by omega, by omega, rfl, Blk.cast ((rb.set u _).set u _) (by rw [List.set_set, ← Hm1i.out, nats_set, Hset.out]), (rk.set (p := ⟨gb, u, none⟩) (.inl rfl) _).set (p := ⟨gb, u, none⟩) (.inl rfl) _⟩
                  · rw [fSame, if_neg hjK] at hset
                    have hc : ¬ (j : Int) < (P : Int) - ((t : Int) + 1) := by have := HK.out; omega
                    have Hset := Lib.hid hset
                    clear hset hue huk
                    go_wp2
                    go_roundg (t + 1 - j)
                    case measure => exact r1
                    case rel => exact ⟨j + 1, by omega, by omega, rfl, Blk.cast (rb.set u _) (by rw [nats_set, Hset.out]), rk.set (p := ⟨gb, u, none⟩) (.inl rfl) _⟩
                · obtain rfl : j = t + 1 := by omega
                  have hl := same_lens (us := us) (m := m) Hs.out (by rw [← Hla.out]; omega) (by rw [← qn.out]; omega) (by rw [← qn.out]; exact Hlow.out) (by rw [← qn.out, ← HP.out]; exact hPn) hm1 (by omega)
                  have hpos := fun s hs => lfill_pos (N := N) (us := us) (f := fSame m K) Hs.out (by rw [HN.out]; exact Hul.out) (fun j _ => Hfs.out j) (s := s) hs
                  rw [← Hla.out, ← HN.out] at hl
                  rw [← qn.out] at hl hpos
                  rw [← HP.out, ← HK.out] at hl
                  have Hl := Lib.hid hl
                  have Hpos := Lib.hid hpos
                  clear hl hpos
                  go_wp2
                  go_ret
                  refine ⟨some ⟨gb, 0, none⟩, N, _, _, ?_, Hl.out, fun s v h1 h2 => Hpos.out s (Hmem.out s v h1 h2), ?_, (hkw.trans hk1).then rk (fun j hj h => by omega)⟩
                  · rw [lfill_length]; rfl
                  · rw [lfill_length]
                    exact own_of_blk rb hwgb (by rw [nats_length, lfill_length]) (by unfold maxLen; omega)
end

section
/-- Bits under way that are read from the end, in the block b. -/
def BB (w : World) (b base k : Nat) (bs : List Bool) : Prop := ∃ A c, Blk w b 218 [.slice A k c] ∧ k = bs.length ∧ w.ownsRow base 4 1 (.slice A k c) k (bools bs)

set_option maxHeartbeats 1000000 in
theorem bbAdd_all (b base v n k0 : Nat) (bs : List Bool) (w : World) (h : BB w b base k0 bs) (hbb : base ≤ b) (hn : n ≤ 16) (hv : v < 1099511627776) (hl : k0 ≤ 1073741824) :
    Calls Tryd.prog 100 #[.pointer (some ⟨b, 0, none⟩), .int .i64 v, .int .i64 n] w fun e w' => e = .returned (.tuple #[]) ∧ BB w' b base (k0 + n) (bs ++ hiBits v n) ∧ Keep (base ≤ ·) w w' ∧ ∀ j t cs, Blk w j t cs → j ≠ b → t ≠ 4 → Blk w' j t cs := by
  obtain ⟨A0, c0, hb0, hk0, ho0⟩ := h
  have Hk0 := Lib.hid hk0
  clear hk0
  go_enter Tryd.func100, Tryd.ntmps100
  go_wp2
  go_loopg [6] (n + 1) (fun g s6 wr => ∃ (i k : Nat) (x : Int) (A : Option Addr) (c : Nat), n - i < g ∧ i ≤ n ∧ s6 = .int .i64 x ∧ x = (n : Int) - 1 - (i : Int) ∧ k ≤ 1073741840 ∧ Hid (k = k0 + i) ∧ Blk wr b 218 [.slice A k c] ∧ wr.ownsRow base 4 1 (.slice A k c) k (bools (bs ++ (hiBits v n).take i)) ∧ Keep (base ≤ ·) w wr ∧ Hid (∀ j t cs, Blk w j t cs → j ≠ b → t ≠ 4 → Blk wr j t cs))
  case atStart => exact ⟨0, k0, (n : Int) - 1, A0, c0, by omega, by omega, rfl, by omega, by omega, rfl, hb0, by simpa using ho0, Keep.refl _ _, fun _ _ _ h _ _ => h⟩
  case round =>
    clear hb0 ho0
    obtain ⟨i, k, x, A, c, q1, q2, rfl, hx, q3, q4, qb, qo, qk, qH⟩ := hrel
    by_cases hlt : i < n
    · obtain ⟨j, hj⟩ : ∃ j : Nat, x = (j : Int) := ⟨(n - 1 - i), by omega⟩
      subst hj
      have hji : j = n - 1 - i := by omega
      have hx1 : (j : Int) - 1 = (n : Int) - 1 - ((i + 1 : Nat) : Int) := by omega
      have Hx1 := Lib.hid hx1
      obtain ⟨d, hd⟩ : ∃ d, d = v / 2 ^ j % 2 := ⟨_, rfl⟩
      obtain ⟨q, hq⟩ : ∃ q, q = v / 2 ^ j := ⟨_, rfl⟩
      have hqi : (v : Int) / 2 ^ j = (q : Int) := by rw [hq, cast_div_pow]
      have hand : Go.bits .and .i64 (q : Int) 1 = (d : Int) := by
        rw [show (1 : Int) = ((1 : Nat) : Int) from rfl, i64_and_nat q 1 (by rw [hq]; have := Nat.div_le_self v (2 ^ j); omega) (by decide), show (1 : Nat) = 2 ^ 1 - 1 by decide, and_mask, hd, hq]
      obtain ⟨y, hy⟩ : ∃ y, y = (d == 1) := ⟨_, rfl⟩
      have hy1 : ((d : Int) == 1) = y := by rw [hy, Bool.eq_iff_iff]; simp only [beq_iff_eq]; omega
      have hy2 : decide ((d : Int) = 1) = y := by rw [hy, Bool.eq_iff_iff]; simp only [beq_iff_eq, decide_eq_true_eq]; omega
      have hy3 : decide (d = 1) = y := by rw [hy, Bool.eq_iff_iff]; simp only [beq_iff_eq, decide_eq_true_eq]
      have hpush : bs ++ (hiBits v n).take (i + 1) = (bs ++ (hiBits v n).take i) ++ [y] := by rw [hiBits_push v hlt, List.append_assoc, hy, hd, hji]
      have c0 : wr.cell? ⟨b, 0, none⟩ = some (.slice A k c) := qb.cell 0
      have f0 := qb.frozen 0
      have hne := own_ne qo qb (by decide)
      have hbl := qb.lt
      have hj16 : j ≤ 16 := by omega
      have Hpush := Lib.hid hpush
      clear hd hq hy hpush hx hji hx1
      go_wp2
      go_region_law (refine step_app rfl _ _ rfl elBool base _ k _ rfl (own_drew (qo.alloc _)) 1 [.bool y] (src_blk Tryd.underlying46 (Blk.new _ 4 [.bool y]).drew 1 1 (by simp) (by simp [Value.oneCell'])) (by unfold maxLen; omega) (by omega) (by simp; omega) ?_; intro A2 c2 w2 ho2 hg2 hor; have qb2 := blk_grown (qb.alloc _).drew hg2 hne; have d0 : w2.cell? ⟨b, 0, none⟩ = some (.slice A k c) := qb2.cell 0; have e0 := qb2.frozen 0)
      all_goals
        go_wp2
        go_roundg (n - i)
        case measure => exact q1
        case rel =>
          have hk2 : Keep (base ≤ ·) wr w2 := ((Keep.refl _ _).alloc _).drew.grown hg2 (fun j hj => .inl (qo.lt j hj).1)
          have hne2 := own_ne ho2 qb2 (by decide)
          refine ⟨i + 1, k + 1, (j : Int) - 1, A2, c2, by omega, by omega, rfl, Hx1.out, by have := q4.out; omega, by show _ = _; rw [q4.out, Nat.add_assoc], qb2.set 0 _, ?_, (qk.trans hk2).set (p := ⟨b, 0, none⟩) (.inl hbb) _, fun j t cs h1 h2 h3 => (blk_grown ((qH.out j t cs h1 h2 h3).alloc _).drew hg2 (own_ne qo (qH.out j t cs h1 h2 h3) (Ne.symm h3))).far h2 _⟩
          rw [Hpush.out, bools_push]
          exact own_keep ho2 ((Keep.refl (· = b) w2).set (p := ⟨b, 0, none⟩) (.inl rfl) _) (fun g hg h => hne2 (h ▸ hg))
    · obtain rfl : i = n := by omega
      have hx0 : x < 0 := by omega
      rw [List.take_of_length_le (by rw [hiBits_length]; exact Nat.le_refl _)] at qo
      clear hx
      go_wp2
      go_end0
      refine ⟨rfl, ⟨A, c, by rw [← q4.out]; exact qb, ?_, by rw [← q4.out]; exact qo⟩, qk, qH.out⟩
      rw [List.length_append, hiBits_length, Hk0.out]

theorem bbAdd_any (b base v n k0 : Nat) (bs : List Bool) (w : World) (h : BB w b base k0 bs) (hbb : base ≤ b) (hn : n ≤ 16) (hv : v < 1099511627776) (hl : k0 ≤ 1073741824) :
    Calls Tryd.prog 100 #[.pointer (some ⟨b, 0, none⟩), .int .i64 v, .int .i64 n] w fun e w' => e = .returned (.tuple #[]) ∧ BB w' b base (k0 + n) (bs ++ hiBits v n) ∧ Keep (base ≤ ·) w w' :=
  (bbAdd_all b base v n k0 bs w h hbb hn hv hl).mono fun _ _ h => ⟨h.1, h.2.1, h.2.2.1⟩
theorem BB.kept {w w' : World} {b base k : Nat} {bs : List Bool} (h : BB w b base k bs) (hk : Kept w w') : BB w' b base k bs := by
  obtain ⟨A, c, h1, h2, h3⟩ := h
  exact ⟨A, c, h1.kept hk, h2, own_kept h3 hk⟩

/-- One bit is set where none is set at it nor below it. -/
theorem bit_set {zs : List Nat} (hz : Bytes zs) {k y : Nat} (hdiv : 2 ^ (k + 1) ∣ num zs) (hy : zs[k / 8]? = some y) :
    y + 2 ^ (k % 8) < 256 ∧ y ||| 2 ^ (k % 8) = y + 2 ^ (k % 8) ∧ num (zs.set (k / 8) (y + 2 ^ (k % 8))) = num zs + 2 ^ k ∧ Bytes (zs.set (k / 8) (y + 2 ^ (k % 8))) := by
  have h1 := num_byte hz (k / 8)
  rw [List.getD_eq_getElem?_getD, hy, Option.getD_some] at h1
  obtain ⟨c, hc⟩ := hdiv
  have hy256 : y < 256 := hz y (List.mem_of_getElem? hy)
  have hr : k % 8 + 1 ≤ 8 := by omega
  have e1 : num zs / 2 ^ (8 * (k / 8)) = 2 ^ (k % 8 + 1) * c := by
    rw [hc, show k + 1 = 8 * (k / 8) + (k % 8 + 1) by omega, Nat.pow_add, Nat.mul_assoc, Nat.mul_div_cancel_left _ (pow_pos' _)]
  have e2 : 2 ^ (k % 8 + 1) ∣ y := by
    rw [← h1, e1, show (256 : Nat) = 2 ^ 8 by decide]
    exact (Nat.dvd_mod_iff (Nat.pow_dvd_pow 2 hr)).2 (Nat.dvd_mul_right _ _)
  obtain ⟨q, rfl⟩ := e2
  have e3 : 2 ^ (k % 8) ≤ 2 ^ 7 := Nat.pow_le_pow_right (by decide) (by omega)
  have e7 : (2 ^ 7 : Nat) = 128 := by decide
  have e8 : 2 ^ (k % 8 + 1) * 2 ^ (7 - k % 8) = 256 := by rw [← Nat.pow_add, show k % 8 + 1 + (7 - k % 8) = 8 by omega]
  have hq : q < 2 ^ (7 - k % 8) := Nat.lt_of_mul_lt_mul_left (a := 2 ^ (k % 8 + 1)) (by rw [e8]; exact hy256)
  have hq2 : 2 ^ (k % 8 + 1) * (q + 1) ≤ 256 := by rw [← e8]; exact Nat.mul_le_mul_left _ hq
  have e9 : 2 ^ (k % 8 + 1) = 2 * 2 ^ (k % 8) := by rw [Nat.pow_succ, Nat.mul_comm]
  have hlt : 2 ^ (k % 8 + 1) * q + 2 ^ (k % 8) < 256 := by
    rw [Nat.mul_add, Nat.mul_one, e9] at hq2
    have := pow_pos' (k % 8)
    rw [e9]
    omega
  have h4 := num_set zs (k / 8) _ (2 ^ (k % 8 + 1) * q + 2 ^ (k % 8)) hy
  rw [Nat.add_mul, ← Nat.pow_add, show k % 8 + 8 * (k / 8) = k by omega] at h4
  refine ⟨hlt, ?_, by omega, fun x hx => ?_⟩
  · have := or_shift (a := 2 ^ (k % 8)) (c := q) (n := k % 8 + 1) (by rw [e9]; have := pow_pos' (k % 8); omega)
    rw [Nat.or_comm, Nat.mul_comm, this, Nat.add_comm]
  · rcases List.mem_or_eq_of_mem_set hx with hx | rfl
    · exact hz x hx
    · exact hlt

/-- What (*backBits).bytes hands back. -/
def BbPost (w : World) (bs : List Bool) (e : Ending) (w' : World) : Prop :=
  ∃ g zs, List.length zs = bs.length / 8 + 1 ∧ e = .returned (.slice (some ⟨g, 0, none⟩) (bs.length / 8 + 1) (bs.length / 8 + 1)) ∧ w.heap.size ≤ g ∧ Blk w' g 5 (u8s zs) ∧ Bytes zs ∧ num zs = marked bs ∧ Kept w w'
theorem hnum_take {bs : List Bool} {k j : Nat} {x : Bool} (hk : bs.length = k) (hx : bs[j]? = some x) (n : Nat) (hn : n = 2 ^ k + 2 ^ (k - j) * hnum (bs.take j)) :
    n + (if x then 2 ^ (k - 1 - j) else 0) = 2 ^ k + 2 ^ (k - (j + 1)) * hnum (bs.take (j + 1)) := by
  have hj := (List.getElem?_eq_some_iff.1 hx).1
  rw [take_push hx, hnum_push, hn, show k - 1 - j = k - (j + 1) by omega, show k - j = (k - (j + 1)) + 1 by omega, Nat.pow_succ]
  generalize 2 ^ (k - (j + 1)) = p, hnum (bs.take j) = h
  cases x
  · simp only [Bool.toNat_false, Nat.zero_add, Bool.false_eq_true, if_false, Nat.add_zero, Nat.mul_assoc]
  · simp only [Bool.toNat_true, if_true, Nat.mul_add, Nat.mul_one, Nat.mul_assoc]
    omega

set_option maxHeartbeats 2000000 in
set_option maxRecDepth 4000 in
theorem bbBytes_any (b base k : Nat) (bs : List Bool) (w : World) (h : BB w b base k bs) (hk : k ≤ 1073741824) :
    Calls Tryd.prog 101 #[.pointer (some ⟨b, 0, none⟩)] w (BbPost w bs) := by
  obtain ⟨A, c, hb, hkl, ho⟩ := h
  obtain ⟨q0, hq0⟩ : ∃ x, x = k / 8 := ⟨_, rfl⟩
  obtain ⟨nB, hnB⟩ : ∃ x, x = q0 + 1 := ⟨_, rfl⟩
  obtain ⟨r0, hr0⟩ : ∃ x, x = k % 8 := ⟨_, rfl⟩
  obtain ⟨s0, hs0⟩ : ∃ x, x = 2 ^ r0 := ⟨_, rfl⟩
  have hs128 : s0 ≤ 128 := by rw [hs0]; exact (Nat.pow_le_pow_right (by decide) (by omega) : 2 ^ r0 ≤ 2 ^ 7)
  have hq1 : (k : Int) / 8 = (q0 : Int) := by omega
  have hq2 : (k : Int).tdiv 8 = (q0 : Int) := by rw [Int.tdiv_eq_ediv_of_nonneg (by omega)]; exact hq1
  have hr1 : (k : Int) % 8 = (r0 : Int) := by omega
  have hr2 : (k : Int).tmod 8 = (r0 : Int) := by rw [Int.tmod_eq_emod_of_nonneg (by omega)]; exact hr1
  have hsi : (2 : Int) ^ r0 = (s0 : Int) := by rw [two_pow_int, hs0]
  have hsw : IntKind.u8.wrap (s0 : Int) = (s0 : Int) := by rw [IntKind.wrap_u8]; omega
  have hni : (q0 : Int) + 1 = (nB : Int) := by omega
  have hor0 : Go.bits .or .u8 0 (s0 : Int) = (s0 : Int) := by
    have := u8_or_nat 0 s0 (by omega) (by omega)
    rw [Nat.zero_or] at this
    exact this
  have d0 : w.cell? ⟨b, 0, none⟩ = some (.slice A k c) := hb.cell 0
  have hz0 : Bytes (List.replicate nB 0) := fun x hx => by rw [List.mem_replicate] at hx; omega
  have hb0 := bit_set hz0 (k := k) (y := 0) (by rw [num_zeros]; exact Nat.dvd_zero _) (by rw [List.getElem?_replicate, if_pos (by omega)])
  rw [num_zeros, ← hq0, ← hr0, ← hs0, Nat.zero_add, Nat.zero_add] at hb0
  have Hb0 := Lib.hid hb0
  have Hkl := Lib.hid hkl
  have HnB : Hid (nB = k / 8 + 1) := by show _ = _; omega
  have hnBl : nB ≤ 1073741824 := by omega
  have hq0n : q0 < nB := by omega
  have hwb := hb.lt
  clear hz0 hb0 hkl hq0 hr0 hs0 hnB
  go_enter Tryd.func101, Tryd.ntmps101
  go_wp2_with (at_make; refine wpList_make rfl _ _ rfl elByte .i64 .i64 nB nB rfl rfl (Nat.le_refl _) (by omega) ?_; intro w1 hk1 hg1; have d1 : w1.cell? ⟨b, 0, none⟩ = some (.slice A k c) := (hb.kept hk1).cell 0)
  obtain ⟨g, hg⟩ : ∃ g, g = w.heap.size := ⟨_, rfl⟩
  rw [← hg] at hg1 ⊢
  have hg2 : Blk w1 g 5 (u8s (List.replicate nB 0)) := Blk.cast hg1 (by rw [Nat.mul_one, made_list _ rfl]; simp [u8s])
  have hso : Sl w1 (fun j => base ≤ j ∧ j < w.heap.size) A (bools bs) := (Sl.of_own ho).kept hk1
  have hb1 := hb.kept hk1
  have Hg := Lib.hid hg
  have e0 : w1.cell? ⟨g, q0, none⟩ = some (.int .u8 0) := by rw [hg2.cell, u8s, List.getElem?_map, List.getElem?_replicate, if_pos hq0n]; rfl
  have f0 := hg2.frozen q0
  have hgb : g ≠ b := by omega
  have hbg : b ≠ g := by omega
  clear hg hg1 d0 hb ho
  go_region
  go_wp2
  go_loopg [32] (k + 1) (fun g5 s wr2 => ∃ (j : Nat) (zs : List Nat), k - j < g5 ∧ j ≤ k ∧ s = .int .i64 j ∧ Hid (List.length zs = nB) ∧ Hid (Bytes zs) ∧ Hid (num zs = 2 ^ k + 2 ^ (k - j) * hnum (bs.take j)) ∧ Blk wr2 g 5 (u8s zs) ∧ Keep (· = g) w1 wr2)
  case atStart => exact ⟨0, (List.replicate nB 0).set q0 s0, by omega, by omega, rfl, (by show _ = _; rw [List.length_set, List.length_replicate]), Hb0.out.2.2.2, (by show _ = _; rw [Hb0.out.2.2.1]; simp [hnum_nil]), Blk.cast (hg2.set q0 _).drew (by simp [u8s, List.map_set]), ((Keep.refl (· = g) w1).set (p := ⟨g, q0, none⟩) (.inl rfl) _).drew⟩
  case round =>
    clear hg2 e0 f0
    obtain ⟨j, zs, r1, r2, rfl, hzl, hzb, hzn, rg, rk⟩ := hrel
    have d0 : wr.cell? ⟨b, 0, none⟩ = some (.slice A k c) := rk.cell d1 hbg
    by_cases hj : j < k
    · obtain ⟨x, hx⟩ : ∃ x, bs[j]? = some x := ⟨_, List.getElem?_eq_getElem (by rw [← Hkl.out]; exact hj)⟩
      obtain ⟨gb, ob, hRb, rfl, hcb⟩ := (hso.keep rk (fun i _ hi h => by have := Hg.out; omega)).at_ (k := j) (u := .bool x) (by rw [bools, List.getElem?_map, hx]; rfl)
      have hpush := hnum_take Hkl.out.symm hx _ hzn.out
      have Hpush := Lib.hid hpush
      clear hpush hx
      obtain ⟨kk, hkk⟩ : ∃ kk, kk = k - 1 - j := ⟨_, rfl⟩
      have hkki : (k : Int) - 1 - (j : Int) = (kk : Int) := by omega
      rw [← hkk] at Hpush
      cases x with
      | false =>
        clear hkk
        go_wp2
        go_roundg (k - j)
        case measure => exact r1
        case rel => exact ⟨j + 1, zs, by omega, by omega, rfl, hzl.out, hzb.out, (by show _ = _; have := Hpush.out; simpa using this), rg, rk⟩
      | true =>
        have hdiv : 2 ^ (kk + 1) ∣ num zs := by
          rw [hzn.out, show kk + 1 = k - j by omega]
          exact Nat.dvd_add (Nat.pow_dvd_pow 2 (by omega)) (Nat.dvd_mul_right _ _)
        have hjl : kk / 8 < zs.length := by rw [hzl.out, HnB.out]; omega
        obtain ⟨y, hy⟩ : ∃ y, zs[kk / 8]? = some y := ⟨_, List.getElem?_eq_getElem hjl⟩
        obtain ⟨hs1, hs2, hs3, hs4⟩ := bit_set hzb.out hdiv hy
        obtain ⟨q, hq⟩ : ∃ q, q = kk / 8 := ⟨_, rfl⟩
        obtain ⟨s, hs⟩ : ∃ s, s = 2 ^ (kk % 8) := ⟨_, rfl⟩
        rw [← hs] at hs1 hs2 hs3 hs4
        rw [← hq] at hy hs3 hs4 hjl
        have hor : Go.bits .or .u8 (y : Int) (s : Int) = ((y + s : Nat) : Int) := by
          rw [u8_or_nat y s (by omega) (by omega), hs2]
        obtain ⟨r, hr⟩ : ∃ r, r = kk % 8 := ⟨_, rfl⟩
        rw [← hr] at hs
        have hq1 : (kk : Int) / 8 = (q : Int) := by omega
        have hq2 : (kk : Int).tdiv 8 = (q : Int) := by rw [Int.tdiv_eq_ediv_of_nonneg (by omega)]; exact hq1
        have hr1 : (kk : Int) % 8 = (r : Int) := by omega
        have hr2 : (kk : Int).tmod 8 = (r : Int) := by rw [Int.tmod_eq_emod_of_nonneg (by omega)]; exact hr1
        have hsi : (2 : Int) ^ r = (s : Int) := by rw [two_pow_int, hs]
        have hsw : IntKind.u8.wrap (s : Int) = (s : Int) := by rw [IntKind.wrap_u8]; omega
        have e0 : wr.cell? ⟨g, q, none⟩ = some (.int .u8 (y : Int)) := by rw [rg.cell]; simp [u8s, hy]
        have f0 := rg.frozen q
        have hql : q < nB := by have := hzl.out; omega
        have Hs3 := Lib.hid hs3
        have Hs4 := Lib.hid hs4
        clear hs3 hs4 hy hjl hq hr hs hs2 hdiv hkk
        go_wp2
        go_region
        go_wp2
        go_roundg (k - j)
        case measure => exact r1
        case rel =>
          refine ⟨j + 1, zs.set q (y + s), by omega, by omega, rfl, (by show _ = _; rw [List.length_set]; exact hzl.out), Hs4.out, ?_, ?_, (rk.set (p := ⟨g, q, none⟩) (.inl rfl) _).drew⟩
          · show _ = _
            rw [Hs3.out]
            have := Hpush.out
            simpa using this
          · refine Blk.cast (rg.set q _).drew ?_
            simp [u8s, List.map_set]
    · obtain rfl : j = k := by omega
      rw [List.take_of_length_le (by rw [← Hkl.out]; exact Nat.le_refl _), Nat.sub_self, Nat.pow_zero, Nat.one_mul] at hzn
      go_wp2
      go_ret
      refine ⟨g, zs, by rw [hzl.out, HnB.out, Hkl.out], ?_, by rw [Hg.out]; exact Nat.le_refl _, rg, hzb.out, by rw [hzn.out, marked, ← Hkl.out], ?_⟩
      · rw [← Hkl.out, ← HnB.out]; rfl
      · exact (hk1.then rk (fun i hi h => by have := Hg.out; omega))
end

section
/-- A state of a symbol that leads to a state. -/
def FitsTo (tb : List (Nat × Nat × Nat)) (s t a : Nat) : Prop := symOf tb a = s ∧ baseS tb a ≤ t ∧ t < baseS tb a + 2 ^ bitsS tb a

set_option maxHeartbeats 2000000 in
set_option maxRecDepth 4000 in
theorem before_to (g L s t : Nat) (ps : List Int) (w : World) (hg : Blk w g 177 (flat cel3 (tab L ps))) (h : IsShares L ps) (hL : L ≤ 6) (hs : ps.getD s 0 ≠ 0) (ht : t < 2 ^ L) :
    Calls Tryd.prog 99 #[.agg #[.slice (some ⟨g, 0, none⟩) (2 ^ L) (2 ^ L), .int .i64 (L : Int)], .int .i64 (s : Int), .int .i64 (t : Int)] w fun e w' => ∃ a : Nat, e = .returned (.int .i64 (a : Int)) ∧ a < 2 ^ L ∧ FitsTo (tab L ps) s t a ∧ Kept w w' := by
  obtain ⟨N, hN⟩ : ∃ N, N = 2 ^ L := ⟨_, rfl⟩
  have hN64 : N ≤ 64 := by rw [hN]; exact (Nat.pow_le_pow_right (by decide) hL : 2 ^ L ≤ 2 ^ 6)
  obtain ⟨tb, htb⟩ : ∃ tb, tb = tab L ps := ⟨_, rfl⟩
  have htl : tb.length = N := by rw [htb, tab_length, hN]
  have hex : ∃ a, a < N ∧ FitsTo tb s t a := by
    obtain ⟨a, h1, h2, h3, h4⟩ := state_to h hs ht
    exact ⟨a, by rw [hN]; exact h1, by rw [htb]; exact ⟨h2, h3, h4⟩⟩
  have hbl : ∀ a, a < N → bitsS tb a ≤ L ∧ baseS tb a + 2 ^ bitsS tb a ≤ N := fun a ha => by
    have h1 := tab_next h (a := a) (x := 2 ^ bitsS (tab L ps) a - 1) (by rw [← hN]; exact ha) (by have := pow_pos' (bitsS (tab L ps) a); omega)
    rw [← htb, ← hN] at h1
    have := pow_pos' (bitsS tb a)
    omega
  rw [← htb] at hg ⊢
  rw [← hN] at ht ⊢
  have Hex := Lib.hid hex
  have Hbl := Lib.hid hbl
  have Htl := Lib.hid htl
  have hgw := hg.lt
  clear hex hbl htl htb hN hs h
  go_enter Tryd.func99, Tryd.ntmps99
  go_wp2
  obtain ⟨tbk, htbk⟩ : ∃ x, x = w.heap.size := ⟨_, rfl⟩
  rw [← htbk]
  obtain ⟨W, hW⟩ : ∃ x, x = w.alloc (.cells #[.slice (some ⟨g, 0, none⟩) N N, .int .i64 (L : Int)] 104) := ⟨_, rfl⟩
  rw [← hW]
  have hbW : Blk W tbk 104 [.slice (some ⟨g, 0, none⟩) N N, .int .i64 (L : Int)] := by rw [hW, htbk]; exact Blk.new w 104 _
  have hkW : Kept w W := by rw [hW]; exact (Keep.refl _ _).alloc _
  have hgW := hg.kept hkW
  have hgt : ¬ g = tbk := by omega
  have htg : ¬ tbk = g := by omega
  clear hW htbk hg
  go_loopg [7, 13] (N + 1) (fun f s7 s13 wr => ∃ (i : Nat) (best : Int), N - i < f ∧ i ≤ N ∧ s13 = .int .i64 i ∧ s7 = .int .i64 best ∧ Hid ((best = -1 ∧ ∀ j, j < i → ¬ FitsTo tb s t j) ∨ ∃ b : Nat, best = (b : Int) ∧ b < i ∧ FitsTo tb s t b) ∧ Kept W wr)
  case atStart => exact ⟨0, -1, by omega, by omega, rfl, rfl, .inl ⟨rfl, fun j hj => by omega⟩, Keep.refl _ _⟩
  case round =>
    obtain ⟨i, best, q1, q2, rfl, rfl, qb, qk⟩ := hrel
    by_cases hlt : i < N
    · have hi : tb[i]? = some (symOf tb i, bitsS tb i, baseS tb i) := tab_get (by rw [Htl.out]; exact hlt)
      obtain ⟨sy, hsy⟩ : ∃ x, x = symOf tb i := ⟨_, rfl⟩
      obtain ⟨bt, hbt⟩ : ∃ x, x = bitsS tb i := ⟨_, rfl⟩
      obtain ⟨ba, hba⟩ : ∃ x, x = baseS tb i := ⟨_, rfl⟩
      have hb2 := Hbl.out i hlt
      rw [← hsy, ← hbt, ← hba] at hi
      rw [← hbt, ← hba] at hb2
      have hgr := hgW.kept qk
      have e0 : wr.cell? ⟨g, i * 3, none⟩ = some (.int .i64 (sy : Int)) := hgr.row cel3_length (j := 0) hi rfl
      have e1 : wr.cell? ⟨g, i * 3 + 1, none⟩ = some (.int .i64 (bt : Int)) := hgr.row cel3_length (j := 1) hi rfl
      have e2 : wr.cell? ⟨g, i * 3 + 2, none⟩ = some (.int .i64 (ba : Int)) := hgr.row cel3_length (j := 2) hi rfl
      have d0 : wr.cell? ⟨tbk, 0, none⟩ = some (.slice (some ⟨g, 0, none⟩) N N) := (hbW.kept qk).cell 0
      obtain ⟨P, hP⟩ : ∃ P, P = 2 ^ bt := ⟨_, rfl⟩
      have hPi : (2 : Int) ^ bt = (P : Int) := by rw [two_pow_int, hP]
      rw [← hP] at hb2
      have hfit : FitsTo tb s t i ↔ sy = s ∧ ba ≤ t ∧ t < ba + P := by rw [hsy, hba, hP, hbt]; rfl
      have Hfit := Lib.hid hfit
      have hgs := hgr.lt
      have hts := (hbW.kept qk).lt
      clear hi hfit hP hsy hbt hba hgr
      have g0 : decide ((t : Int) < 0) = false := decide_eq_false (by omega)
      have w1 : IntKind.i64.wrap (P : Int) = P := by rw [IntKind.wrap_i64]; omega
      have w2 : IntKind.i64.wrap ((ba : Int) + (P : Int)) = (ba : Int) + (P : Int) := by rw [IntKind.wrap_i64]; omega
      by_cases h1 : sy = s
      · by_cases h2 : ba ≤ t
        · have g1 : decide (ba ≤ t) = true := decide_eq_true h2
          have g2 : decide ((ba : Int) ≤ (t : Int)) = true := decide_eq_true (by omega)
          by_cases h3 : t < ba + P
          · have g3 : decide (t < ba + P) = true := decide_eq_true h3
            have g4 : decide ((t : Int) < (ba : Int) + (P : Int)) = true := decide_eq_true (by omega)
            go_wp2
            go_quiet (fail)
            go_wp2
            go_roundg (N - i)
            case measure => exact q1
            case rel => exact ⟨i + 1, (i : Int), by omega, by omega, rfl, rfl, .inr ⟨i, rfl, by omega, Hfit.out.2 ⟨h1, h2, h3⟩⟩, (qk.alloc _).drewN _⟩
          · have g3 : decide (t < ba + P) = false := decide_eq_false h3
            have g4 : decide ((t : Int) < (ba : Int) + (P : Int)) = false := decide_eq_false (by omega)
            have Hno : Hid (Hid ((best = -1 ∧ ∀ j, j < i + 1 → ¬ FitsTo tb s t j) ∨ ∃ b : Nat, best = (b : Int) ∧ b < i + 1 ∧ FitsTo tb s t b)) := by
              show _ ∨ _
              rcases qb.out with ⟨e1, e2⟩ | ⟨b, e1, e2, e3⟩
              · refine .inl ⟨e1, fun j hj => ?_⟩
                by_cases hji : j = i
                · subst hji
                  rw [Hfit.out]; omega
                · exact e2 j (by omega)
              · exact .inr ⟨b, e1, by omega, e3⟩
            go_wp2
            go_quiet (fail)
            go_wp2
            go_roundg (N - i)
            case measure => exact q1
            case rel => exact ⟨i + 1, best, by omega, by omega, rfl, rfl, Hno.out, (qk.alloc _).drewN _⟩
        · have g1 : decide (ba ≤ t) = false := decide_eq_false h2
          have g2 : decide ((ba : Int) ≤ (t : Int)) = false := decide_eq_false (by omega)
          have Hno : Hid (Hid ((best = -1 ∧ ∀ j, j < i + 1 → ¬ FitsTo tb s t j) ∨ ∃ b : Nat, best = (b : Int) ∧ b < i + 1 ∧ FitsTo tb s t b)) := by
            show _ ∨ _
            rcases qb.out with ⟨e1, e2⟩ | ⟨b, e1, e2, e3⟩
            · refine .inl ⟨e1, fun j hj => ?_⟩
              by_cases hji : j = i
              · subst hji
                rw [Hfit.out]; omega
              · exact e2 j (by omega)
            · exact .inr ⟨b, e1, by omega, e3⟩
          go_wp2
          go_quiet (fail)
          go_wp2
          go_roundg (N - i)
          case measure => exact q1
          case rel => exact ⟨i + 1, best, by omega, by omega, rfl, rfl, Hno.out, (qk.alloc _).drewN _⟩
      · have hne : ((sy : Int) != (s : Int)) = true := bne_iff_ne.2 (by omega)
        have Hno : Hid (Hid ((best = -1 ∧ ∀ j, j < i + 1 → ¬ FitsTo tb s t j) ∨ ∃ b : Nat, best = (b : Int) ∧ b < i + 1 ∧ FitsTo tb s t b)) := by
          show _ ∨ _
          rcases qb.out with ⟨e1, e2⟩ | ⟨b, e1, e2, e3⟩
          · refine .inl ⟨e1, fun j hj => ?_⟩
            by_cases hji : j = i
            · subst hji
              rw [Hfit.out]; omega
            · exact e2 j (by omega)
          · exact .inr ⟨b, e1, by omega, e3⟩
        go_wp2
        go_roundg (N - i)
        case measure => exact q1
        case rel => exact ⟨i + 1, best, by omega, by omega, rfl, rfl, Hno.out, qk.alloc _⟩
    · obtain rfl : i = N := by omega
      obtain ⟨b, rfl, hb1, hb2⟩ : ∃ b : Nat, best = (b : Int) ∧ b < i ∧ FitsTo tb s t b := by
        rcases qb.out with ⟨e1, e2⟩ | h
        · obtain ⟨a, ha, hf⟩ := Hex.out
          exact absurd hf (e2 a ha)
        · exact h
      have Hb2 := Lib.hid hb2
      clear hb2
      go_wp2
      go_ret
      exact ⟨b, rfl, hb1, Hb2.out, hkW.trans qk⟩
set_option maxHeartbeats 2000000 in
set_option maxRecDepth 4000 in
theorem before_last (g L s : Nat) (ps : List Int) (w : World) (hg : Blk w g 177 (flat cel3 (tab L ps))) (h : IsShares L ps) (hL : L ≤ 6) (hs : ps.getD s 0 ≠ 0) (hslt : (ps.getD s 0).natAbs < 2 ^ L) :
    Calls Tryd.prog 99 #[.agg #[.slice (some ⟨g, 0, none⟩) (2 ^ L) (2 ^ L), .int .i64 (L : Int)], .int .i64 (s : Int), .int .i64 (-1)] w fun e w' => ∃ a : Nat, e = .returned (.int .i64 (a : Int)) ∧ a < 2 ^ L ∧ symOf (tab L ps) a = s ∧ 0 < bitsS (tab L ps) a ∧ Kept w w' := by
  obtain ⟨N, hN⟩ : ∃ N, N = 2 ^ L := ⟨_, rfl⟩
  have hN64 : N ≤ 64 := by rw [hN]; exact (Nat.pow_le_pow_right (by decide) hL : 2 ^ L ≤ 2 ^ 6)
  obtain ⟨tb, htb⟩ : ∃ tb, tb = tab L ps := ⟨_, rfl⟩
  have htl : tb.length = N := by rw [htb, tab_length, hN]
  have hex : ∃ a, a < N ∧ symOf tb a = s ∧ 0 < bitsS tb a := by
    obtain ⟨a, h1, h2, h3⟩ := state_bits h hs hslt
    exact ⟨a, by rw [hN]; exact h1, by rw [htb]; exact ⟨h2, h3⟩⟩
  have hbl : ∀ a, a < N → bitsS tb a ≤ L ∧ baseS tb a + 2 ^ bitsS tb a ≤ N := fun a ha => by
    have h1 := tab_next h (a := a) (x := 2 ^ bitsS (tab L ps) a - 1) (by rw [← hN]; exact ha) (by have := pow_pos' (bitsS (tab L ps) a); omega)
    rw [← htb, ← hN] at h1
    have := pow_pos' (bitsS tb a)
    omega
  rw [← htb] at hg ⊢
  rw [← hN]
  have Hex := Lib.hid hex
  have Hbl := Lib.hid hbl
  have Htl := Lib.hid htl
  have hgw := hg.lt
  clear hex hbl htl htb hN hs hslt h
  go_enter Tryd.func99, Tryd.ntmps99
  go_wp2
  obtain ⟨tbk, htbk⟩ : ∃ x, x = w.heap.size := ⟨_, rfl⟩
  rw [← htbk]
  obtain ⟨W, hW⟩ : ∃ x, x = w.alloc (.cells #[.slice (some ⟨g, 0, none⟩) N N, .int .i64 (L : Int)] 104) := ⟨_, rfl⟩
  rw [← hW]
  have hbW : Blk W tbk 104 [.slice (some ⟨g, 0, none⟩) N N, .int .i64 (L : Int)] := by rw [hW, htbk]; exact Blk.new w 104 _
  have hkW : Kept w W := by rw [hW]; exact (Keep.refl _ _).alloc _
  have hgW := hg.kept hkW
  have hgt : ¬ g = tbk := by omega
  have htg : ¬ tbk = g := by omega
  clear hW htbk hg
  go_loopg [7, 13] (N + 1) (fun f s7 s13 wr => ∃ (i : Nat) (best : Int), N - i < f ∧ i ≤ N ∧ s13 = .int .i64 i ∧ s7 = .int .i64 best ∧ ((best = -1 ∧ Hid (∀ j, j < i → ¬ symOf tb j = s)) ∨ ∃ b : Nat, best = (b : Int) ∧ b < i ∧ Hid (symOf tb b = s ∧ ∀ j, j < i → symOf tb j = s → bitsS tb j ≤ bitsS tb b)) ∧ Kept W wr)
  case atStart => exact ⟨0, -1, by omega, by omega, rfl, rfl, .inl ⟨rfl, fun j hj => by omega⟩, Keep.refl _ _⟩
  case round =>
    obtain ⟨i, best, q1, q2, rfl, rfl, qb, qk⟩ := hrel
    by_cases hlt : i < N
    · have hi : tb[i]? = some (symOf tb i, bitsS tb i, baseS tb i) := tab_get (by rw [Htl.out]; exact hlt)
      obtain ⟨sy, hsy⟩ : ∃ x, x = symOf tb i := ⟨_, rfl⟩
      obtain ⟨bt, hbt⟩ : ∃ x, x = bitsS tb i := ⟨_, rfl⟩
      obtain ⟨ba, hba⟩ : ∃ x, x = baseS tb i := ⟨_, rfl⟩
      have hb2 := Hbl.out i hlt
      rw [← hsy, ← hbt, ← hba] at hi
      rw [← hbt, ← hba] at hb2
      have hgr := hgW.kept qk
      have e0 : wr.cell? ⟨g, i * 3, none⟩ = some (.int .i64 (sy : Int)) := hgr.row cel3_length (j := 0) hi rfl
      have e1 : wr.cell? ⟨g, i * 3 + 1, none⟩ = some (.int .i64 (bt : Int)) := hgr.row cel3_length (j := 1) hi rfl
      have e2 : wr.cell? ⟨g, i * 3 + 2, none⟩ = some (.int .i64 (ba : Int)) := hgr.row cel3_length (j := 2) hi rfl
      have d0 : wr.cell? ⟨tbk, 0, none⟩ = some (.slice (some ⟨g, 0, none⟩) N N) := (hbW.kept qk).cell 0
      obtain ⟨P, hP⟩ : ∃ P, P = 2 ^ bt := ⟨_, rfl⟩
      have hPi : (2 : Int) ^ bt = (P : Int) := by rw [two_pow_int, hP]
      rw [← hP] at hb2
      have hfit : symOf tb i = s ↔ sy = s := by rw [hsy]
      have Hfit := Lib.hid hfit
      have Hbt := Lib.hid hbt
      have hgs := hgr.lt
      have hts := (hbW.kept qk).lt
      have g0 : decide ((-1 : Int) < 0) = true := by decide
      have g1 : decide ((ba : Int) ≤ -1) = false := decide_eq_false (by omega)
      by_cases h1 : sy = s
      · rcases qb with ⟨rfl, qb⟩ | ⟨b, rfl, hbi, qb⟩
        · clear hi hfit hP hsy hbt hba hgr
          go_wp2
          go_quiet (fail)
          go_wp2
          go_roundg (N - i)
          case measure => exact q1
          case rel =>
            refine ⟨i + 1, (i : Int), by omega, by omega, rfl, rfl, .inr ⟨i, rfl, by omega, Hfit.out.2 h1, fun j hj hsj => ?_⟩, (qk.alloc _).drewN _⟩
            by_cases hji : j = i
            · subst hji; exact Nat.le_refl _
            · exact absurd hsj (qb.out j (by omega))
        · have hbg := tab_get (tb := tb) (a := b) (by rw [Htl.out]; omega)
          obtain ⟨b1, hb1⟩ : ∃ x, x = bitsS tb b := ⟨_, rfl⟩
          have eb : wr.cell? ⟨g, b * 3 + 1, none⟩ = some (.int .i64 (b1 : Int)) := hgr.row cel3_length (j := 1) hbg (by rw [hb1]; rfl)
          have g2 : decide ((b : Int) < 0) = false := decide_eq_false (by omega)
          have hbN : b < N := by omega
          have Hb1 := Lib.hid hb1
          clear hi hfit hP hsy hbt hba hgr hb1 hbg
          by_cases h2 : b1 < bt
          · have g3 : decide (b1 < bt) = true := decide_eq_true h2
            have g4 : decide ((b1 : Int) < (bt : Int)) = true := decide_eq_true (by omega)
            go_wp2
            go_quiet (fail)
            go_wp2
            go_roundg (N - i)
            case measure => exact q1
            case rel =>
              refine ⟨i + 1, (i : Int), by omega, by omega, rfl, rfl, .inr ⟨i, rfl, by omega, Hfit.out.2 h1, fun j hj hsj => ?_⟩, (qk.alloc _).drewN _⟩
              by_cases hji : j = i
              · subst hji; exact Nat.le_refl _
              · have := qb.out.2 j (by omega) hsj
                have := Hb1.out
                have := Hbt.out
                omega
          · have g3 : decide (b1 < bt) = false := decide_eq_false h2
            have g4 : decide ((b1 : Int) < (bt : Int)) = false := decide_eq_false (by omega)
            go_wp2
            go_quiet (fail)
            go_wp2
            go_roundg (N - i)
            case measure => exact q1
            case rel =>
              refine ⟨i + 1, (b : Int), by omega, by omega, rfl, rfl, .inr ⟨b, rfl, by omega, qb.out.1, fun j hj hsj => ?_⟩, (qk.alloc _).drewN _⟩
              by_cases hji : j = i
              · subst hji
                have := Hb1.out
                have := Hbt.out
                omega
              · exact qb.out.2 j (by omega) hsj
      · have hne : ((sy : Int) != (s : Int)) = true := bne_iff_ne.2 (by omega)
        have Qb := Lib.hid qb
        clear hi hfit hP hsy hbt hba hgr qb
        go_wp2
        go_roundg (N - i)
        case measure => exact q1
        case rel =>
          refine ⟨i + 1, best, by omega, by omega, rfl, rfl, ?_, qk.alloc _⟩
          rcases Qb.out with ⟨e1, qb⟩ | ⟨b, e1, hbi, qb⟩
          · refine .inl ⟨e1, fun j hj => ?_⟩
            by_cases hji : j = i
            · subst hji
              rw [Hfit.out]; exact h1
            · exact qb.out j (by omega)
          · refine .inr ⟨b, e1, by omega, qb.out.1, fun j hj hsj => ?_⟩
            by_cases hji : j = i
            · subst hji
              exact absurd (Hfit.out.1 hsj) h1
            · exact qb.out.2 j (by omega) hsj
    · obtain rfl : i = N := by omega
      obtain ⟨a, ha, hsa, hba⟩ := Hex.out
      rcases qb with ⟨_, qb⟩ | ⟨b, rfl, hbi, qb⟩
      · exact absurd hsa (qb.out a ha)
      · have hpos : 0 < bitsS tb b := by have := qb.out.2 a ha hsa; omega
        have Hpos := Lib.hid hpos
        clear hpos hba hsa
        go_wp2
        go_ret
        exact ⟨b, rfl, hbi, qb.out.1, Hpos.out, hkW.trans qk⟩
end
end Go.Proofs.YtabaholflahepaaDoor
