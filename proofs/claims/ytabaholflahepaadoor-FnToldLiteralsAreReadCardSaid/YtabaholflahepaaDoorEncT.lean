/-
  Contracts of (*chooser).of, spec.codeLengths, (*backBits).add, (*backBits).bytes, (spec.table).before. And more of its kind (EncOps, EncFse, EncTree).
-/
import Derived.Test.YtabaholflahepaaDoorToldA
import Derived.Test.YtabaholflahepaaDoorEncPlain
import Derived.Test.YtabaholflahepaaDoorToldW
import Derived.Deep.CutRange
namespace Go.Proofs.YtabaholflahepaaDoor
open Go.RowKit

section
section
/-- A chooser: its numbers lie in R; how many were taken. -/
def Chz (w : World) (R : Nat → Prop) (cb k : Nat) : Prop := ∃ A n c xs, Blk w cb 122 [.slice A n c, .int .i64 (k : Int)] ∧ n = xs.length ∧ Sl w R A (i64s xs) ∧ I64s xs ∧ n ≤ 2147483647
theorem Chz.keep {S : Nat → Prop} {w w' : World} {R : Nat → Prop} {cb k : Nat} (h : Chz w R cb k) (hk : Keep S w w') (h1 : ¬ S cb) (h2 : ∀ j, j < w.heap.size → R j → ¬ S j) : Chz w' R cb k := by
  obtain ⟨A, n, c, xs, a1, a2, a3, a4, a5⟩ := h
  exact ⟨A, n, c, xs, a1.keep hk h1, a2, a3.keep hk h2, a4, a5⟩
theorem Chz.kept {w w' : World} {R : Nat → Prop} {cb k : Nat} (h : Chz w R cb k) (hk : Kept w w') : Chz w' R cb k := h.keep hk (fun h => h) (fun _ _ _ h => h)

set_option maxHeartbeats 1000000 in
theorem chooser_any {R : Nat → Prop} (cb k : Nat) (n : Int) (w : World) (h : Chz w R cb k) (hR : ¬ R cb) (hk : k ≤ 1099511627776) (hn0 : 0 ≤ n) (hn : n ≤ 1099511627776) :
    Calls Tryd.prog 61 #[.pointer (some ⟨cb, 0, none⟩), .int .i64 n] w fun e w' => ∃ v k' : Nat, e = .returned (.int .i64 (v : Int)) ∧ ((v : Int) < n ∨ v = 0) ∧ k' ≤ k + 1 ∧ Chz w' R cb k' ∧ Keep (· = cb) w w' := by
  obtain ⟨A, m, c, xs, a1, a2, a3, a4, a5⟩ := h
  have d0 : w.cell? ⟨cb, 0, none⟩ = some (.slice A m c) := a1.cell 0
  have d1 : w.cell? ⟨cb, 1, none⟩ = some (.int .i64 (k : Int)) := a1.cell 1
  have f1 := a1.frozen 1
  have Ha := Lib.hid (show Chz w R cb k from ⟨A, m, c, xs, a1, a2, a3, a4, a5⟩)
  by_cases hm : m = 0
  · subst hm
    clear a1 a2 a3
    go_enter Tryd.func61, Tryd.ntmps61
    go_wp2
    go_ret
    exact ⟨0, k, rfl, .inr rfl, by omega, Ha.out, Keep.refl _ _⟩
  have hmb : ((m : Int) == 0) = false := beq_eq_false_iff_ne.2 (by omega)
  by_cases hn2 : n < 2
  · clear a1 a2 a3
    go_enter Tryd.func61, Tryd.ntmps61
    go_wp2
    go_ret
    exact ⟨0, k, rfl, .inr rfl, by omega, Ha.out, Keep.refl _ _⟩
  have hlt : k % m < xs.length := by rw [← a2]; exact Nat.mod_lt _ (by omega)
  obtain ⟨g, o, x, hg, rfl, hcx, hxk⟩ := a3.i64 hlt
  have hx1 : I64 x := a4 x (List.mem_of_getElem? hxk.out)
  obtain ⟨hx1, hx2⟩ := hx1
  have hg1 : g ≠ cb := fun h => hR (h ▸ hg)
  have hg2 : cb ≠ g := fun h => hR (h ▸ hg)
  obtain ⟨q, hq⟩ : ∃ q, q = k % m := ⟨_, rfl⟩
  rw [← hq] at hcx hxk
  have hqm : q < m := by rw [hq]; exact Nat.mod_lt _ (by omega)
  have hmod : (k : Int).tmod (m : Int) = (q : Int) := by rw [hq]; rfl
  have hmod2 : (k : Int) % (m : Int) = (q : Int) := by rw [hq]; rfl
  have hr : -n < x.tmod n ∧ x.tmod n < n := ⟨by
    have := Int.lt_tmod_of_pos x (show 0 < n by omega)
    omega, Int.tmod_lt_of_pos x (by omega)⟩
  have Hxk := Lib.hid hxk
  have A1 := Lib.hid a1
  have A3 := Lib.hid a3
  have A2 := Lib.hid a2
  have hm0 : 0 < m := by omega
  have hqi : ((q : Int)).toNat = q := by omega
  clear a1 a3 hxk hlt hq a2 hmod2
  by_cases hneg : x.tmod n < 0
  · have e1 : x.tmod n + n = x % n := tmod_neg_add x n (by omega) hneg
    obtain ⟨y, hy⟩ : ∃ y : Nat, x.tmod n + n = (y : Int) := ⟨(x.tmod n + n).toNat, by omega⟩
    have E1 := Lib.hid hy
    clear e1
    go_enter Tryd.func61, Tryd.ntmps61
    go_wp2
    go_quiet (fail)
    go_wp2
    go_ret
    refine ⟨y, k + 1, by rw [← E1.out]; rfl, .inl (by omega), Nat.le_refl _, ⟨some ⟨g, o, none⟩, m, c, xs, Blk.cast ((A1.out.drewN _).set 1 _) rfl, A2.out, (A3.out.drewN _).keep ((Keep.refl (· = cb) _).set (p := ⟨cb, 1, none⟩) (.inl rfl) _) (fun j _ h1 h2 => hR (h2 ▸ h1)), a4, a5⟩, ((Keep.refl (· = cb) _).drewN _).set (p := ⟨cb, 1, none⟩) (.inl rfl) _⟩
  · obtain ⟨y, hy⟩ : ∃ y : Nat, x.tmod n = (y : Int) := ⟨(x.tmod n).toNat, by omega⟩
    go_enter Tryd.func61, Tryd.ntmps61
    go_wp2
    go_quiet (fail)
    go_wp2
    go_ret
    refine ⟨y, k + 1, rfl, .inl (by omega), Nat.le_refl _, ⟨some ⟨g, o, none⟩, m, c, xs, Blk.cast ((A1.out.drewN _).set 1 _) rfl, A2.out, (A3.out.drewN _).keep ((Keep.refl (· = cb) _).set (p := ⟨cb, 1, none⟩) (.inl rfl) _) (fun j _ h1 h2 => hR (h2 ▸ h1)), a4, a5⟩, ((Keep.refl (· = cb) _).drewN _).set (p := ⟨cb, 1, none⟩) (.inl rfl) _⟩
end

section
theorem nats_set (l : List Nat) (i x : Nat) : (nats l).set i (.int .i64 (x : Int)) = nats (l.set i x) := by simp [nats, List.map_set]
theorem nats_push (l : List Nat) (x : Nat) : nats (l ++ [x]) = nats l ++ [.int .i64 (x : Int)] := by simp [nats]
theorem nats_zeros (n : Nat) : List.replicate n (Value.int .i64 0) = nats (List.replicate n 0) := by rw [nats, List.map_replicate]; rfl

set_option maxHeartbeats 4000000 in
set_option maxRecDepth 4000 in
theorem codeLengths_any {R : Nat → Prop} (A : Option Addr) (c : Nat) (cs : List Int) (d : Bool) (w : World) (hs : Sl w R A (i64s cs)) (h256 : cs.length ≤ 256) (h2 : 2 ≤ (posAt 0 cs).length) :
    Calls Tryd.prog 60 #[.slice A cs.length c, .bool d] w fun e w' => ∃ A' c' l m, e = .returned (.slice A' (List.length l) c') ∧ Lens l m ∧ (∀ (s : Nat) (v : Int), cs[s]? = some v → 0 < v → l.getD s 0 ≠ 0) ∧ w'.ownsRow w.heap.size 3 1 (.slice A' l.length c') l.length (nats l) ∧ Kept w w' := by
  go_enter Tryd.func60, Tryd.ntmps60
  go_wp2
  go_loopg [5, 17] (cs.length + 1) (fun g s5 i wr => ∃ (k n : Nat) (A' : Option Addr) (c' : Nat), cs.length - k < g ∧ k ≤ cs.length ∧ i = .int .i64 k ∧ s5 = .slice A' n c' ∧ n ≤ k ∧ wr.ownsRow w.heap.size 3 1 (.slice A' n c') n (nats (posAt 0 (cs.take k))) ∧ Hid (n = (posAt 0 (cs.take k)).length) ∧ Kept w wr)
  case atStart => exact ⟨0, 0, none, 0, by omega, by omega, rfl, rfl, by omega, by simpa [posAt, nats] using World.ownsRow_nil _ _ _ _, rfl, Keep.refl _ _⟩
  case round =>
    obtain ⟨k, n, A', c', q1, q2, rfl, rfl, q3, qo, qn, qk⟩ := hrel
    by_cases hlt : k < cs.length
    · obtain ⟨g, o, x, hR, rfl, hcx, hxk⟩ := (hs.kept qk).i64 hlt
      have hpu := posAt_push hxk.out
      have Hpu := Lib.hid hpu
      clear hpu
      by_cases hpos : 0 < x
      · go_wp2_with (at_builtin; refine wpList_push rfl _ _ rfl elInt qk A' n c' _ rfl qo [.int .i64 (k : Int)] rfl rfl (by simp [Value.oneCell']) (by omega) ?_; intro A2 c2 w2 ho2 hk2 hg2)
        go_roundg (cs.length - k)
        case measure => exact q1
        case rel => exact ⟨k + 1, n + 1, A2, c2, by omega, by omega, rfl, rfl, by omega, by rw [Hpu.out, if_pos hpos, nats_push]; exact ho2, by show _ = _; rw [Hpu.out, if_pos hpos, List.length_append, ← qn.out]; rfl, hk2⟩
      · go_wp2
        go_roundg (cs.length - k)
        case measure => exact q1
        case rel => exact ⟨k + 1, n, A', c', by omega, by omega, rfl, rfl, by omega, by rw [Hpu.out, if_neg (by omega), List.append_nil]; exact qo, by show _ = _; rw [Hpu.out, if_neg (by omega), List.append_nil]; exact qn.out, qk⟩
    · obtain rfl : k = cs.length := by omega
      rw [List.take_length] at qo qn
      obtain ⟨us, hus⟩ : ∃ us, us = posAt 0 cs := ⟨_, rfl⟩
      have hsorted : us.Pairwise (· < ·) := hus ▸ posAt_sorted _ _
      have hall : ∀ x ∈ us, x < 256 := fun x hx => by have := posAt_mem cs 0 x (hus ▸ hx); omega
      have hmem : ∀ (s : Nat) (v : Int), cs[s]? = some v → 0 < v → s ∈ us := fun s v h1 h2 => by have := posAt_has cs 0 s v h1 h2; rw [Nat.zero_add] at this; exact hus ▸ this
      rw [← hus] at qo qn h2
      have hn2 : 2 ≤ n := by rw [qn.out]; exact h2
      have hn256 : n ≤ 256 := by omega
      obtain ⟨t, rfl⟩ : ∃ t, n = t + 1 := ⟨n - 1, by omega⟩
      obtain ⟨g0, o0, la, hRg, rfl, hcl, hlk⟩ := (Sl.of_own qo).nat (k := t) (by rw [← qn.out]; omega)
      have hla : la = us.getD (us.length - 1) 0 := by rw [← qn.out, Nat.add_sub_cancel, List.getD_eq_getElem?_getD, hlk.out]; rfl
      have hla256 : la < 256 := hall la (List.mem_of_getElem? hlk.out)
      have hul : ∀ j, j < us.length → us.getD j 0 < la + 1 := fun j hj => by have := sorted_last hsorted hj; omega
      have hkw := qk
      have Hs := Lib.hid hsorted
      have Hall := Lib.hid hall
      have Hmem := Lib.hid hmem
      have Hla := Lib.hid hla
      have Hul := Lib.hid hul
      clear hsorted hall hmem hla hul hus h2 q1 q2 hlt hs
      obtain ⟨gb, hgb⟩ : ∃ x, x = wr.heap.size := ⟨_, rfl⟩
      obtain ⟨N, hN⟩ : ∃ x, x = la + 1 := ⟨_, rfl⟩
      have hNi : (la : Int) + 1 = (N : Int) := by omega
      have hwgb : w.heap.size ≤ gb := by rw [hgb]; exact qk.size
      have hlt256 : ∀ w1, Blk w1 gb 3 (madeCells #[Value.int IntKind.i64 0] (N * 1)).toList → Blk w1 gb 3 (nats (lfill N us (fDiff (t + 1)) 0)) := fun w1 h => Blk.cast h (by rw [Nat.mul_one]; have := made_list (.int .i64 0) rfl N; rw [lfill, ← nats_zeros]; exact this)
      by_cases hd : d = true ∧ t + 1 ≤ 12
      · obtain ⟨rfl, h12⟩ := hd
        have Hgb := Lib.hid hgb
        have Hlt := Lib.hid hlt256
        have HN := Lib.hid hN
        have hN257 : N ≤ 256 := by omega
        clear hlt256 hgb hN
        go_wp2_with (at_make; refine wpList_make rfl _ _ rfl elInt .i64 .i64 N N rfl rfl (Nat.le_refl _) (by omega) ?_; intro w1 hk1 hg1; rw [← Hgb.out] at hg1 ⊢)
        have hg2 := Hlt.out w1 hg1
        have hown := (Sl.of_own qo).kept hk1
        clear hg1
        go_loopg [46] (t + 2) (fun gg s46 wr2 => ∃ j : Nat, t + 1 - j < gg ∧ j ≤ t + 1 ∧ s46 = .int .i64 j ∧ Blk wr2 gb 3 (nats (lfill N us (fDiff (t + 1)) j)) ∧ Keep (· = gb) w1 wr2)
        case atStart => exact ⟨0, by omega, by omega, rfl, hg2, Keep.refl _ _⟩
        case round =>
          clear hg2
          obtain ⟨j, r1, r2, rfl, rb, rk⟩ := hrel
          by_cases hj : j < t + 1
          · obtain ⟨gx, ox, u, hRx, hAx, hcu, huk⟩ := (hown.keep rk (fun i _ h1 h2 => by have := Hgb.out; omega)).nat (k := j) (by rw [← qn.out]; exact hj)
            simp only [Option.some.injEq, Addr.mk.injEq] at hAx
            obtain ⟨rfl, rfl, _⟩ := hAx
            have hue : us.getD j 0 = u := by rw [List.getD_eq_getElem?_getD, huk.out]; rfl
            have huN : u < N := by have := Hul.out j (by rw [← qn.out]; exact hj); have := HN.out; omega
            have hset : nats ((lfill N us (fDiff (t + 1)) j).set u (fDiff (t + 1) j)) = nats (lfill N us (fDiff (t + 1)) (j + 1)) := by rw [lfill, hue]
            obtain ⟨y, hy⟩ : ∃ y, y = fDiff (t + 1) j := ⟨_, rfl⟩
            rw [← hy] at hset
            have hy2 : y = min (j + 1) t := by rw [hy, fDiff, Nat.add_sub_cancel]
            have f0 := rb.frozen u
            obtain ⟨v, hv⟩ : ∃ v, wr.cell? ⟨gb, u, none⟩ = some v := by
              rw [rb.cell]; exact ⟨_, List.getElem?_eq_getElem (by rw [nats_length, lfill_length]; exact huN)⟩
            have hmin : min ((j : Int) + 1) (t : Int) = (y : Int) := by omega
            have Hset := Lib.hid hset
            have Hmin := Lib.hid hmin
            clear hset hy hy2 hue huk hmin
            go_wp2
            go_roundg (t + 1 - j)
            case measure => exact r1
            case rel => exact ⟨j + 1, by omega, by omega, rfl, Blk.cast (rb.set u _) (by rw [Hmin.out, nats_set, Hset.out]), rk.set (p := ⟨gb, u, none⟩) (.inl rfl) _⟩
          · obtain rfl : j = t + 1 := by omega
            have hl := diff_lens (us := us) Hs.out (by rw [← Hla.out]; omega) (by rw [← qn.out]; omega) (by rw [← qn.out]; exact h12)
            have hpos := fun s hs => lfill_pos (N := N) (us := us) (f := fDiff (t + 1)) Hs.out (by rw [HN.out]; exact Hul.out) (fun j _ => (fDiff_fine hn2).1) (s := s) hs
            rw [← Hla.out, ← HN.out] at hl
            rw [← qn.out] at hl hpos
            have Hl := Lib.hid hl
            have Hpos := Lib.hid hpos
            clear hl hpos
            go_wp2
            go_ret
            refine ⟨some ⟨gb, 0, none⟩, N, _, _, ?_, Hl.out, fun s v h1 h2 => Hpos.out s (Hmem.out s v h1 h2), ?_, (hkw.trans hk1).then rk (fun j hj h => by omega)⟩
            · rw [lfill_length]; rfl
            · rw [lfill_length]
              exact own_of_blk rb hwgb (by rw [nats_length, lfill_length]) (by unfold maxLen; omega)
      · obtain ⟨m, hm⟩ : ∃ m, m = upLog (t + 1) := ⟨_, rfl⟩
        have hml : ∀ j, 2 ^ j < t + 1 ↔ j < m := fun j => by rw [hm]; exact upLog_lt (by omega)
        have hm1 : 1 ≤ m := by have := (hml 0).1 (by simp; omega); omega
        have hm8 : m ≤ 8 := by
          refine Nat.le_of_not_lt fun h => ?_
          have := (hml 8).2 h
          have e : (2 : Nat) ^ 8 = 256 := by decide
          omega
        obtain ⟨P, hP⟩ : ∃ P, P = 2 ^ m := ⟨_, rfl⟩
        have hPn : t + 1 ≤ P := by rw [hP]; exact Nat.le_of_not_lt (fun h => by have := (hml m).1 h; omega)
        have hP256 : P ≤ 256 := by rw [hP]; exact (Nat.pow_le_pow_right (by decide) hm8 : 2 ^ m ≤ 2 ^ 8)
        have hPi : (2 : Int) ^ m = (P : Int) := by rw [two_pow_int, hP]
        have hlow : 2 ^ (m - 1) < t + 1 := (hml (m - 1)).2 (by omega)
        have Hlow := Lib.hid hlow
        have HP := Lib.hid hP
        have Hml := Lib.hid hml
        have Hgb := Lib.hid hgb
        have hlt2 : ∀ w1, Blk w1 gb 3 (madeCells #[Value.int IntKind.i64 0] (N * 1)).toList → Blk w1 gb 3 (nats (lfill N us (fSame m (P - (t + 1))) 0)) := hlt256
        have Hlt := Lib.hid hlt2
        have HN := Lib.hid hN
        have hN257 : N ≤ 256 := by omega
        have hd3 : d = false ∨ (d = true ∧ 12 < t + 1) := by
          cases d with
          | false => exact .inl rfl
          | true => exact .inr ⟨rfl, Nat.lt_of_not_le fun h => hd ⟨rfl, h⟩⟩
        clear hlt256 hlt2 hgb hN hm hml hP hlow hd
        rcases hd3 with rfl | ⟨rfl, h12⟩
        all_goals
          go_wp2_with (at_make; refine wpList_make rfl _ _ rfl elInt .i64 .i64 N N rfl rfl (Nat.le_refl _) (by omega) ?_; intro w1 hk1 hg1; rw [← Hgb.out] at hg1 ⊢)
          have hg2 := Hlt.out w1 hg1
          have hown := (Sl.of_own qo).kept hk1
          clear hg1
          go_loopg [12] (m + 1) (fun gg s12 wr2 => ∃ j : Nat, m - j < gg ∧ j ≤ m ∧ s12 = .int .i64 j ∧ w1 = wr2)
          case atStart => exact ⟨0, by omega, by omega, rfl, rfl⟩
          case round =>
            obtain ⟨j, r1, r2, rfl, rfl⟩ := hrel
            by_cases hj : j < m
            · obtain ⟨Q, hQ⟩ : ∃ Q, Q = 2 ^ j := ⟨_, rfl⟩
              have hQn : Q < t + 1 := by rw [hQ]; exact (Hml.out j).2 hj
              have hQi : (2 : Int) ^ j = (Q : Int) := by rw [two_pow_int, hQ]
              clear hQ
              go_wp2
              go_roundg (m - j)
              case measure => exact r1
              case rel => exact ⟨j + 1, by omega, by omega, rfl, rfl⟩
            · obtain rfl : m = j := by omega
              obtain ⟨K, hK⟩ : ∃ K, K = P - (t + 1) := ⟨_, rfl⟩
              rw [← hK] at hg2
              have HK := Lib.hid hK
              have hfs : ∀ j, fSame m K j ≠ 0 := fun j => by
                by_cases h1 : m = 1
                · have h2 : P = 2 := by rw [HP.out, h1]
                  unfold fSame
                  rw [if_neg (by omega)]
                  omega
                · unfold fSame
                  split <;> omega
              have Hfs := Lib.hid hfs
              clear hK r1 r2 hj hfs
              go_wp2
              go_loopg [69] (t + 2) (fun gg s69 wr2 => ∃ j : Nat, t + 1 - j < gg ∧ j ≤ t + 1 ∧ s69 = .int .i64 j ∧ Blk wr2 gb 3 (nats (lfill N us (fSame m K) j)) ∧ Keep (· = gb) w1 wr2)
              case atStart => exact ⟨0, by omega, by omega, rfl, hg2, Keep.refl _ _⟩
              case round =>
                clear hg2
                obtain ⟨j, r1, r2, rfl, rb, rk⟩ := hrel
                by_cases hj : j < t + 1
                · obtain ⟨gx, ox, u, hRx, hAx, hcu, huk⟩ := (hown.keep rk (fun i _ h1 h2 => by have := Hgb.out; omega)).nat (k := j) (by rw [← qn.out]; exact hj)
                  simp only [Option.some.injEq, Addr.mk.injEq] at hAx
                  obtain ⟨rfl, rfl, _⟩ := hAx
                  have hue : us.getD j 0 = u := by rw [List.getD_eq_getElem?_getD, huk.out]; rfl
                  have huN : u < N := by have := Hul.out j (by rw [← qn.out]; exact hj); have := HN.out; omega
                  have hset : nats ((lfill N us (fSame m K) j).set u (fSame m K j)) = nats (lfill N us (fSame m K) (j + 1)) := by rw [lfill, hue]
                  have f0 := rb.frozen u
                  obtain ⟨v, hv⟩ : ∃ v, wr.cell? ⟨gb, u, none⟩ = some v := by
                    rw [rb.cell]; exact ⟨_, List.getElem?_eq_getElem (by rw [nats_length, lfill_length]; exact huN)⟩
                  by_cases hjK : j < K
                  · rw [fSame, if_pos hjK] at hset
                    have hc : (j : Int) < (P : Int) - ((t : Int) + 1) := by have := HK.out; omega
                    have hm1i : ((m - 1 : Nat) : Int) = (m : Int) - 1 := by omega
                    have Hset := Lib.hid hset
                    have Hm1i := Lib.hid hm1i
                    clear hset hue huk hm1i
                    go_wp2
                    go_roundg (t + 1 - j)
                    case measure => exact r1
                    case rel => exact ⟨j + 1, by omega, by omega, rfl, Blk.cast ((rb.set u _).set u _) (by rw [List.set_set, ← Hm1i.out, nats_set, Hset.out]), (rk.set (p := ⟨gb, u, none⟩) (.inl rfl) _).set (p := ⟨gb, u, none⟩) (.inl rfl) _⟩
                  · rw [fSame, if_neg hjK] at hset
                    have hc : ¬ (j : Int) < (P : Int) - ((t : Int) + 1) := by have := HK.out; omega
                    have Hset := Lib.hid hset
                    clear hset hue huk
                    go_wp2
                    go_roundg (t + 1 - j)
                    case measure => exact r1
                    case rel => exact ⟨j + 1, by omega, by omega, rfl, Blk.cast (rb.set u _) (by rw [nats_set, Hset.out]), rk.set (p := ⟨gb, u, none⟩) (.inl rfl) _⟩
                · obtain rfl : j = t + 1 := by omega
                  have hl := same_lens (us := us) (m := m) Hs.out (by rw [← Hla.out]; omega) (by rw [← qn.out]; omega) (by rw [← qn.out]; exact Hlow.out) (by rw [← qn.out, ← HP.out]; exact hPn) hm1 (by omega)
                  have hpos := fun s hs => lfill_pos (N := N) (us := us) (f := fSame m K) Hs.out (by rw [HN.out]; exact Hul.out) (fun j _ => Hfs.out j) (s := s) hs
                  rw [← Hla.out, ← HN.out] at hl
                  rw [← qn.out] at hl hpos
                  rw [← HP.out, ← HK.out] at hl
                  have Hl := Lib.hid hl
                  have Hpos := Lib.hid hpos
                  clear hl hpos
                  go_wp2
                  go_ret
                  refine ⟨some ⟨gb, 0, none⟩, N, _, _, ?_, Hl.out, fun s v h1 h2 => Hpos.out s (Hmem.out s v h1 h2), ?_, (hkw.trans hk1).then rk (fun j hj h => by omega)⟩
                  · rw [lfill_length]; rfl
                  · rw [lfill_length]
                    exact own_of_blk rb hwgb (by rw [nats_length, lfill_length]) (by unfold maxLen; omega)
end

section
/-- Bits under way that are read from the end, in the block b. -/
def BB (w : World) (b base k : Nat) (bs : List Bool) : Prop := ∃ A c, Blk w b 218 [.slice A k c] ∧ k = bs.length ∧ w.ownsRow base 4 1 (.slice A k c) k (bools bs)

set_option maxHeartbeats 1000000 in
theorem bbAdd_all (b base v n k0 : Nat) (bs : List Bool) (w : World) (h : BB w b base k0 bs) (hbb : base ≤ b) (hn : n ≤ 16) (hv : v < 1099511627776) (hl : k0 ≤ 1073741824) :
    Calls Tryd.prog 100 #[.pointer (some ⟨b, 0, none⟩), .int .i64 v, .int .i64 n] w fun e w' => e = .returned (.tuple #[]) ∧ BB w' b base (k0 + n) (bs ++ hiBits v n) ∧ Keep (base ≤ ·) w w' ∧ ∀ j t cs, Blk w j t cs → j ≠ b → t ≠ 4 → Blk w' j t cs := by
  obtain ⟨A0, c0, hb0, hk0, ho0⟩ := h
  have Hk0 := Lib.hid hk0
  clear hk0
  go_enter Tryd.func100, Tryd.ntmps100
  go_wp2
  go_loopg [6] (n + 1) (fun g s6 wr => ∃ (i k : Nat) (x : Int) (A : Option Addr) (c : Nat), n - i < g ∧ i ≤ n ∧ s6 = .int .i64 x ∧ x = (n : Int) - 1 - (i : Int) ∧ k ≤ 1073741840 ∧ Hid (k = k0 + i) ∧ Blk wr b 218 [.slice A k c] ∧ wr.ownsRow base 4 1 (.slice A k c) k (bools (bs ++ (hiBits v n).take i)) ∧ Keep (base ≤ ·) w wr ∧ Hid (∀ j t cs, Blk w j t cs → j ≠ b → t ≠ 4 → Blk wr j t cs))
  case atStart => exact ⟨0, k0, (n : Int) - 1, A0, c0, by omega, by omega, rfl, by omega, by omega, rfl, hb0, by simpa using ho0, Keep.refl _ _, fun _ _ _ h _ _ => h⟩
  case round =>
    clear hb0 ho0
    obtain ⟨i, k, x, A, c, q1, q2, rfl, hx, q3, q4, qb, qo, qk, qH⟩ := hrel
    by_cases hlt : i < n
    · obtain ⟨j, hj⟩ : ∃ j : Nat, x = (j : Int) := ⟨(n - 1 - i), by omega⟩
      subst hj
      have hji : j = n - 1 - i := by omega
      have hx1 : (j : Int) - 1 = (n : Int) - 1 - ((i + 1 : Nat) : Int) := by omega
      have Hx1 := Lib.hid hx1
      obtain ⟨d, hd⟩ : ∃ d, d = v / 2 ^ j % 2 := ⟨_, rfl⟩
      obtain ⟨q, hq⟩ : ∃ q, q = v / 2 ^ j := ⟨_, rfl⟩
      have hqi : (v : Int) / 2 ^ j = (q : Int) := by rw [hq, cast_div_pow]
      have hand : Go.bits .and .i64 (q : Int) 1 = (d : Int) := by
        rw [show (1 : Int) = ((1 : Nat) : Int) from rfl, i64_and_nat q 1 (by rw [hq]; have := Nat.div_le_self v (2 ^ j); omega) (by decide), show (1 : Nat) = 2 ^ 1 - 1 by decide, and_mask, hd, hq]
      obtain ⟨y, hy⟩ : ∃ y, y = (d == 1) := ⟨_, rfl⟩
      have hy1 : ((d : Int) == 1) = y := by rw [hy, Bool.eq_iff_iff]; simp only [beq_iff_eq]; omega
      have hy2 : decide ((d : Int) = 1) = y := by rw [hy, Bool.eq_iff_iff]; simp only [beq_iff_eq, decide_eq_true_eq]; omega
      have hy3 : decide (d = 1) = y := by rw [hy, Bool.eq_iff_iff]; simp only [beq_iff_eq, decide_eq_true_eq]
      have hpush : bs ++ (hiBits v n).take (i + 1) = (bs ++ (hiBits v n).take i) ++ [y] := by rw [hiBits_push v hlt, List.append_assoc, hy, hd, hji]
      have c0 : wr.cell? ⟨b, 0, none⟩ = some (.slice A k c) := qb.cell 0
      have f0 := qb.frozen 0
      have hne := own_ne qo qb (by decide)
      have hbl := qb.lt
      have hj16 : j ≤ 16 := by omega
      have Hpush := Lib.hid hpush
      clear hd hq hy hpush hx hji hx1
      go_wp2
      go_region_law (refine step_app rfl _ _ rfl elBool base _ k _ rfl (own_drew (qo.alloc _)) 1 [.bool y] (src_blk Tryd.underlying46 (Blk.new _ 4 [.bool y]).drew 1 1 (by simp) (by simp [Value.oneCell'])) (by unfold maxLen; omega) (by omega) (by simp; omega) ?_; intro A2 c2 w2 ho2 hg2 hor; have qb2 := blk_grown (qb.alloc _).drew hg2 hne; have d0 : w2.cell? ⟨b, 0, none⟩ = some (.slice A k c) := qb2.cell 0; have e0 := qb2.frozen 0)
      all_goals
        go_wp2
        go_roundg (n - i)
        case measure => exact q1
        case rel =>
          have hk2 : Keep (base ≤ ·) wr w2 := ((Keep.refl _ _).alloc _).drew.grown hg2 (fun j hj => .inl (qo.lt j hj).1)
          have hne2 := own_ne ho2 qb2 (by decide)
          refine ⟨i + 1, k + 1, (j : Int) - 1, A2, c2, by omega, by omega, rfl, Hx1.out, by have := q4.out; omega, by show _ = _; rw [q4.out, Nat.add_assoc], qb2.set 0 _, ?_, (qk.trans hk2).set (p := ⟨b, 0, none⟩) (.inl hbb) _, fun j t cs h1 h2 h3 => (blk_grown ((qH.out j t cs h1 h2 h3).alloc _).drew hg2 (own_ne qo (qH.out j t cs h1 h2 h3) (Ne.symm h3))).far h2 _⟩
          rw [Hpush.out, bools_push]
          exact own_keep ho2 ((Keep.refl (· = b) w2).set (p := ⟨b, 0, none⟩) (.inl rfl) _) (fun g hg h => hne2 (h ▸ hg))
    · obtain rfl : i = n := by omega
      have hx0 : x < 0 := by omega
      rw [List.take_of_length_le (by rw [hiBits_length]; exact Nat.le_refl _)] at qo
      clear hx
      go_wp2
      go_end0
      refine ⟨rfl, ⟨A, c, by rw [← q4.out]; exact qb, ?_, by rw [← q4.out]; exact qo⟩, qk, qH.out⟩
      rw [List.length_append, hiBits_length, Hk0.out]

theorem bbAdd_any (b base v n k0 : Nat) (bs : List Bool) (w : World) (h : BB w b base k0 bs) (hbb : base ≤ b) (hn : n ≤ 16) (hv : v < 1099511627776) (hl : k0 ≤ 1073741824) :
    Calls Tryd.prog 100 #[.pointer (some ⟨b, 0, none⟩), .int .i64 v, .int .i64 n] w fun e w' => e = .returned (.tuple #[]) ∧ BB w' b base (k0 + n) (bs ++ hiBits v n) ∧ Keep (base ≤ ·) w w' :=
  (bbAdd_all b base v n k0 bs w h hbb hn hv hl).mono fun _ _ h => ⟨h.1, h.2.1, h.2.2.1⟩
theorem BB.kept {w w' : World} {b base k : Nat} {bs : List Bool} (h : BB w b base k bs) (hk : Kept w w') : BB w' b base k bs := by
  obtain ⟨A, c, h1, h2, h3⟩ := h
  exact ⟨A, c, h1.kept hk, h2, own_kept h3 hk⟩

/-- One bit is set where none is set at it nor below it. -/
theorem bit_set {zs : List Nat} (hz : Bytes zs) {k y : Nat} (hdiv : 2 ^ (k + 1) ∣ num zs) (hy : zs[k / 8]? = some y) :
    y + 2 ^ (k % 8) < 256 ∧ y ||| 2 ^ (k % 8) = y + 2 ^ (k % 8) ∧ num (zs.set (k / 8) (y + 2 ^ (k % 8))) = num zs + 2 ^ k ∧ Bytes (zs.set (k / 8) (y + 2 ^ (k % 8))) := by
  have h1 := num_byte hz (k / 8)
  rw [List.getD_eq_getElem?_getD, hy, Option.getD_some] at h1
  obtain ⟨c, hc⟩ := hdiv
  have hy256 : y < 256 := hz y (List.mem_of_getElem? hy)
  have hr : k % 8 + 1 ≤ 8 := by omega
  have e1 : num zs / 2 ^ (8 * (k / 8)) = 2 ^ (k % 8 + 1) * c := by
    rw [hc, show k + 1 = 8 * (k / 8) + (k % 8 + 1) by omega, Nat.pow_add, Nat.mul_assoc, Nat.mul_div_cancel_left _ (pow_pos' _)]
  have e2 : 2 ^ (k % 8 + 1) ∣ y := by
    rw [← h1, e1, show (256 : Nat) = 2 ^ 8 by decide]
    exact (Nat.dvd_mod_iff (Nat.pow_dvd_pow 2 hr)).2 (Nat.dvd_mul_right _ _)
  obtain ⟨q, rfl⟩ := e2
  have e3 : 2 ^ (k % 8) ≤ 2 ^ 7 := Nat.pow_le_pow_right (by decide) (by omega)
  have e7 : (2 ^ 7 : Nat) = 128 := by decide
  have e8 : 2 ^ (k % 8 + 1) * 2 ^ (7 - k % 8) = 256 := by rw [← Nat.pow_add, show k % 8 + 1 + (7 - k % 8) = 8 by omega]
  have hq : q < 2 ^ (7 - k % 8) := Nat.lt_of_mul_lt_mul_left (a := 2 ^ (k % 8 + 1)) (by rw [e8]; exact hy256)
  have hq2 : 2 ^ (k % 8 + 1) * (q + 1) ≤ 256 := by rw [← e8]; exact Nat.mul_le_mul_left _ hq
  have e9 : 2 ^ (k % 8 + 1) = 2 * 2 ^ (k % 8) := by rw [Nat.pow_succ, Nat.mul_comm]
  have hlt : 2 ^ (k % 8 + 1) * q + 2 ^ (k % 8) < 256 := by
    rw [Nat.mul_add, Nat.mul_one, e9] at hq2
    have := pow_pos' (k % 8)
    rw [e9]
    omega
  have h4 := num_set zs (k / 8) _ (2 ^ (k % 8 + 1) * q + 2 ^ (k % 8)) hy
  rw [Nat.add_mul, ← Nat.pow_add, show k % 8 + 8 * (k / 8) = k by omega] at h4
  refine ⟨hlt, ?_, by omega, fun x hx => ?_⟩
  · have := or_shift (a := 2 ^ (k % 8)) (c := q) (n := k % 8 + 1) (by rw [e9]; have := pow_pos' (k % 8); omega)
    rw [Nat.or_comm, Nat.mul_comm, this, Nat.add_comm]
  · rcases List.mem_or_eq_of_mem_set hx with hx | rfl
    · exact hz x hx
    · exact hlt

/-- What (*backBits).bytes hands back. -/
def BbPost (w : World) (bs : List Bool) (e : Ending) (w' : World) : Prop :=
  ∃ g zs, List.length zs = bs.length / 8 + 1 ∧ e = .returned (.slice (some ⟨g, 0, none⟩) (bs.length / 8 + 1) (bs.length / 8 + 1)) ∧ w.heap.size ≤ g ∧ Blk w' g 5 (u8s zs) ∧ Bytes zs ∧ num zs = marked bs ∧ Kept w w'
theorem hnum_take {bs : List Bool} {k j : Nat} {x : Bool} (hk : bs.length = k) (hx : bs[j]? = some x) (n : Nat) (hn : n = 2 ^ k + 2 ^ (k - j) * hnum (bs.take j)) :
    n + (if x then 2 ^ (k - 1 - j) else 0) = 2 ^ k + 2 ^ (k - (j + 1)) * hnum (bs.take (j + 1)) := by
  have hj := (List.getElem?_eq_some_iff.1 hx).1
  rw [take_push hx, hnum_push, hn, show k - 1 - j = k - (j + 1) by omega, show k - j = (k - (j + 1)) + 1 by omega, Nat.pow_succ]
  generalize 2 ^ (k - (j + 1)) = p, hnum (bs.take j) = h
  cases x
  · simp only [Bool.toNat_false, Nat.zero_add, Bool.false_eq_true, if_false, Nat.add_zero, Nat.mul_assoc]
  · simp only [Bool.toNat_true, if_true, Nat.mul_add, Nat.mul_one, Nat.mul_assoc]
    omega

set_option maxHeartbeats 2000000 in
set_option maxRecDepth 4000 in
theorem bbBytes_any (b base k : Nat) (bs : List Bool) (w : World) (h : BB w b base k bs) (hk : k ≤ 1073741824) :
    Calls Tryd.prog 101 #[.pointer (some ⟨b, 0, none⟩)] w (BbPost w bs) := by
  obtain ⟨A, c, hb, hkl, ho⟩ := h
  obtain ⟨q0, hq0⟩ : ∃ x, x = k / 8 := ⟨_, rfl⟩
  obtain ⟨nB, hnB⟩ : ∃ x, x = q0 + 1 := ⟨_, rfl⟩
  obtain ⟨r0, hr0⟩ : ∃ x, x = k % 8 := ⟨_, rfl⟩
  obtain ⟨s0, hs0⟩ : ∃ x, x = 2 ^ r0 := ⟨_, rfl⟩
  have hs128 : s0 ≤ 128 := by rw [hs0]; exact (Nat.pow_le_pow_right (by decide) (by omega) : 2 ^ r0 ≤ 2 ^ 7)
  have hq1 : (k : Int) / 8 = (q0 : Int) := by omega
  have hq2 : (k : Int).tdiv 8 = (q0 : Int) := by rw [Int.tdiv_eq_ediv_of_nonneg (by omega)]; exact hq1
  have hr1 : (k : Int) % 8 = (r0 : Int) := by omega
  have hr2 : (k : Int).tmod 8 = (r0 : Int) := by rw [Int.tmod_eq_emod_of_nonneg (by omega)]; exact hr1
  have hsi : (2 : Int) ^ r0 = (s0 : Int) := by rw [two_pow_int, hs0]
  have hsw : IntKind.u8.wrap (s0 : Int) = (s0 : Int) := by rw [IntKind.wrap_u8]; omega
  have hni : (q0 : Int) + 1 = (nB : Int) := by omega
  have hor0 : Go.bits .or .u8 0 (s0 : Int) = (s0 : Int) := by
    have := u8_or_nat 0 s0 (by omega) (by omega)
    rw [Nat.zero_or] at this
    exact this
  have d0 : w.cell? ⟨b, 0, none⟩ = some (.slice A k c) := hb.cell 0
  have hz0 : Bytes (List.replicate nB 0) := fun x hx => by rw [List.mem_replicate] at hx; omega
  have hb0 := bit_set hz0 (k := k) (y := 0) (by rw [num_zeros]; exact Nat.dvd_zero _) (by rw [List.getElem?_replicate, if_pos (by omega)])
  rw [num_zeros, ← hq0, ← hr0, ← hs0, Nat.zero_add, Nat.zero_add] at hb0
  have Hb0 := Lib.hid hb0
  have Hkl := Lib.hid hkl
  have HnB : Hid (nB = k / 8 + 1) := by show _ = _; omega
  have hnBl : nB ≤ 1073741824 := by omega
  have hq0n : q0 < nB := by omega
  have hwb := hb.lt
  clear hz0 hb0 hkl hq0 hr0 hs0 hnB
  go_enter Tryd.func101, Tryd.ntmps101
  go_wp2_with (at_make; refine wpList_make rfl _ _ rfl elByte .i64 .i64 nB nB rfl rfl (Nat.le_refl _) (by omega) ?_; intro w1 hk1 hg1; have d1 : w1.cell? ⟨b, 0, none⟩ = some (.slice A k c) := (hb.kept hk1).cell 0)
  obtain ⟨g, hg⟩ : ∃ g, g = w.heap.size := ⟨_, rfl⟩
  rw [← hg] at hg1 ⊢
  have hg2 : Blk w1 g 5 (u8s (List.replicate nB 0)) := Blk.cast hg1 (by rw [Nat.mul_one, made_list _ rfl]; simp [u8s])
  have hso : Sl w1 (fun j => base ≤ j ∧ j < w.heap.size) A (bools bs) := (Sl.of_own ho).kept hk1
  have hb1 := hb.kept hk1
  have Hg := Lib.hid hg
  have e0 : w1.cell? ⟨g, q0, none⟩ = some (.int .u8 0) := by rw [hg2.cell, u8s, List.getElem?_map, List.getElem?_replicate, if_pos hq0n]; rfl
  have f0 := hg2.frozen q0
  have hgb : g ≠ b := by omega
  have hbg : b ≠ g := by omega
  clear hg hg1 d0 hb ho
  go_region
  go_wp2
  go_loopg [32] (k + 1) (fun g5 s wr2 => ∃ (j : Nat) (zs : List Nat), k - j < g5 ∧ j ≤ k ∧ s = .int .i64 j ∧ Hid (List.length zs = nB) ∧ Hid (Bytes zs) ∧ Hid (num zs = 2 ^ k + 2 ^ (k - j) * hnum (bs.take j)) ∧ Blk wr2 g 5 (u8s zs) ∧ Keep (· = g) w1 wr2)
  case atStart => exact ⟨0, (List.replicate nB 0).set q0 s0, by omega, by omega, rfl, (by show _ = _; rw [List.length_set, List.length_replicate]), Hb0.out.2.2.2, (by show _ = _; rw [Hb0.out.2.2.1]; simp [hnum_nil]), Blk.cast (hg2.set q0 _).drew (by simp [u8s, List.map_set]), ((Keep.refl (· = g) w1).set (p := ⟨g, q0, none⟩) (.inl rfl) _).drew⟩
  case round =>
    clear hg2 e0 f0
    obtain ⟨j, zs, r1, r2, rfl, hzl, hzb, hzn, rg, rk⟩ := hrel
    have d0 : wr.cell? ⟨b, 0, none⟩ = some (.slice A k c) := rk.cell d1 hbg
    by_cases hj : j < k
    · obtain ⟨x, hx⟩ : ∃ x, bs[j]? = some x := ⟨_, List.getElem?_eq_getElem (by rw [← Hkl.out]; exact hj)⟩
      obtain ⟨gb, ob, hRb, rfl, hcb⟩ := (hso.keep rk (fun i _ hi h => by have := Hg.out; omega)).at_ (k := j) (u := .bool x) (by rw [bools, List.getElem?_map, hx]; rfl)
      have hpush := hnum_take Hkl.out.symm hx _ hzn.out
      have Hpush := Lib.hid hpush
      clear hpush hx
      obtain ⟨kk, hkk⟩ : ∃ kk, kk = k - 1 - j := ⟨_, rfl⟩
      have hkki : (k : Int) - 1 - (j : Int) = (kk : Int) := by omega
      rw [← hkk] at Hpush
      cases x with
      | false =>
        clear hkk
        go_wp2
        go_roundg (k - j)
        case measure => exact r1
        case rel => exact ⟨j + 1, zs, by omega, by omega, rfl, hzl.out, hzb.out, (by show _ = _; have := Hpush.out; simpa using this), rg, rk⟩
      | true =>
        have hdiv : 2 ^ (kk + 1) ∣ num zs := by
          rw [hzn.out, show kk + 1 = k - j by omega]
          exact Nat.dvd_add (Nat.pow_dvd_pow 2 (by omega)) (Nat.dvd_mul_right _ _)
        have hjl : kk / 8 < zs.length := by rw [hzl.out, HnB.out]; omega
        obtain ⟨y, hy⟩ : ∃ y, zs[kk / 8]? = some y := ⟨_, List.getElem?_eq_getElem hjl⟩
        obtain ⟨hs1, hs2, hs3, hs4⟩ := bit_set hzb.out hdiv hy
        obtain ⟨q, hq⟩ : ∃ q, q = kk / 8 := ⟨_, rfl⟩
        obtain ⟨s, hs⟩ : ∃ s, s = 2 ^ (kk % 8) := ⟨_, rfl⟩
        rw [← hs] at hs1 hs2 hs3 hs4
        rw [← hq] at hy hs3 hs4 hjl
        have hor : Go.bits .or .u8 (y : Int) (s : Int) = ((y + s : Nat) : Int) := by
          rw [u8_or_nat y s (by omega) (by omega), hs2]
        obtain ⟨r, hr⟩ : ∃ r, r = kk % 8 := ⟨_, rfl⟩
        rw [← hr] at hs
        have hq1 : (kk : Int) / 8 = (q : Int) := by omega
        have hq2 : (kk : Int).tdiv 8 = (q : Int) := by rw [Int.tdiv_eq_ediv_of_nonneg (by omega)]; exact hq1
        have hr1 : (kk : Int) % 8 = (r : Int) := by omega
        have hr2 : (kk : Int).tmod 8 = (r : Int) := by rw [Int.tmod_eq_emod_of_nonneg (by omega)]; exact hr1
        have hsi : (2 : Int) ^ r = (s : Int) := by rw [two_pow_int, hs]
        have hsw : IntKind.u8.wrap (s : Int) = (s : Int) := by rw [IntKind.wrap_u8]; omega
        have e0 : wr.cell? ⟨g, q, none⟩ = some (.int .u8 (y : Int)) := by rw [rg.cell]; simp [u8s, hy]
        have f0 := rg.frozen q
        have hql : q < nB := by have := hzl.out; omega
        have Hs3 := Lib.hid hs3
        have Hs4 := Lib.hid hs4
        clear hs3 hs4 hy hjl hq hr hs hs2 hdiv hkk
        go_wp2
        go_region
        go_wp2
        go_roundg (k - j)
        case measure => exact r1
        case rel =>
          refine ⟨j + 1, zs.set q (y + s), by omega, by omega, rfl, (by show _ = _; rw [List.length_set]; exact hzl.out), Hs4.out, ?_, ?_, (rk.set (p := ⟨g, q, none⟩) (.inl rfl) _).drew⟩
          · show _ = _
            rw [Hs3.out]
            have := Hpush.out
            simpa using this
          · refine Blk.cast (rg.set q _).drew ?_
            simp [u8s, List.map_set]
    · obtain rfl : j = k := by omega
      rw [List.take_of_length_le (by rw [← Hkl.out]; exact Nat.le_refl _), Nat.sub_self, Nat.pow_zero, Nat.one_mul] at hzn
      go_wp2
      go_ret
      refine ⟨g, zs, by rw [hzl.out, HnB.out, Hkl.out], ?_, by rw [Hg.out]; exact Nat.le_refl _, rg, hzb.out, by rw [hzn.out, marked, ← Hkl.out], ?_⟩
      · rw [← Hkl.out, ← HnB.out]; rfl
      · exact (hk1.then rk (fun i hi h => by have := Hg.out; omega))
end

section
/-- A state of a symbol that leads to a state. -/
def FitsTo (tb : List (Nat × Nat × Nat)) (s t a : Nat) : Prop := symOf tb a = s ∧ baseS tb a ≤ t ∧ t < baseS tb a + 2 ^ bitsS tb a

set_option maxHeartbeats 2000000 in
set_option maxRecDepth 4000 in
theorem before_to (g L s t : Nat) (ps : List Int) (w : World) (hg : Blk w g 177 (flat cel3 (tab L ps))) (h : IsShares L ps) (hL : L ≤ 6) (hs : ps.getD s 0 ≠ 0) (ht : t < 2 ^ L) :
    Calls Tryd.prog 99 #[.agg #[.slice (some ⟨g, 0, none⟩) (2 ^ L) (2 ^ L), .int .i64 (L : Int)], .int .i64 (s : Int), .int .i64 (t : Int)] w fun e w' => ∃ a : Nat, e = .returned (.int .i64 (a : Int)) ∧ a < 2 ^ L ∧ FitsTo (tab L ps) s t a ∧ Kept w w' := by
  obtain ⟨N, hN⟩ : ∃ N, N = 2 ^ L := ⟨_, rfl⟩
  have hN64 : N ≤ 64 := by rw [hN]; exact (Nat.pow_le_pow_right (by decide) hL : 2 ^ L ≤ 2 ^ 6)
  obtain ⟨tb, htb⟩ : ∃ tb, tb = tab L ps := ⟨_, rfl⟩
  have htl : tb.length = N := by rw [htb, tab_length, hN]
  have hex : ∃ a, a < N ∧ FitsTo tb s t a := by
    obtain ⟨a, h1, h2, h3, h4⟩ := state_to h hs ht
    exact ⟨a, by rw [hN]; exact h1, by rw [htb]; exact ⟨h2, h3, h4⟩⟩
  have hbl : ∀ a, a < N → bitsS tb a ≤ L ∧ baseS tb a + 2 ^ bitsS tb a ≤ N := fun a ha => by
    have h1 := tab_next h (a := a) (x := 2 ^ bitsS (tab L ps) a - 1) (by rw [← hN]; exact ha) (by have := pow_pos' (bitsS (tab L ps) a); omega)
    rw [← htb, ← hN] at h1
    have := pow_pos' (bitsS tb a)
    omega
  rw [← htb] at hg ⊢
  rw [← hN] at ht ⊢
  have Hex := Lib.hid hex
  have Hbl := Lib.hid hbl
  have Htl := Lib.hid htl
  have hgw := hg.lt
  clear hex hbl htl htb hN hs h
  go_enter Tryd.func99, Tryd.ntmps99
  go_wp2
  obtain ⟨tbk, htbk⟩ : ∃ x, x = w.heap.size := ⟨_, rfl⟩
  rw [← htbk]
  obtain ⟨W, hW⟩ : ∃ x, x = w.alloc (.cells #[.slice (some ⟨g, 0, none⟩) N N, .int .i64 (L : Int)] 104) := ⟨_, rfl⟩
  rw [← hW]
  have hbW : Blk W tbk 104 [.slice (some ⟨g, 0, none⟩) N N, .int .i64 (L : Int)] := by rw [hW, htbk]; exact Blk.new w 104 _
  have hkW : Kept w W := by rw [hW]; exact (Keep.refl _ _).alloc _
  have hgW := hg.kept hkW
  have hgt : ¬ g = tbk := by omega
  have htg : ¬ tbk = g := by omega
  clear hW htbk hg
  go_loopg [7, 13] (N + 1) (fun f s7 s13 wr => ∃ (i : Nat) (best : Int), N - i < f ∧ i ≤ N ∧ s13 = .int .i64 i ∧ s7 = .int .i64 best ∧ Hid ((best = -1 ∧ ∀ j, j < i → ¬ FitsTo tb s t j) ∨ ∃ b : Nat, best = (b : Int) ∧ b < i ∧ FitsTo tb s t b) ∧ Kept W wr)
  case atStart => exact ⟨0, -1, by omega, by omega, rfl, rfl, .inl ⟨rfl, fun j hj => by omega⟩, Keep.refl _ _⟩
  case round =>
    obtain ⟨i, best, q1, q2, rfl, rfl, qb, qk⟩ := hrel
    by_cases hlt : i < N
    · have hi : tb[i]? = some (symOf tb i, bitsS tb i, baseS tb i) := tab_get (by rw [Htl.out]; exact hlt)
      obtain ⟨sy, hsy⟩ : ∃ x, x = symOf tb i := ⟨_, rfl⟩
      obtain ⟨bt, hbt⟩ : ∃ x, x = bitsS tb i := ⟨_, rfl⟩
      obtain ⟨ba, hba⟩ : ∃ x, x = baseS tb i := ⟨_, rfl⟩
      have hb2 := Hbl.out i hlt
      rw [← hsy, ← hbt, ← hba] at hi
      rw [← hbt, ← hba] at hb2
      have hgr := hgW.kept qk
      have e0 : wr.cell? ⟨g, i * 3, none⟩ = some (.int .i64 (sy : Int)) := hgr.row cel3_length (j := 0) hi rfl
      have e1 : wr.cell? ⟨g, i * 3 + 1, none⟩ = some (.int .i64 (bt : Int)) := hgr.row cel3_length (j := 1) hi rfl
      have e2 : wr.cell? ⟨g, i * 3 + 2, none⟩ = some (.int .i64 (ba : Int)) := hgr.row cel3_length (j := 2) hi rfl
      have d0 : wr.cell? ⟨tbk, 0, none⟩ = some (.slice (some ⟨g, 0, none⟩) N N) := (hbW.kept qk).cell 0
      obtain ⟨P, hP⟩ : ∃ P, P = 2 ^ bt := ⟨_, rfl⟩
      have hPi : (2 : Int) ^ bt = (P : Int) := by rw [two_pow_int, hP]
      rw [← hP] at hb2
      have hfit : FitsTo tb s t i ↔ sy = s ∧ ba ≤ t ∧ t < ba + P := by rw [hsy, hba, hP, hbt]; rfl
      have Hfit := Lib.hid hfit
      have hgs := hgr.lt
      have hts := (hbW.kept qk).lt
      clear hi hfit hP hsy hbt hba hgr
      have g0 : decide ((t : Int) < 0) = false := decide_eq_false (by omega)
      have w1 : IntKind.i64.wrap (P : Int) = P := by rw [IntKind.wrap_i64]; omega
      have w2 : IntKind.i64.wrap ((ba : Int) + (P : Int)) = (ba : Int) + (P : Int) := by rw [IntKind.wrap_i64]; omega
      by_cases h1 : sy = s
      · by_cases h2 : ba ≤ t
        · have g1 : decide (ba ≤ t) = true := decide_eq_true h2
          have g2 : decide ((ba : Int) ≤ (t : Int)) = true := decide_eq_true (by omega)
          by_cases h3 : t < ba + P
          · have g3 : decide (t < ba + P) = true := decide_eq_true h3
            have g4 : decide ((t : Int) < (ba : Int) + (P : Int)) = true := decide_eq_true (by omega)
            go_wp2
            go_quiet (fail)
            go_wp2
            go_roundg (N - i)
            case measure => exact q1
            case rel => exact ⟨i + 1, (i : Int), by omega, by omega, rfl, rfl, .inr ⟨i, rfl, by omega, Hfit.out.2 ⟨h1, h2, h3⟩⟩, (qk.alloc _).drewN _⟩
          · have g3 : decide (t < ba + P) = false := decide_eq_false h3
            have g4 : decide ((t : Int) < (ba : Int) + (P : Int)) = false := decide_eq_false (by omega)
            have Hno : Hid (Hid ((best = -1 ∧ ∀ j, j < i + 1 → ¬ FitsTo tb s t j) ∨ ∃ b : Nat, best = (b : Int) ∧ b < i + 1 ∧ FitsTo tb s t b)) := by
              show _ ∨ _
              rcases qb.out with ⟨e1, e2⟩ | ⟨b, e1, e2, e3⟩
              · refine .inl ⟨e1, fun j hj => ?_⟩
                by_cases hji : j = i
                · subst hji
                  rw [Hfit.out]; omega
                · exact e2 j (by omega)
              · exact .inr ⟨b, e1, by omega, e3⟩
            go_wp2
            go_quiet (fail)
            go_wp2
            go_roundg (N - i)
            case measure => exact q1
            case rel => exact ⟨i + 1, best, by omega, by omega, rfl, rfl, Hno.out, (qk.alloc _).drewN _⟩
        · have g1 : decide (ba ≤ t) = false := decide_eq_false h2
          have g2 : decide ((ba : Int) ≤ (t : Int)) = false := decide_eq_false (by omega)
          have Hno : Hid (Hid ((best = -1 ∧ ∀ j, j < i + 1 → ¬ FitsTo tb s t j) ∨ ∃ b : Nat, best = (b : Int) ∧ b < i + 1 ∧ FitsTo tb s t b)) := by
            show _ ∨ _
            rcases qb.out with ⟨e1, e2⟩ | ⟨b, e1, e2, e3⟩
            · refine .inl ⟨e1, fun j hj => ?_⟩
              by_cases hji : j = i
              · subst hji
                rw [Hfit.out]; omega
              · exact e2 j (by omega)
            · exact .inr ⟨b, e1, by omega, e3⟩
          go_wp2
          go_quiet (fail)
          go_wp2
          go_roundg (N - i)
          case measure => exact q1
          case rel => exact ⟨i + 1, best, by omega, by omega, rfl, rfl, Hno.out, (qk.alloc _).drewN _⟩
      · have hne : ((sy : Int) != (s : Int)) = true := bne_iff_ne.2 (by omega)
        have Hno : Hid (Hid ((best = -1 ∧ ∀ j, j < i + 1 → ¬ FitsTo tb s t j) ∨ ∃ b : Nat, best = (b : Int) ∧ b < i + 1 ∧ FitsTo tb s t b)) := by
          show _ ∨ _
          rcases qb.out with ⟨e1, e2⟩ | ⟨b, e1, e2, e3⟩
          · refine .inl ⟨e1, fun j hj => ?_⟩
            by_cases hji : j = i
            · subst hji
              rw [Hfit.out]; omega
            · exact e2 j (by omega)
          · exact .inr ⟨b, e1, by omega, e3⟩
        go_wp2
        go_roundg (N - i)
        case measure => exact q1
        case rel => exact ⟨i + 1, best, by omega, by omega, rfl, rfl, Hno.out, qk.alloc _⟩
    · obtain rfl : i = N := by omega
      obtain ⟨b, rfl, hb1, hb2⟩ : ∃ b : Nat, best = (b : Int) ∧ b < i ∧ FitsTo tb s t b := by
        rcases qb.out with ⟨e1, e2⟩ | h
        · obtain ⟨a, ha, hf⟩ := Hex.out
          exact absurd hf (e2 a ha)
        · exact h
      have Hb2 := Lib.hid hb2
      clear hb2
      go_wp2
      go_ret
      exact ⟨b, rfl, hb1, Hb2.out, hkW.trans qk⟩
set_option maxHeartbeats 2000000 in
set_option maxRecDepth 4000 in
theorem before_last (g L s : Nat) (ps : List Int) (w : World) (hg : Blk w g 177 (flat cel3 (tab L ps))) (h : IsShares L ps) (hL : L ≤ 6) (hs : ps.getD s 0 ≠ 0) (hslt : (ps.getD s 0).natAbs < 2 ^ L) :
    Calls Tryd.prog 99 #[.agg #[.slice (some ⟨g, 0, none⟩) (2 ^ L) (2 ^ L), .int .i64 (L : Int)], .int .i64 (s : Int), .int .i64 (-1)] w fun e w' => ∃ a : Nat, e = .returned (.int .i64 (a : Int)) ∧ a < 2 ^ L ∧ symOf (tab L ps) a = s ∧ 0 < bitsS (tab L ps) a ∧ Kept w w' := by
  obtain ⟨N, hN⟩ : ∃ N, N = 2 ^ L := ⟨_, rfl⟩
  have hN64 : N ≤ 64 := by rw [hN]; exact (Nat.pow_le_pow_right (by decide) hL : 2 ^ L ≤ 2 ^ 6)
  obtain ⟨tb, htb⟩ : ∃ tb, tb = tab L ps := ⟨_, rfl⟩
  have htl : tb.length = N := by rw [htb, tab_length, hN]
  have hex : ∃ a, a < N ∧ symOf tb a = s ∧ 0 < bitsS tb a := by
    obtain ⟨a, h1, h2, h3⟩ := state_bits h hs hslt
    exact ⟨a, by rw [hN]; exact h1, by rw [htb]; exact ⟨h2, h3⟩⟩
  have hbl : ∀ a, a < N → bitsS tb a ≤ L ∧ baseS tb a + 2 ^ bitsS tb a ≤ N := fun a ha => by
    have h1 := tab_next h (a := a) (x := 2 ^ bitsS (tab L ps) a - 1) (by rw [← hN]; exact ha) (by have := pow_pos' (bitsS (tab L ps) a); omega)
    rw [← htb, ← hN] at h1
    have := pow_pos' (bitsS tb a)
    omega
  rw [← htb] at hg ⊢
  rw [← hN]
  have Hex := Lib.hid hex
  have Hbl := Lib.hid hbl
  have Htl := Lib.hid htl
  have hgw := hg.lt
  clear hex hbl htl htb hN hs hslt h
  go_enter Tryd.func99, Tryd.ntmps99
  go_wp2
  obtain ⟨tbk, htbk⟩ : ∃ x, x = w.heap.size := ⟨_, rfl⟩
  rw [← htbk]
  obtain ⟨W, hW⟩ : ∃ x, x = w.alloc (.cells #[.slice (some ⟨g, 0, none⟩) N N, .int .i64 (L : Int)] 104) := ⟨_, rfl⟩
  rw [← hW]
  have hbW : Blk W tbk 104 [.slice (some ⟨g, 0, none⟩) N N, .int .i64 (L : Int)] := by rw [hW, htbk]; exact Blk.new w 104 _
  have hkW : Kept w W := by rw [hW]; exact (Keep.refl _ _).alloc _
  have hgW := hg.kept hkW
  have hgt : ¬ g = tbk := by omega
  have htg : ¬ tbk = g := by omega
  clear hW htbk hg
  go_loopg [7, 13] (N + 1) (fun f s7 s13 wr => ∃ (i : Nat) (best : Int), N - i < f ∧ i ≤ N ∧ s13 = .int .i64 i ∧ s7 = .int .i64 best ∧ ((best = -1 ∧ Hid (∀ j, j < i → ¬ symOf tb j = s)) ∨ ∃ b : Nat, best = (b : Int) ∧ b < i ∧ Hid (symOf tb b = s ∧ ∀ j, j < i → symOf tb j = s → bitsS tb j ≤ bitsS tb b)) ∧ Kept W wr)
  case atStart => exact ⟨0, -1, by omega, by omega, rfl, rfl, .inl ⟨rfl, fun j hj => by omega⟩, Keep.refl _ _⟩
  case round =>
    obtain ⟨i, best, q1, q2, rfl, rfl, qb, qk⟩ := hrel
    by_cases hlt : i < N
    · have hi : tb[i]? = some (symOf tb i, bitsS tb i, baseS tb i) := tab_get (by rw [Htl.out]; exact hlt)
      obtain ⟨sy, hsy⟩ : ∃ x, x = symOf tb i := ⟨_, rfl⟩
      obtain ⟨bt, hbt⟩ : ∃ x, x = bitsS tb i := ⟨_, rfl⟩
      obtain ⟨ba, hba⟩ : ∃ x, x = baseS tb i := ⟨_, rfl⟩
      have hb2 := Hbl.out i hlt
      rw [← hsy, ← hbt, ← hba] at hi
      rw [← hbt, ← hba] at hb2
      have hgr := hgW.kept qk
      have e0 : wr.cell? ⟨g, i * 3, none⟩ = some (.int .i64 (sy : Int)) := hgr.row cel3_length (j := 0) hi rfl
      have e1 : wr.cell? ⟨g, i * 3 + 1, none⟩ = some (.int .i64 (bt : Int)) := hgr.row cel3_length (j := 1) hi rfl
      have e2 : wr.cell? ⟨g, i * 3 + 2, none⟩ = some (.int .i64 (ba : Int)) := hgr.row cel3_length (j := 2) hi rfl
      have d0 : wr.cell? ⟨tbk, 0, none⟩ = some (.slice (some ⟨g, 0, none⟩) N N) := (hbW.kept qk).cell 0
      obtain ⟨P, hP⟩ : ∃ P, P = 2 ^ bt := ⟨_, rfl⟩
      have hPi : (2 : Int) ^ bt = (P : Int) := by rw [two_pow_int, hP]
      rw [← hP] at hb2
      have hfit : symOf tb i = s ↔ sy = s := by rw [hsy]
      have Hfit := Lib.hid hfit
      have Hbt := Lib.hid hbt
      have hgs := hgr.lt
      have hts := (hbW.kept qk).lt
      have g0 : decide ((-1 : Int) < 0) = true := by decide
      have g1 : decide ((ba : Int) ≤ -1) = false := decide_eq_false (by omega)
      by_cases h1 : sy = s
      · rcases qb with ⟨rfl, qb⟩ | ⟨b, rfl, hbi, qb⟩
        · clear hi hfit hP hsy hbt hba hgr
          go_wp2
          go_quiet (fail)
          go_wp2
          go_roundg (N - i)
          case measure => exact q1
          case rel =>
            refine ⟨i + 1, (i : Int), by omega, by omega, rfl, rfl, .inr ⟨i, rfl, by omega, Hfit.out.2 h1, fun j hj hsj => ?_⟩, (qk.alloc _).drewN _⟩
            by_cases hji : j = i
            · subst hji; exact Nat.le_refl _
            · exact absurd hsj (qb.out j (by omega))
        · have hbg := tab_get (tb := tb) (a := b) (by rw [Htl.out]; omega)
          obtain ⟨b1, hb1⟩ : ∃ x, x = bitsS tb b := ⟨_, rfl⟩
          have eb : wr.cell? ⟨g, b * 3 + 1, none⟩ = some (.int .i64 (b1 : Int)) := hgr.row cel3_length (j := 1) hbg (by rw [hb1]; rfl)
          have g2 : decide ((b : Int) < 0) = false := decide_eq_false (by omega)
          have hbN : b < N := by omega
          have Hb1 := Lib.hid hb1
          clear hi hfit hP hsy hbt hba hgr hb1 hbg
          by_cases h2 : b1 < bt
          · have g3 : decide (b1 < bt) = true := decide_eq_true h2
            have g4 : decide ((b1 : Int) < (bt : Int)) = true := decide_eq_true (by omega)
            go_wp2
            go_quiet (fail)
            go_wp2
            go_roundg (N - i)
            case measure => exact q1
            case rel =>
              refine ⟨i + 1, (i : Int), by omega, by omega, rfl, rfl, .inr ⟨i, rfl, by omega, Hfit.out.2 h1, fun j hj hsj => ?_⟩, (qk.alloc _).drewN _⟩
              by_cases hji : j = i
              · subst hji; exact Nat.le_refl _
              · have := qb.out.2 j (by omega) hsj
                have := Hb1.out
                have := Hbt.out
                omega
          · have g3 : decide (b1 < bt) = false := decide_eq_false h2
            have g4 : decide ((b1 : Int) < (bt : Int)) = false := decide_eq_false (by omega)
            go_wp2
            go_quiet (fail)
            go_wp2
            go_roundg (N - i)
            case measure => exact q1
            case rel =>
              refine ⟨i + 1, (b : Int), by omega, by omega, rfl, rfl, .inr ⟨b, rfl, by omega, qb.out.1, fun j hj hsj => ?_⟩, (qk.alloc _).drewN _⟩
              by_cases hji : j = i
              · subst hji
                have := Hb1.out
                have := Hbt.out
                omega
              · exact qb.out.2 j (by omega) hsj
      · have hne : ((sy : Int) != (s : Int)) = true := bne_iff_ne.2 (by omega)
        have Qb := Lib.hid qb
        clear hi hfit hP hsy hbt hba hgr qb
        go_wp2
        go_roundg (N - i)
        case measure => exact q1
        case rel =>
          refine ⟨i + 1, best, by omega, by omega, rfl, rfl, ?_, qk.alloc _⟩
          rcases Qb.out with ⟨e1, qb⟩ | ⟨b, e1, hbi, qb⟩
          · refine .inl ⟨e1, fun j hj => ?_⟩
            by_cases hji : j = i
            · subst hji
              rw [Hfit.out]; exact h1
            · exact qb.out j (by omega)
          · refine .inr ⟨b, e1, by omega, qb.out.1, fun j hj hsj => ?_⟩
            by_cases hji : j = i
            · subst hji
              exact absurd (Hfit.out.1 hsj) h1
            · exact qb.out.2 j (by omega) hsj
    · obtain rfl : i = N := by omega
      obtain ⟨a, ha, hsa, hba⟩ := Hex.out
      rcases qb with ⟨_, qb⟩ | ⟨b, rfl, hbi, qb⟩
      · exact absurd hsa (qb.out a ha)
      · have hpos : 0 < bitsS tb b := by have := qb.out.2 a ha hsa; omega
        have Hpos := Lib.hid hpos
        clear hpos hba hsa
        go_wp2
        go_ret
        exact ⟨b, rfl, hbi, qb.out.1, Hpos.out, hkW.trans qk⟩
end
end

section
section
theorem own_some {w : World} {base n size : Nat} {e : TypeId} {A : Option Addr} {c : Nat} {xs : List Value} (h : w.ownsRow base e size (.slice A n c) n xs) (hn : 0 < n) : ∃ g, A = some ⟨g, 0, none⟩ ∧ base ≤ g ∧ g < w.heap.size := by
  rcases h.2 with ⟨_, h0⟩ | ⟨g, cap, cur, hv, hb, hg, _⟩
  · omega
  · injection hv with h1 h2 h3
    exact ⟨g, h1, hb, (Array.getElem?_eq_some_iff.1 hg).1⟩
theorem getD_set {α : Type} (l : List α) (i : Nat) (x : α) (j : Nat) {d : α} : (l.set i x).getD j d = if j = i ∧ i < l.length then x else l.getD j d := by
  rw [List.getD_eq_getElem?_getD, List.getElem?_set, List.getD_eq_getElem?_getD]
  by_cases h : i = j
  · subst h
    by_cases h2 : i < l.length
    · simp [h2]
    · simp [h2]
  · rw [if_neg h, if_neg (fun hh => h hh.1.symm)]
theorem getD_push_zero (l : List Nat) (j : Nat) : (l ++ [0]).getD j 0 = l.getD j 0 := by
  rw [List.getD_eq_getElem?_getD, List.getD_eq_getElem?_getD]
  by_cases h : j < l.length
  · rw [List.getElem?_append_left h]
  · rw [List.getElem?_append_right (by omega), List.getElem?_eq_none (by omega : l.length ≤ j)]
    by_cases h2 : j - l.length = 0
    · rw [h2]; rfl
    · rw [List.getElem?_eq_none (by simp; omega)]
theorem counts_step {ws cs cs' : List Nat} {i s : Nat} (hws : ws[i]? = some s) (hc : ∀ j, cs'.getD j 0 = (ws.take i).count j) (hl : cs' = cs ∨ cs'.length ≤ s + 1) (hs : s < cs'.length) (hlast : cs ≠ [] → cs.getD (cs.length - 1) 0 ≠ 0) :
    Counts (ws.take (i + 1)) (cs'.set s (cs'.getD s 0 + 1)) := by
  refine ⟨fun j => ?_, fun _ => ?_⟩
  · rw [getD_set, take_push hws, List.count_append, List.count_singleton]
    by_cases hj : j = s
    · subst hj
      rw [if_pos ⟨rfl, hs⟩, hc]
      simp
    · rw [if_neg (fun h => hj h.1), hc]
      have : (s == j) = false := beq_eq_false_iff_ne.2 (fun h => hj h.symm)
      rw [this]; rfl
  · rw [List.length_set, getD_set]
    split
    · omega
    · rename_i hne
      rcases hl with rfl | hl
      · exact hlast (by rintro rfl; simp at hs)
      · exact absurd ⟨(by omega : cs'.length - 1 = s), hs⟩ hne

theorem getD_ofNat (l : List Nat) (x : Nat) : (l.map Int.ofNat).getD x 0 = (l.getD x 0 : Nat) := by
  rw [List.getD_eq_getElem?_getD, List.getD_eq_getElem?_getD, List.getElem?_map]
  cases l[x]? <;> rfl

set_option maxHeartbeats 4000000 in
set_option maxRecDepth 4000 in
theorem sharesW_any {R R' : Nat → Prop} (wb cb k L : Nat) (A : Option Addr) (c : Nat) (ws : List Nat) (w : World) (hw : w.cell? ⟨wb, 0, none⟩ = some (.pointer (some ⟨cb, 0, none⟩))) (hwc : wb ≠ cb) (hc : Chz w R cb k) (hRcb : ¬ R cb) (hRw : ∀ j, R j → j < w.heap.size) (hk : k ≤ 1073741824)
    (hs : Sl w R' A (nats ws)) (_hR' : ¬ R' cb) (h12 : ∀ x ∈ ws, x < 12) (hl : ws.length ≤ 255) (hl1 : 1 ≤ ws.length) (h5 : 5 ≤ L) (h6 : L ≤ 6) :
    Calls Tryd.prog 98 #[.pointer (some ⟨wb, 0, none⟩), .slice A ws.length c, .int .i64 (L : Int)] w fun e w' => ∃ k', k' ≤ k + 12 ∧ Chz w' R cb k' ∧ Keep (· = cb) w w' ∧
      (e = .returned (.slice none 0 0) ∨ ∃ g c' ps, e = .returned (.slice (some ⟨g, 0, none⟩) (List.length ps) c') ∧ ShareOf ws L ps ∧ w.heap.size ≤ g ∧ Blk w' g 3 (i64s ps)) := by
  obtain ⟨N, hN⟩ : ∃ N, N = 2 ^ L := ⟨_, rfl⟩
  have hNi : (2 : Int) ^ L = (N : Int) := by rw [two_pow_int, hN]
  have hN64 : N ≤ 64 := by rw [hN]; exact (Nat.pow_le_pow_right (by decide) h6 : 2 ^ L ≤ 2 ^ 6)
  obtain ⟨M, hM⟩ : ∃ M, M = ws.length := ⟨_, rfl⟩
  have HN := Lib.hid hN
  have Hc := Lib.hid hc
  have H12 := Lib.hid h12
  have HM := Lib.hid hM
  have HRw := Lib.hid hRw
  rw [← hM] at hl hl1 ⊢
  clear hN hc h12 hM hRw
  go_enter Tryd.func98, Tryd.ntmps98
  go_wp2
  go_loopg [7, 21] (M + 1) (fun g s7 s21 wr => ∃ (i n : Nat) (A' : Option Addr) (c' : Nat) (cs : List Nat), M - i < g ∧ i ≤ M ∧ s21 = .int .i64 i ∧ s7 = .slice A' n c' ∧ n ≤ 12 ∧ wr.ownsRow w.heap.size 3 1 (.slice A' n c') n (nats cs) ∧ Hid (n = cs.length) ∧ Hid (Counts (ws.take i) cs) ∧ Kept w wr)
  case atStart => exact ⟨0, 0, none, 0, [], by omega, by omega, rfl, rfl, by omega, World.ownsRow_nil _ _ _ _, rfl, ⟨fun s => by simp, fun h => absurd rfl h⟩, Keep.refl _ _⟩
  case round =>
    obtain ⟨i, n, A', c', cs, q1, q2, rfl, rfl, q3, qo, qn, qc, qk⟩ := hrel
    by_cases hlt : i < M
    · obtain ⟨g, o, s, hR, rfl, hcx, hxk⟩ := (hs.kept qk).nat (k := i) (by rw [← HM.out]; exact hlt)
      have hs12 : s < 12 := H12.out s (List.mem_of_getElem? hxk.out)
      go_wp2
      go_loopg [7] (s + 3) (fun gg s7 wr2 => ∃ (n' : Nat) (A2 : Option Addr) (c2 : Nat) (cs' : List Nat), s + 1 - n' < gg ∧ s7 = .slice A2 n' c2 ∧ n' ≤ 12 ∧ wr2.ownsRow w.heap.size 3 1 (.slice A2 n' c2) n' (nats cs') ∧ Hid (n' = cs'.length) ∧ Hid (∀ j, cs'.getD j 0 = (ws.take i).count j) ∧ Hid (cs' = cs ∨ n' ≤ s + 1) ∧ Kept w wr2)
      case atStart => exact ⟨n, A', c', cs, by omega, rfl, by omega, qo, qn.out, qc.out.1, .inl rfl, qk⟩
      case round =>
        obtain ⟨n', A2, c2, cs', r1, rfl, r2, ro, rn, rc, rl, rk⟩ := hrel
        by_cases hn : n' ≤ s
        · go_wp2_with (at_builtin; refine wpList_push rfl _ _ rfl elInt rk A2 n' c2 _ rfl ro [.int .i64 0] rfl rfl (by simp [Value.oneCell']) (by omega) ?_; intro A3 c3 w3 ho3 hk3 hg3)
          go_roundg (s + 1 - n')
          case measure => omega
          case rel => exact ⟨n' + 1, A3, c3, cs' ++ [0], by omega, rfl, by omega, by rw [nats_push]; exact ho3, by show _ = _; rw [List.length_append, ← rn.out]; rfl, fun j => by rw [getD_push_zero, rc.out], .inr (by omega), hk3⟩
        · obtain ⟨g2, rfl, hg2b, hg2l⟩ := own_some ro (by omega)
          obtain ⟨x, hx⟩ : ∃ x, cs'[s]? = some x := ⟨_, List.getElem?_eq_getElem (by rw [← rn.out]; omega)⟩
          have hxd : cs'.getD s 0 = x := by rw [List.getD_eq_getElem?_getD, hx]; rfl
          have d0 : wr.cell? ⟨g2, s, none⟩ = some (.int .i64 (x : Int)) := by
            rw [ro.cellAt s (by omega), nats, List.getElem?_map, hx]; rfl
          have f0 := ro.frozenAt s
          have hst := counts_step hxk.out rc.out (by rcases rl.out with h | h; exact .inl h; exact .inr (by rw [← rn.out]; exact h)) (by rw [← rn.out]; omega) qc.out.2
          rw [hxd] at hst
          have hx255 : x ≤ 255 := by
            have h1 := rc.out s
            rw [hxd] at h1
            have h2 := List.count_le_length (a := s) (l := ws.take i)
            rw [List.length_take] at h2
            have h3 := HM.out
            omega
          have hsn : s < n' := by omega
          have Hst := Lib.hid hst
          have hroS := ro.stored s (.int .i64 ((x : Int) + 1))
          have HroS := Lib.hid hroS
          clear hst hx hxd hroS
          go_wp2
          go_roundg (M - i)
          case measure => exact q1
          case rel =>
            refine ⟨i + 1, n', _, c2, cs'.set s (x + 1), by omega, by omega, rfl, rfl, by omega, ?_, by show _ = _; rw [List.length_set, ← rn.out], Hst.out, rk.set (p := ⟨g2, s, none⟩) (.inr hg2b) _⟩
            have := HroS.out.1
            rw [show ((x : Int) + 1) = ((x + 1 : Nat) : Int) by omega, nats_set] at this
            exact this
    · obtain rfl : i = M := by omega
      rw [List.take_of_length_le (by rw [← HM.out]; exact Nat.le_refl _)] at qc
      have hcs := qc.out
      have hn1 : 1 ≤ n := by
        obtain ⟨x, r, hxr⟩ : ∃ x r, ws = x :: r := by
          cases hws : ws with
          | nil => rw [hws] at HM; have := HM.out; simp at this; omega
          | cons x r => exact ⟨x, r, rfl⟩
        have h1 := hcs.1 x
        have h2 : 0 < ws.count x := List.count_pos_iff.2 (by rw [hxr]; exact List.mem_cons_self ..)
        refine Nat.lt_of_not_le fun h => ?_
        have h3 : cs = [] := List.eq_nil_of_length_eq_zero (by rw [← qn.out]; omega)
        rw [h3] at h1
        simp at h1
        omega
      have hcl : ∀ j, cs.getD j 0 ≤ i := fun j => by
        rw [hcs.1 j]
        have := List.count_le_length (a := j) (l := ws)
        rw [← HM.out] at this
        exact this
      obtain ⟨g7, rfl, hg7b, hg7l⟩ := own_some qo (by omega)
      have hsc := Sl.of_own qo
      have Hcs := Lib.hid hcs
      have Hcl := Lib.hid hcl
      have hkw := qk
      clear hcs hcl qc q1 q2 hlt
      go_upto_region 9 with (fail)
      go_quiet (fail)
      obtain ⟨W0, hW0⟩ : ∃ x, x = wr.drewN nq := ⟨_, rfl⟩
      have hkW0 : Kept w W0 := by rw [hW0]; exact hkw.drewN _
      have hsc0 : Sl W0 (fun j => w.heap.size ≤ j ∧ j < W0.heap.size) (some ⟨g7, 0, none⟩) (nats cs) := by rw [hW0]; exact hsc
      rw [← hW0]
      clear hW0 hkw hsc qo qk hg7l
      go_wp2_with (at_make; refine wpList_make rfl _ _ rfl elInt .i64 .i64 n n rfl rfl (Nat.le_refl _) (by omega) ?_; intro w1 hk1 hg1)
      obtain ⟨gb, hgb⟩ : ∃ x, x = W0.heap.size := ⟨_, rfl⟩
      rw [← hgb] at hg1 ⊢
      have hg2 : Blk w1 gb 3 (nats (List.replicate n 0)) := Blk.cast hg1 (by rw [Nat.mul_one, ← nats_zeros]; exact made_list (.int .i64 0) rfl n)
      have hsc1 := hsc0.kept hk1
      have hkw1 := hkW0.trans hk1
      have hwgb : w.heap.size ≤ gb := by rw [hgb]; exact hkW0.size
      have Hgb := Lib.hid hgb
      have hg1l := hg2.lt
      clear hg1 hsc0 hgb
      go_loopg [11, 12, 13, 48] (n + 1) (fun gg s11 s12 s13 s48 wr2 => ∃ (s used great : Nat) (left : Int) (os : List Nat), n - s < gg ∧ s ≤ n ∧ s48 = .int .i64 s ∧ s11 = .int .i64 used ∧ s12 = .int .i64 left ∧ s13 = .int .i64 great ∧ great < n ∧ used ≤ s ∧ left ≤ 64 ∧ -(16384 * (s : Int)) ≤ left ∧
        Hid (os.length = n) ∧ Hid (used = (usedC (cs.take s)).length) ∧ Hid (left + (os.sum : Int) = N) ∧ Hid (∀ j, j < s → cs.getD j 0 ≠ 0 → 1 ≤ os.getD j 0) ∧ Hid (∀ j, s ≤ j → os.getD j 0 = 0) ∧ Hid (∀ j, os.getD j 0 ≤ 16384) ∧ Blk wr2 gb 3 (nats os) ∧ Keep (· = gb) w1 wr2)
      case atStart =>
        refine ⟨0, 0, 0, N, List.replicate n 0, by omega, by omega, rfl, rfl, rfl, rfl, by omega, by omega, by omega, by omega, List.length_replicate .., rfl, ?_, fun j hj => by omega, fun j _ => ?_, fun j => ?_, hg2, Keep.refl _ _⟩
        · show _ = _
          simp
        · rw [List.getD_eq_getElem?_getD, List.getElem?_replicate]; split <;> rfl
        · rw [List.getD_eq_getElem?_getD, List.getElem?_replicate]; split <;> simp
      case round =>
        clear hg2
        obtain ⟨s, used, great, left, os, r1, r2, rfl, rfl, rfl, rfl, r3, r4, r5, r6, ol, ou, osum, o1, o0, o16, rb, rk⟩ := hrel
        by_cases hs : s < n
        · obtain ⟨gx, ox, x, hRx, hAx, hcx, hxk⟩ := (hsc1.keep rk (fun i _ h1 h2 => by have := Hgb.out; omega)).nat (k := s) (by rw [← qn.out]; exact hs)
          simp only [Option.some.injEq, Addr.mk.injEq] at hAx
          obtain ⟨rfl, rfl, _⟩ := hAx
          rw [Nat.zero_add] at hcx
          have hup := usedC_push hxk.out
          have hxd : cs.getD s 0 = x := by rw [List.getD_eq_getElem?_getD, hxk.out]; rfl
          have hxi : x ≤ i := by rw [← hxd]; exact Hcl.out s
          have Hxd := Lib.hid hxd
          clear hxd
          by_cases hx0 : x = 0
          · rw [if_pos hx0, List.append_nil] at hup
            have Hup := Lib.hid hup
            clear hup
            subst hx0
            have hcx0 : wr.cell? ⟨g7, s, none⟩ = some (.int .i64 0) := hcx
            clear hcx
            go_wp2
            go_roundg (n - s)
            case measure => exact r1
            case rel => exact ⟨s + 1, used, great, left, os, by omega, by omega, rfl, rfl, rfl, rfl, r3, by omega, r5, by omega, ol, by show _ = _; rw [Hup.out]; exact ou.out, osum, fun j hj hc => by
              by_cases hjs : j = s
              · subst hjs; exact absurd Hxd.out hc
              · exact o1.out j (by omega) hc, fun j hj => o0.out j (by omega), o16, rb, rk⟩
          · rw [if_neg hx0] at hup
            have Hup := Lib.hid hup
            clear hup
            have hxb : ((x : Int) == 0) = false := beq_eq_false_iff_ne.2 (by omega)
            obtain ⟨P, hP⟩ : ∃ P, P = x * N := ⟨_, rfl⟩
            have hPi : (x : Int) * (N : Int) = (P : Int) := by rw [hP, Int.natCast_mul]
            have hPb : P ≤ 16384 := by rw [hP]; exact Nat.le_trans (Nat.mul_le_mul hxi hN64) (by omega)
            obtain ⟨D, hD⟩ : ∃ D, D = P / i := ⟨_, rfl⟩
            have hDb : D ≤ 16384 := by rw [hD]; exact Nat.le_trans (Nat.div_le_self _ _) hPb
            have hDi : (P : Int) / (i : Int) = (D : Int) := by rw [hD, Int.natCast_ediv]
            have hDt : (P : Int).tdiv (i : Int) = (D : Int) := by rw [Int.tdiv_eq_ediv_of_nonneg (by omega)]; exact hDi
            obtain ⟨E, hE⟩ : ∃ E, E = D / 2 := ⟨_, rfl⟩
            have hEi : (D : Int) / 2 = (E : Int) := by omega
            have hEt : (D : Int).tdiv 2 = (E : Int) := by rw [Int.tdiv_eq_ediv_of_nonneg (by omega)]; exact hEi
            obtain ⟨y, hy⟩ : ∃ y, y = max 1 E := ⟨_, rfl⟩
            have hyi : max (1 : Int) (E : Int) = (y : Int) := by omega
            have hy1 : 1 ≤ y := by omega
            have hyb : y ≤ 16384 := by omega
            have hosx : os[s]? = some 0 := by
              have := o0.out s (Nat.le_refl _)
              rw [List.getD_eq_getElem?_getD, List.getElem?_eq_getElem (by rw [ol.out]; exact hs)] at this
              rw [List.getElem?_eq_getElem (by rw [ol.out]; exact hs)]
              exact congrArg some this
            have e0 : wr.cell? ⟨gb, s, none⟩ = some (.int .i64 0) := by rw [rb.cell, nats, List.getElem?_map, hosx]; rfl
            have f0 := rb.frozen s
            have hsum := sum_set os s 0 y hosx
            have Hsum := Lib.hid hsum
            have Hosx := Lib.hid hosx
            clear hP hD hE hy hsum hosx
            go_upto_region 18 with (fail)
            obtain ⟨os', hos'⟩ : ∃ x, x = os.set s y := ⟨_, rfl⟩
            obtain ⟨W2, hW2⟩ : ∃ x, x = wr.setCell ⟨gb, s, none⟩ (.int .i64 (y : Int)) := ⟨_, rfl⟩
            rw [← hW2]
            have rb2 : Blk W2 gb 3 (nats os') := by rw [hW2, hos', ← nats_set]; exact rb.set s _
            have rk2 : Keep (· = gb) w1 W2 := by rw [hW2]; exact rk.set (p := ⟨gb, s, none⟩) (.inl rfl) _
            have hl2 : os'.length = n := by rw [hos', List.length_set]; exact ol.out
            have hgs : os'.getD s 0 = y := by rw [hos', getD_set, if_pos ⟨rfl, by rw [ol.out]; exact hs⟩]
            have hother : ∀ j, j ≠ s → os'.getD j 0 = os.getD j 0 := fun j hj => by rw [hos', getD_set, if_neg (fun h => hj h.1)]
            have hat : ∀ j, j < n → W2.cell? ⟨gb, j, none⟩ = some (.int .i64 ((os'.getD j 0 : Nat) : Int)) := fun j hj => by
              rw [rb2.cell, nats_at (by rw [hl2]; exact hj)]
            have e1 := hat s hs
            rw [hgs] at e1
            obtain ⟨gy, hgy⟩ : ∃ x, x = os'.getD great 0 := ⟨_, rfl⟩
            have e2 := hat great r3
            rw [← hgy] at e2
            have hgyb : gy ≤ 16384 := by
              rw [hgy]
              by_cases hgs2 : great = s
              · rw [hgs2, hgs]; exact hyb
              · rw [hother great hgs2]; exact o16.out great
            have hsum2 : left - (y : Int) + (os'.sum : Int) = N := by have := osum.out; have := Hsum.out; rw [← hos'] at this; omega
            have hrel2 : (∀ j, j < s + 1 → cs.getD j 0 ≠ 0 → 1 ≤ os'.getD j 0) ∧ (∀ j, s + 1 ≤ j → os'.getD j 0 = 0) ∧ (∀ j, os'.getD j 0 ≤ 16384) := by
              refine ⟨fun j hj hc => ?_, fun j hj => ?_, fun j => ?_⟩
              · by_cases hjs : j = s
                · rw [hjs, hgs]; exact hy1
                · rw [hother j hjs]; exact o1.out j (by omega) hc
              · rw [hother j (by omega)]; exact o0.out j (by omega)
              · by_cases hjs : j = s
                · rw [hjs, hgs]; exact hyb
                · rw [hother j hjs]; exact o16.out j
            have Hrel2 := Lib.hid hrel2
            have Hl2 := Lib.hid hl2
            have Hsum2 := Lib.hid hsum2
            clear hW2 hos' hl2 hgs hother hat hgy hsum2 hrel2 rb rk o1 o0 o16 osum ol e0 f0 hcx
            by_cases hge : gy ≤ y
            · have d1 : decide (gy ≤ y) = true := decide_eq_true hge
              have d2 : decide ((gy : Int) ≤ (y : Int)) = true := decide_eq_true (by omega)
              go_wp2
              go_quiet (fail)
              go_wp2
              go_roundg (n - s)
              case measure => exact r1
              case rel => exact ⟨s + 1, used + 1, s, left - (y : Int), os', by omega, by omega, rfl, rfl, rfl, rfl, hs, by omega, by omega, by omega, Hl2.out, by show _ = _; rw [Hup.out, List.length_append, ← ou.out]; rfl, Hsum2.out, Hrel2.out.1, Hrel2.out.2.1, Hrel2.out.2.2, rb2.drewN _, rk2.drewN _⟩
            · have d1 : decide (gy ≤ y) = false := decide_eq_false hge
              have d2 : decide ((gy : Int) ≤ (y : Int)) = false := decide_eq_false (by omega)
              go_wp2
              go_quiet (fail)
              go_wp2
              go_roundg (n - s)
              case measure => exact r1
              case rel => exact ⟨s + 1, used + 1, great, left - (y : Int), os', by omega, by omega, rfl, rfl, rfl, rfl, r3, by omega, by omega, by omega, Hl2.out, by show _ = _; rw [Hup.out, List.length_append, ← ou.out]; rfl, Hsum2.out, Hrel2.out.1, Hrel2.out.2.1, Hrel2.out.2.2, rb2.drewN _, rk2.drewN _⟩
        · obtain rfl : s = n := by omega
          rw [List.take_of_length_le (by rw [← qn.out]; exact Nat.le_refl _)] at ou
          have hkk : Kept w wr := hkw1.then rk (fun j hj h => by omega)
          by_cases hu2 : used < 2
          · clear o1 o0 o16
            go_wp2
            go_ret
            exact ⟨k, by omega, Hc.out.kept hkk, Kept.any hkk _, .inl rfl⟩
          by_cases hlf : left < 0
          · clear o1 o0 o16
            go_wp2
            go_ret
            exact ⟨k, by omega, Hc.out.kept hkk, Kept.any hkk _, .inl rfl⟩
          obtain ⟨lv, rfl⟩ : ∃ lv : Nat, left = (lv : Int) := ⟨left.toNat, by omega⟩
          obtain ⟨gy, hgy⟩ : ∃ x, x = os.getD great 0 := ⟨_, rfl⟩
          have hog : os[great]? = some gy := by
            rw [hgy, List.getD_eq_getElem?_getD, List.getElem?_eq_getElem (by rw [ol.out]; exact r3)]; rfl
          have hgyb : gy ≤ 16384 := by rw [hgy]; exact o16.out great
          have e0 : wr.cell? ⟨gb, great, none⟩ = some (.int .i64 (gy : Int)) := by rw [rb.cell, nats, List.getElem?_map, hog]; rfl
          have f0 := rb.frozen great
          have hs2 := sum_set os great gy (gy + lv) hog
          obtain ⟨os2, hos2⟩ : ∃ x, x = os.set great (gy + lv) := ⟨_, rfl⟩
          have hsum : os2.sum = N := by rw [hos2]; have := osum.out; omega
          have hl2 : os2.length = s := by rw [hos2, List.length_set]; exact ol.out
          have hpos2 : ∀ j, cs.getD j 0 ≠ 0 → 1 ≤ os2.getD j 0 := fun j hj => by
            have hjn : j < s := by
              refine Nat.lt_of_not_le fun h => hj ?_
              rw [List.getD_eq_getElem?_getD, List.getElem?_eq_none (by rw [← qn.out]; exact h)]; rfl
            have h1 := o1.out j hjn hj
            rw [hos2, getD_set]
            split
            · rename_i h; rw [h.1] at h1; omega
            · exact h1
          have Hsum := Lib.hid hsum
          have Hl2 := Lib.hid hl2
          have Hpos2 := Lib.hid hpos2
          clear hgy hog hs2 hsum hl2 hpos2 o1 o0 o16 osum ol
          go_upto_region 25 with (fail)
          obtain ⟨W2, hW2⟩ : ∃ x, x = wr.setCell ⟨gb, great, none⟩ (.int .i64 ((gy : Int) + (lv : Int))) := ⟨_, rfl⟩
          rw [← hW2]
          have rb2 : Blk W2 gb 3 (nats os2) := by
            rw [hW2, hos2, ← nats_set, show ((gy + lv : Nat) : Int) = (gy : Int) + (lv : Int) by omega]; exact rb.set great _
          have rk2 : Keep (· = gb) w1 W2 := by rw [hW2]; exact rk.set (p := ⟨gb, great, none⟩) (.inl rfl) _
          have hkk2 : Kept w W2 := hkw1.then rk2 (fun j hj h => by omega)
          have hwb2 := hkk2.cell hw (fun h => h)
          have hwbl := World.block_lt_of_cell? w _ hw
          have hcb2 : cb < w.heap.size := by obtain ⟨_, _, _, _, hb, _⟩ := Hc.out; exact hb.lt
          have hcz2 := Hc.out.kept hkk2
          have hRcb2 : ∀ j, R j → j ≠ cb ∧ j ≠ gb := fun j hj => ⟨fun h => hRcb (h ▸ hj), by have := HRw.out j hj; omega⟩
          have HRcb2 := Lib.hid hRcb2
          have hwbg : ¬ wb = gb := by simp only at hwbl; omega
          have hcbg : ¬ cb = gb := by omega
          clear hW2 hos2 rb rk e0 f0 hkk hRcb2
          go_wp2
          go_loopg [100] (s + 1) (fun gg s100 wr2 => ∃ (j k' : Nat) (ps : List Int), s - j < gg ∧ j ≤ s ∧ s100 = .int .i64 j ∧ k' ≤ k + j ∧ Hid (ps.length = s) ∧ Hid (∀ x, (ps.getD x 0).natAbs = os2.getD x 0) ∧ Hid (∀ x, -1 ≤ ps.getD x 0) ∧ Hid (∀ x, j ≤ x → ps.getD x 0 = (os2.getD x 0 : Nat)) ∧ Blk wr2 gb 3 (i64s ps) ∧ Chz wr2 R cb k' ∧ Keep (fun x => x = cb ∨ x = gb) W2 wr2)
          case atStart =>
            refine ⟨0, k, os2.map Int.ofNat, by omega, by omega, rfl, by omega, by show _ = _; rw [List.length_map]; exact Hl2.out, fun x => ?_, fun x => ?_, fun x _ => ?_, Blk.cast rb2 ?_, hcz2, Keep.refl _ _⟩
            · rw [getD_ofNat]; exact Int.natAbs_natCast _
            · rw [getD_ofNat]; omega
            · exact getD_ofNat _ _
            · rw [nats, i64s, List.map_map]; rfl
          case round =>
            clear rb2 hcz2
            obtain ⟨j, k', ps, t1, t2, rfl, t3, pl, pa, p1, p0, tb, tc, tk⟩ := hrel
            by_cases hj : j < s
            · obtain ⟨o, ho⟩ : ∃ o, o = os2.getD j 0 := ⟨_, rfl⟩
              have hpj := p0.out j (Nat.le_refl _)
              rw [← ho] at hpj
              have hpg : ps[j]? = some (o : Int) := by
                rw [← hpj, List.getD_eq_getElem?_getD, List.getElem?_eq_getElem (by rw [pl.out]; exact hj)]; rfl
              have e0 : wr.cell? ⟨gb, j, none⟩ = some (.int .i64 (o : Int)) := by rw [tb.cell, i64s, List.getElem?_map, hpg]; rfl
              have f0 := tb.frozen j
              have ew : wr.cell? ⟨wb, 0, none⟩ = some (.pointer (some ⟨cb, 0, none⟩)) := tk.cell hwb2 (fun h => by rcases h with h | h; exact hwc h; exact hwbg h)
              have Ho := Lib.hid ho
              clear hpj hpg ho
              by_cases ho1 : o = 1
              · have hob : ((o : Int) == 1) = true := beq_iff_eq.2 (by omega)
                have hch := chooser_any cb k' 2 wr tc hRcb (by omega) (by decide) (by decide)
                have Hch := Lib.hid hch
                clear hch tc
                go_wp2_with (go_at_call 61; (with_reducible refine Hch.out.mono ?_); rintro e w3 ⟨v, k2, rfl, hv, hk2, tc3, hk3⟩; have hv2 : v = 0 ∨ v = 1 := (by omega); clear hv; have e3 := hk3.cell e0 (fun h => hcbg h.symm); have tb3 := tb.keep hk3 (fun h => hcbg h.symm); have f3 := tb3.frozen j)
                · go_roundg (s - j)
                  case measure => exact t1
                  case rel =>
                    refine ⟨j + 1, k2, ps.set j (-1), by omega, by omega, rfl, by omega, by show _ = _; rw [List.length_set]; exact pl.out, fun x => ?_, fun x => ?_, fun x hx => ?_, Blk.cast (tb3.set j _) (by simp [i64s, List.map_set]), tc3.keep ((Keep.refl (· = gb) _).set (p := ⟨gb, j, none⟩) (.inl rfl) _) hcbg (fun y _ h1 h2 => (HRcb2.out y h1).2 h2), (tk.then hk3 (fun y _ h => .inl h)).set (p := ⟨gb, j, none⟩) (.inl (.inr rfl)) _⟩
                    · rw [getD_set]
                      split
                      · rename_i h; rw [h.1, ← Ho.out, ho1]; rfl
                      · exact pa.out x
                    · rw [getD_set]
                      split
                      · omega
                      · exact p1.out x
                    · rw [getD_set, if_neg (by omega)]
                      exact p0.out x (by omega)
                · go_roundg (s - j)
                  case measure => exact t1
                  case rel => exact ⟨j + 1, k2, ps, by omega, by omega, rfl, by omega, pl.out, pa.out, p1.out, fun x hx => p0.out x (by omega), tb3, tc3, tk.then hk3 (fun y _ h => .inl h)⟩
              · have hob : ((o : Int) == 1) = false := beq_eq_false_iff_ne.2 (by omega)
                go_wp2
                go_roundg (s - j)
                case measure => exact t1
                case rel => exact ⟨j + 1, k', ps, by omega, by omega, rfl, by omega, pl.out, pa.out, p1.out, fun x hx => p0.out x (by omega), tb, tc, tk⟩
            · obtain rfl : j = s := by omega
              have hsf := shares_fine (L := L) Hcs.out (by rw [Hl2.out]; exact qn.out) (by rw [pl.out]; exact qn.out) Hpos2.out (by rw [Hsum.out]; exact HN.out) (by rw [← ou.out]; omega) pa.out p1.out (by rw [← qn.out]; exact q3)
              have Hsf := Lib.hid hsf
              clear hsf
              go_wp2
              go_ret
              exact ⟨k', by omega, tc, (Kept.any hkk2 (· = cb)).then tk (fun y hy h => by rcases h with h | h; exact h; omega), .inr ⟨gb, j, ps, by rw [pl.out]; rfl, Hsf.out, hwgb, tb⟩⟩
end

section
/-- What weightBytes and treeBytes hand back: nothing, or what tells the weights. -/
def WbPost (R : Nat → Prop) (cb k lim : Nat) (ws : List Nat) (w : World) (e : Ending) (w' : World) : Prop :=
  ∃ k', k' ≤ k + lim ∧ Chz w' R cb k' ∧ Keep (· = cb) w w' ∧ (e = .returned (.slice none 0 0) ∨
    ∃ g n c' zs, e = .returned (.slice (some ⟨g, 0, none⟩) n c') ∧ Hid (n = List.length zs) ∧ n ≤ 256 ∧ w'.ownsRow w.heap.size 5 1 (.slice (some ⟨g, 0, none⟩) n c') n (u8s zs) ∧ TellsW zs ws)

theorem tot_take_push {ps : List Int} {k : Nat} {p : Int} (h : ps[k]? = some p) : tot (ps.take (k + 1)) = tot (ps.take k) + p.natAbs := by rw [take_push h, tot_push]
/-- States that are found from the last one on. -/
structure GoodSt (tb : List (Nat × Nat × Nat)) (N : Nat) (ws st : List Nat) (j : Nat) : Prop where
  lt : st.getD j 0 < N
  sym : symOf tb (st.getD j 0) = ws.getD j 0
  next : j + 2 < ws.length → baseS tb (st.getD j 0) ≤ st.getD (j + 2) 0 ∧ st.getD (j + 2) 0 < baseS tb (st.getD j 0) + 2 ^ bitsS tb (st.getD j 0)
  last : ws.length ≤ j + 2 → 0 < bitsS tb (st.getD j 0)
theorem GoodSt.keep {tb : List (Nat × Nat × Nat)} {N : Nat} {ws st : List Nat} {j i x : Nat} (h : GoodSt tb N ws st j) (hij : i < j) : GoodSt tb N ws (st.set i x) j := by
  have e1 : (st.set i x).getD j 0 = st.getD j 0 := by rw [getD_set, if_neg (by omega)]
  have e2 : (st.set i x).getD (j + 2) 0 = st.getD (j + 2) 0 := by rw [getD_set, if_neg (by omega)]
  obtain ⟨h1, h2, h3, h4⟩ := h
  exact ⟨by rw [e1]; exact h1, by rw [e1]; exact h2, by rw [e1, e2]; exact h3, by rw [e1]; exact h4⟩
theorem good_tells {tb : List (Nat × Nat × Nat)} {N : Nat} {ws st : List Nat} (hl : st.length = ws.length) (h2 : 2 ≤ ws.length) (h : ∀ j, j < ws.length → GoodSt tb N ws st j) : Tells tb ws st ∧ ∀ x ∈ st, x < N := by
  refine ⟨⟨hl, h2, fun i hi => (h i hi).sym, fun i hi => (h i (by omega)).next hi, ?_⟩, fun x hx => ?_⟩
  · exact (h (ws.length - 2) (by omega)).last (by omega)
  · obtain ⟨j, hj, rfl⟩ := List.getElem_of_mem hx
    have := (h j (by omega)).lt
    rw [List.getD_eq_getElem?_getD, List.getElem?_eq_getElem hj] at this
    exact this

theorem Rest.shares {L : Nat} {ps : List Int} (h : Rest ps (2 ^ L)) (h5 : 5 ≤ L) (h9 : L ≤ 9) : IsShares L ps := ⟨h5, h9, h.least, (tot_expand ps 0 h.least).trans h.sum⟩
theorem Sl.blk {w : World} {g : Nat} {t : TypeId} {cs : List Value} (h : Blk w g t cs) : Sl w (· = g) (some ⟨g, 0, none⟩) cs := .inr ⟨g, 0, rfl, rfl, fun j u hu => by rw [Nat.zero_add, h.cell]; exact hu⟩

set_option maxHeartbeats 8000000 in
set_option maxRecDepth 4000 in
theorem weightBytes_any {R R' : Nat → Prop} (wb cb k : Nat) (A : Option Addr) (c : Nat) (ws : List Nat) (w : World) (hw : w.cell? ⟨wb, 0, none⟩ = some (.pointer (some ⟨cb, 0, none⟩))) (hwc : wb ≠ cb) (hc : Chz w R cb k) (hRcb : ¬ R cb) (hRw : ∀ j, R j → j < w.heap.size) (hk : k ≤ 1073741000)
    (hs : Sl w R' A (nats ws)) (hR' : ¬ R' cb) (hRw' : ∀ j, R' j → j < w.heap.size) (h12 : ∀ x ∈ ws, x < 12) (hl : ws.length ≤ 255) (hl1 : 1 ≤ ws.length) :
    Calls Tryd.prog 83 #[.pointer (some ⟨wb, 0, none⟩), .slice A ws.length c] w (WbPost R cb k 16 ws w) := by
  have hch := chooser_any cb k 2 w hc hRcb (by omega) (by decide) (by decide)
  have hsh := fun (k' L : Nat) w' (hk' : k' ≤ k + 1) (h5 : 5 ≤ L) (h6 : L ≤ 6) (hkk : Keep (· = cb) w w') (hcz : Chz w' R cb k') =>
    sharesW_any wb cb k' L A c ws w' (hkk.cell hw hwc) hwc hcz hRcb (fun j hj => Nat.lt_of_lt_of_le (hRw j hj) hkk.size) (by omega) (hs.keep hkk (fun j _ h1 h2 => hR' (h2 ▸ h1))) hR' h12 hl hl1 h5 h6
  obtain ⟨M, hM⟩ : ∃ M, M = ws.length := ⟨_, rfl⟩
  rw [← hM] at hl hl1 hsh ⊢
  have Hch := Lib.hid hch
  have Hsh := Lib.hid hsh
  have HM := Lib.hid hM
  have hcbw : cb < w.heap.size := by obtain ⟨_, _, _, _, hb, _⟩ := hc; exact hb.lt
  have HRw := Lib.hid hRw
  clear hch hsh hM h12 hc hRw
  have hnl := fun (w : World) (a : Option Addr) (n c n' c' : Nat) => Lib.run_eql_slice_nil (P := Tryd.prog) w 23 3 a n c n' c' Tryd.underlying23
  go_enter Tryd.func83, Tryd.ntmps83
  by_cases h3 : M < 3
  · go_wp2_with (first
      | (go_at_call 61; (with_reducible refine Hch.out.mono ?_); rintro e w1 ⟨v, k1, rfl, hv, hk1, tc1, hkk1⟩; have hv2 : v ≤ 1 := (by omega); clear hv; obtain ⟨L, hL⟩ : ∃ L : Nat, (5 : Int) + (v : Int) = (L : Int) := ⟨5 + v, by omega⟩; have h5 : 5 ≤ L := (by omega); have h6 : L ≤ 6 := (by omega))
      | (go_at_call 98; (with_reducible refine (Hsh.out k1 L w1 hk1 h5 h6 hkk1 tc1).mono ?_); rintro e w2 ⟨k2, hk2, tc2, hkk2, rfl | ⟨g, c', ps, rfl, hsf, hwg, hgb⟩⟩))
    all_goals
      have hkk := hkk1.trans hkk2
      go_ret
      exact ⟨k2, by omega, tc2, hkk, .inl rfl⟩
  · go_wp2_with (first
      | (go_at_call 61; (with_reducible refine Hch.out.mono ?_); rintro e w1 ⟨v, k1, rfl, hv, hk1, tc1, hkk1⟩; have hv2 : v ≤ 1 := (by omega); clear hv; obtain ⟨L, hL⟩ : ∃ L : Nat, (5 : Int) + (v : Int) = (L : Int) := ⟨5 + v, by omega⟩; have h5 : 5 ≤ L := (by omega); have h6 : L ≤ 6 := (by omega))
      | (go_at_call 98; (with_reducible refine (Hsh.out k1 L w1 hk1 h5 h6 hkk1 tc1).mono ?_); rintro e w2 ⟨k2, hk2, tc2, hkk2, rfl | ⟨g, c', ps, rfl, hsf, hwg, hgb⟩⟩))
    · have hkk := hkk1.trans hkk2
      go_wp2
      go_ret
      exact ⟨k2, by omega, tc2, hkk, .inl rfl⟩
    · have hkk := hkk1.trans hkk2
      obtain ⟨n, hn⟩ : ∃ n, n = ps.length := ⟨_, rfl⟩
      obtain ⟨N, hN⟩ : ∃ N, N = 2 ^ L := ⟨_, rfl⟩
      have hNi : (2 : Int) ^ L = (N : Int) := by rw [two_pow_int, hN]
      have hN64 : N ≤ 64 := by rw [hN]; exact (Nat.pow_le_pow_right (by decide) h6 : 2 ^ L ≤ 2 ^ 6)
      have hn12 : n ≤ 12 := by rw [hn]; exact hsf.few
      have htot : tot ps = N := by rw [hN]; exact hsf.rest.sum
      have htl : ∀ k, tot (ps.take k) ≤ N := fun k => by rw [← htot]; exact tot_take_le ps k
      have hwg1 : w.heap.size ≤ g := by have := hkk1.size; omega
      have Hn := Lib.hid hn
      have HN := Lib.hid hN
      have Hsf := Lib.hid hsf
      have Htot := Lib.hid htot
      have Htl := Lib.hid htl
      rw [← hn]
      clear hn hN hsf htot htl Hch Hsh
      go_wp2
      go_loopg [6, 36] (n + 1) (fun gg s6 s36 wr => ∃ i z : Nat, n - i < gg ∧ i ≤ n ∧ s36 = .int .i64 i ∧ s6 = .int .i64 z ∧ z ≤ 64 ∧ Hid (z = tot (ps.take i)) ∧ w2 = wr)
      case atStart => exact ⟨0, 0, by omega, by omega, rfl, rfl, by omega, rfl, rfl⟩
      case round =>
        obtain ⟨i, z, r1, r2, rfl, rfl, r3, r4, rfl⟩ := hrel
        by_cases hi : i < n
        · obtain ⟨p, hp⟩ : ∃ p, ps[i]? = some p := ⟨_, List.getElem?_eq_getElem (by rw [← Hn.out]; exact hi)⟩
          have e0 : w2.cell? ⟨g, i, none⟩ = some (.int .i64 p) := by rw [hgb.cell, i64s, List.getElem?_map, hp]; rfl
          obtain ⟨y, hy⟩ : ∃ y, y = p.natAbs := ⟨_, rfl⟩
          have hyi : max p (-p) = (y : Int) := by omega
          have htp := tot_take_push hp
          rw [← hy, ← r4.out] at htp
          have hzb : z + y ≤ 64 := by have := Htl.out (i + 1); omega
          have Htp := Lib.hid htp
          have hpb : -64 ≤ p ∧ p ≤ 64 := by omega
          obtain ⟨hpb1, hpb2⟩ := hpb
          clear htp hy hp
          go_wp2
          go_roundg (n - i)
          case measure => exact r1
          case rel => exact ⟨i + 1, z + y, by omega, by omega, rfl, rfl, hzb, Htp.out.symm, rfl⟩
        · obtain rfl : n = i := by omega
          rw [List.take_of_length_le (by rw [← Hn.out]; exact Nat.le_refl _), Htot.out] at r4
          have hz : z = N := r4.out
          subst hz
          clear r4
          obtain ⟨tb, htb⟩ : ∃ x, x = tab L ps := ⟨_, rfl⟩
          have hish := Hsf.out.rest.shares h5 (by omega)
          have htab := fun w' (hk : Kept w2 w') => tableOf_any (some ⟨g, 0, none⟩) c' L ps w' (Sl.blk (hgb.kept hk)) hish (by rw [← Hn.out]; omega)
          rw [← Hn.out, ← htb, ← HN.out] at htab
          have htbl : tb.length = z := by rw [htb, tab_length, HN.out]
          have hb1 := fun (s t : Nat) w' gt (hg : Blk w' gt 177 (flat cel3 tb)) (hs : ps.getD s 0 ≠ 0) (ht : t < z) => before_to gt L s t ps w' (by rw [← htb]; exact hg) hish h6 hs (by rw [← HN.out]; exact ht)
          have hb2 := fun (s : Nat) w' gt (hg : Blk w' gt 177 (flat cel3 tb)) (hs : ps.getD s 0 ≠ 0) (ht : (ps.getD s 0).natAbs < z) => before_last gt L s ps w' (by rw [← htb]; exact hg) hish h6 hs (by rw [← HN.out]; exact ht)
          rw [← htb, ← HN.out] at hb1 hb2
          have htold := fun w' (hk : Kept w2 w') => shareBytes_any (some ⟨g, 0, none⟩) n c' L ps Hn.out w' (Sl.blk (hgb.kept hk)) Hsf.out.rest h5 (by omega) (by rw [← Hn.out]; omega)
          have Hb1 := Lib.hid hb1
          have Hb2 := Lib.hid hb2
          have Htold := Lib.hid htold
          have Htab := Lib.hid htab
          have Htbl := Lib.hid htbl
          have Htb := Lib.hid htb
          have Hish := Lib.hid hish
          have hLt : ∀ j, 2 ^ j < z ↔ j < L := fun j => by rw [HN.out]; exact Nat.pow_lt_pow_iff_right (by decide)
          have HLt := Lib.hid hLt
          clear htab htbl htb hish hb1 hb2 htold hLt
          go_wp2
          go_loopg [9] (L + 1) (fun gg s9 wr => ∃ j : Nat, L - j < gg ∧ 5 ≤ j ∧ j ≤ L ∧ s9 = .int .i64 j ∧ w2 = wr)
          case atStart => exact ⟨5, by omega, by omega, by omega, rfl, rfl⟩
          case round =>
            obtain ⟨j, r1, r2, r3, rfl, rfl⟩ := hrel
            by_cases hj : j < L
            · obtain ⟨Q, hQ⟩ : ∃ Q, Q = 2 ^ j := ⟨_, rfl⟩
              have hQz : Q < z := by rw [hQ]; exact (HLt.out j).2 hj
              have hQi : (2 : Int) ^ j = (Q : Int) := by rw [two_pow_int, hQ]
              clear hQ
              go_wp2
              go_roundg (L - j)
              case measure => exact r1
              case rel => exact ⟨j + 1, by omega, by omega, by omega, rfl, rfl⟩
            · obtain rfl : L = j := by omega
              clear r1 r2 r3 hj
              go_wp2_with (first
                | (go_at_call 52; (with_reducible refine (Htab.out _ (Keep.refl _ _)).mono ?_); rintro e w3 ⟨gt, hgt, rfl, hgt3, hk3⟩)
                | (at_make; refine wpList_make rfl _ _ rfl elInt .i64 .i64 M M rfl rfl (Nat.le_refl _) (by omega) ?_; intro w4 hk4 hg4))
              obtain ⟨tk, htk⟩ : ∃ x, x = w3.heap.size := ⟨_, rfl⟩
              obtain ⟨W3, hW3⟩ : ∃ x, x = w3.alloc (.cells #[.slice (some ⟨gt, 0, none⟩) z z, .int .i64 (L : Int)] 104) := ⟨_, rfl⟩
              have hW3s : W3.heap.size = tk + 1 := by rw [hW3, htk]; simp
              have htk3 : Blk W3 tk 104 [.slice (some ⟨gt, 0, none⟩) z z, .int .i64 (L : Int)] := by rw [hW3, htk]; exact Blk.new w3 104 _
              have hkW3 : Kept w3 W3 := by rw [hW3]; exact (Keep.refl _ _).alloc _
              rw [← hW3] at hk4 hg4
              rw [hW3s] at hg4
              obtain ⟨gs, hgs⟩ : ∃ x, x = tk + 1 := ⟨_, rfl⟩
              rw [← htk, ← hgs]
              rw [← hgs] at hg4
              have hs4 : Blk w4 gs 3 (nats (List.replicate M 0)) := Blk.cast hg4 (by rw [Nat.mul_one, ← nats_zeros]; exact made_list (.int .i64 0) rfl M)
              have ht4 := htk3.kept hk4
              have hk24 : Kept w2 w4 := (hk3.trans hkW3).trans hk4
              have hgt4 := (hgt3.kept hkW3).kept hk4
              have hw2tk : w2.heap.size ≤ tk := by rw [htk]; exact hk3.size
              have hgttk : gt < tk := by rw [htk]; exact hgt3.lt
              have Hgs := Lib.hid hgs
              have hgs1 : tk < gs := by omega
              have hSr := (hs.keep hkk (fun j _ h1 h2 => hR' (h2 ▸ h1))).kept hk24
              clear htk hW3 hW3s htk3 hkW3 hg4 hgs hgt3 hk3 hk4
              go_loopg [12] (M + 1) (fun gg s12 wr => ∃ (lo : Nat) (x : Int) (st : List Nat), lo < gg ∧ lo ≤ M ∧ s12 = .int .i64 x ∧ x = (lo : Int) - 1 ∧ Hid (st.length = M) ∧ Hid (∀ j, lo ≤ j → j < M → GoodSt tb z ws st j) ∧ Blk wr gs 3 (nats st) ∧ Keep (· = gs) w4 wr)
              case atStart => exact ⟨M, (M : Int) - 1, List.replicate M 0, by omega, by omega, rfl, rfl, List.length_replicate .., fun j h1 h2 => by omega, hs4, Keep.refl _ _⟩
              case round =>
                clear hs4
                obtain ⟨lo, x, st, r1, r2, rfl, hx, sl, sg, rb, rk⟩ := hrel
                by_cases hlo : 0 < lo
                · obtain ⟨j, rfl⟩ : ∃ j, lo = j + 1 := ⟨lo - 1, by omega⟩
                  obtain rfl : x = (j : Int) := by omega
                  clear hx
                  have hjM : j < M := by omega
                  obtain ⟨gw, ow, wj, _, rfl, hcw, hwk⟩ := (hSr.keep rk (fun i hi h1 h2 => by have := hRw' i h1; have := hkk.size; omega)).nat (k := j) (by rw [← HM.out]; exact hjM)
                  have hwd : ws.getD j 0 = wj := by rw [List.getD_eq_getElem?_getD, hwk.out]; rfl
                  have hps := Hsf.out.has wj (List.mem_of_getElem? hwk.out)
                  have hgtr := hgt4.keep rk (by omega)
                  have htkr := ht4.keep rk (by omega)
                  have dt0 : wr.cell? ⟨tk, 0, none⟩ = some (.slice (some ⟨gt, 0, none⟩) z z) := htkr.cell 0
                  have dt1 : wr.cell? ⟨tk, 1, none⟩ = some (.int .i64 (L : Int)) := htkr.cell 1
                  have hsj : ∃ u : Nat, wr.cell? ⟨gs, j, none⟩ = some (.int .i64 (u : Int)) := ⟨_, by rw [rb.cell, nats_at (by rw [sl.out]; exact hjM)]⟩
                  obtain ⟨uj, huj⟩ := hsj
                  have fj := rb.frozen j
                  by_cases hj2 : j + 2 < M
                  · obtain ⟨t2, ht2⟩ : ∃ x, x = st.getD (j + 2) 0 := ⟨_, rfl⟩
                    have hg2 := sg.out (j + 2) (by omega) hj2
                    have ht2z : t2 < z := by rw [ht2]; exact hg2.lt
                    have e2 : wr.cell? ⟨gs, j + 2, none⟩ = some (.int .i64 (t2 : Int)) := by rw [rb.cell, nats_at (by rw [sl.out]; exact hj2), ht2]
                    have hbl := fun w' hg => Hb1.out wj t2 w' gt hg hps.1 ht2z
                    have Hbl := Lib.hid hbl
                    have Hgtr := Lib.hid hgtr
                    have Hrb := Lib.hid rb
                    have Hwd := Lib.hid hwd
                    have Ht2 := Lib.hid ht2
                    have Hji := Lib.hid (show (j : Int) - 1 = ((j : Nat) : Int) - 1 from rfl)
                    clear hbl hps hgtr htkr rb hwk hwd ht2 hg2
                    go_wp2
                    go_region_law (go_simp; go_at_call 99; refine (Hbl.out _ (Hgtr.out.drew)).mono ?_; rintro e wx ⟨a, rfl, ha1, ha2, hkx⟩; have hrbx := (Hrb.out.drew).kept hkx; have ex : wx.cell? ⟨gs, j, none⟩ = some (.int .i64 (uj : Int)) := hkx.cell huj (fun h => h); have fx := hrbx.frozen j)
                    all_goals
                      go_wp2
                      go_roundg (j + 1)
                      case measure => omega
                      case rel =>
                        refine ⟨j, (j : Int) - 1, st.set j a, by omega, by omega, rfl, rfl, by show _ = _; rw [List.length_set]; exact sl.out, fun i h1 h2 => ?_, Blk.cast (hrbx.set j _) (nats_set _ _ _), (((rk.drew).kept hkx).set (p := ⟨gs, j, none⟩) (.inl rfl) _)⟩
                        by_cases hij : i = j
                        · subst hij
                          have hgd : (st.set i a).getD i 0 = a := by rw [getD_set, if_pos ⟨rfl, by rw [sl.out]; exact hjM⟩]
                          have hgd2 : (st.set i a).getD (i + 2) 0 = t2 := by rw [getD_set, if_neg (by omega), Ht2.out]
                          refine ⟨by rw [hgd]; exact ha1, by rw [hgd, Hwd.out]; exact ha2.1, fun _ => by rw [hgd, hgd2]; exact ha2.2, fun h => by rw [← HM.out] at h; omega⟩
                        · exact (sg.out i (by omega) h2).keep (by omega)
                  · have hbl := fun w' hg => Hb2.out wj w' gt hg hps.1 (by rw [HN.out]; exact hps.2)
                    have Hbl := Lib.hid hbl
                    have Hgtr := Lib.hid hgtr
                    have Hrb := Lib.hid rb
                    have Hwd := Lib.hid hwd
                    clear hbl hps hgtr htkr rb hwk hwd
                    go_wp2
                    go_region_law (go_simp; go_at_call 99; refine (Hbl.out _ (Hgtr.out.drew)).mono ?_; rintro e wx ⟨a, rfl, ha1, ha2, ha3, hkx⟩; have hrbx := (Hrb.out.drew).kept hkx; have ex : wx.cell? ⟨gs, j, none⟩ = some (.int .i64 (uj : Int)) := hkx.cell huj (fun h => h); have fx := hrbx.frozen j)
                    all_goals
                      go_wp2
                      go_roundg (j + 1)
                      case measure => omega
                      case rel =>
                        refine ⟨j, (j : Int) - 1, st.set j a, by omega, by omega, rfl, rfl, by show _ = _; rw [List.length_set]; exact sl.out, fun i h1 h2 => ?_, Blk.cast (hrbx.set j _) (nats_set _ _ _), (((rk.drew).kept hkx).set (p := ⟨gs, j, none⟩) (.inl rfl) _)⟩
                        by_cases hij : i = j
                        · subst hij
                          have hgd : (st.set i a).getD i 0 = a := by rw [getD_set, if_pos ⟨rfl, by rw [sl.out]; exact hjM⟩]
                          refine ⟨by rw [hgd]; exact ha1, by rw [hgd, Hwd.out]; exact ha2, fun h => by rw [← HM.out] at h; omega, fun _ => by rw [hgd]; exact ha3⟩
                        · exact (sg.out i (by omega) h2).keep (by omega)
                · obtain rfl : lo = 0 := by omega
                  have hx0 : ¬ (0 : Int) ≤ x := by omega
                  have hgood := good_tells (N := z) (st := st) (by rw [sl.out]; exact HM.out) (by rw [← HM.out]; omega) (fun j hj => sg.out j (Nat.zero_le _) (by rw [HM.out]; exact hj))
                  have hst : ∀ j, j < M → wr.cell? ⟨gs, j, none⟩ = some (.int .i64 ((st.getD j 0 : Nat) : Int)) := fun j hj => by rw [rb.cell, nats_at (by rw [sl.out]; exact hj)]
                  have hkwr : Kept w2 wr := hk24.then rk (fun j hj h => by omega)
                  obtain ⟨base, hbase⟩ : ∃ x, x = wr.heap.size := ⟨_, rfl⟩
                  have hgsb : gs < base := by rw [hbase]; exact rb.lt
                  obtain ⟨W5, hW5⟩ : ∃ x, x = wr.alloc (.cells #[.slice none 0 0] 218) := ⟨_, rfl⟩
                  have hB0 : BB W5 base base 0 [] := ⟨none, 0, by rw [hW5, hbase]; exact Blk.new wr 218 _, rfl, World.ownsRow_nil _ _ _ _⟩
                  have hkW5 : Kept wr W5 := by rw [hW5]; exact (Keep.refl _ _).alloc _
                  have hkw25 := hkwr.trans hkW5
                  obtain ⟨s0, hs0⟩ : ∃ x, x = st.getD 0 0 := ⟨_, rfl⟩
                  obtain ⟨s1, hs1⟩ : ∃ x, x = st.getD 1 0 := ⟨_, rfl⟩
                  have es0 := hkW5.cell (hst 0 (by omega)) (fun h => h)
                  have es1 := hkW5.cell (hst 1 (by omega)) (fun h => h)
                  rw [← hs0] at es0
                  rw [← hs1] at es1
                  have hsz : ∀ j, j < M → st.getD j 0 < z := fun j hj => (sg.out j (Nat.zero_le _) hj).lt
                  have hs0z : s0 < z := by rw [hs0]; exact hsz 0 (by omega)
                  have hs1z : s1 < z := by rw [hs1]; exact hsz 1 (by omega)
                  have hst5 : ∀ w', Keep (base ≤ ·) W5 w' → ∀ j, j < M → w'.cell? ⟨gs, j, none⟩ = some (.int .i64 ((st.getD j 0 : Nat) : Int)) := fun w' hk j hj => hk.cell (hkW5.cell (hst j hj) (fun h => h)) (fun h => by simp only at h; omega)
                  have htk5 : ∀ w', Keep (base ≤ ·) W5 w' → w'.cell? ⟨tk, 0, none⟩ = some (.slice (some ⟨gt, 0, none⟩) z z) ∧ Blk w' gt 177 (flat cel3 tb) := fun w' hk =>
                    ⟨(((ht4.keep rk (by omega)).kept hkW5).keep hk (by omega)).cell 0, ((hgt4.keep rk (by omega)).kept hkW5).keep hk (by omega)⟩
                  have hadd0 := bbAdd_any base base s0 L 0 [] W5 hB0 (Nat.le_refl _) (by omega) (by omega) (by omega)
                  have Hadd0 := Lib.hid hadd0
                  have Hgood := Lib.hid hgood
                  have Hst5 := Lib.hid hst5
                  have Htk5 := Lib.hid htk5
                  have Hs0 := Lib.hid hs0
                  have Hs1 := Lib.hid hs1
                  have Hsz := Lib.hid hsz
                  have Hbase := Lib.hid hbase
                  have Hkw25 := Lib.hid hkw25
                  clear hadd0 hgood hst hst5 htk5 hs0 hs1 hsz hB0 sg rb rk r1 r2 hx hlo hgt4 ht4 hSr Hb1 Hb2 Htab HLt
                  go_upto_region 23 with (fail)
                  rw [← hbase, ← hW5]
                  clear hbase hW5 hkW5 hkwr hkw25
                  go_wp2_with (first
                    | (go_at_call 100; (with_reducible refine Hadd0.out.mono ?_); rintro e w6 ⟨rfl, hB6, hk6⟩; have es6 := hk6.cell es1 (fun h => by simp only at h; omega); have hadd1 := bbAdd_any base base s1 L _ _ w6 hB6 (Nat.le_refl _) (by omega) (by omega) (by omega); have Hadd1 := Lib.hid hadd1; clear hadd1 hB6)
                    | (go_at_call 100; (with_reducible refine Hadd1.out.mono ?_); rintro e w7 ⟨rfl, hB7, hk7⟩; have hk57 := hk6.trans hk7))
                  have hB7' : BB w7 base base (L + L) (hbAll ((s0, L) :: (s1, L) :: steps tb st 0 0)) := by
                    rw [hbAll_cons, hbAll_cons]
                    simpa [steps, hbAll] using hB7
                  clear hB7 Hadd0 Hadd1 es0 es1 es6
                  go_loopg [15] (M + 1) (fun gg s15 wr2 => ∃ i kk : Nat, M - i < gg ∧ i + 2 ≤ M ∧ s15 = .int .i64 i ∧ kk ≤ 12 + 6 * i ∧ BB wr2 base base kk (hbAll ((s0, L) :: (s1, L) :: steps tb st i 0)) ∧ Keep (base ≤ ·) W5 wr2)
                  case atStart => exact ⟨0, L + L, by omega, by omega, rfl, by omega, hB7', hk57⟩
                  case round =>
                    clear hB7' hk57
                    obtain ⟨i, kk, t1, t2, rfl, t3, tB, tK⟩ := hrel
                    by_cases hi : i + 2 < M
                    · obtain ⟨a, ha⟩ : ∃ a, a = st.getD i 0 := ⟨_, rfl⟩
                      obtain ⟨b, hb⟩ : ∃ b, b = st.getD (i + 2) 0 := ⟨_, rfl⟩
                      have haz : a < z := by rw [ha]; exact Hsz.out i (by omega)
                      have ea := Hst5.out wr tK i (by omega)
                      have eb := Hst5.out wr tK (i + 2) hi
                      rw [← ha] at ea
                      rw [← hb] at eb
                      obtain ⟨dt, hgtb⟩ := Htk5.out wr tK
                      have hrow : tb[a]? = some (symOf tb a, bitsS tb a, baseS tb a) := tab_get (by rw [Htbl.out]; exact haz)
                      obtain ⟨sy, hsy⟩ : ∃ x, x = symOf tb a := ⟨_, rfl⟩
                      obtain ⟨bt, hbt⟩ : ∃ x, x = bitsS tb a := ⟨_, rfl⟩
                      obtain ⟨ba, hba⟩ : ∃ x, x = baseS tb a := ⟨_, rfl⟩
                      rw [← hsy, ← hbt, ← hba] at hrow
                      have c0 : wr.cell? ⟨gt, a * 3, none⟩ = some (.int .i64 (sy : Int)) := hgtb.row cel3_length (j := 0) hrow rfl
                      have c1 : wr.cell? ⟨gt, a * 3 + 1, none⟩ = some (.int .i64 (bt : Int)) := hgtb.row cel3_length (j := 1) hrow rfl
                      have c2 : wr.cell? ⟨gt, a * 3 + 2, none⟩ = some (.int .i64 (ba : Int)) := hgtb.row cel3_length (j := 2) hrow rfl
                      have hnx := Hgood.out.1.next i (by rw [← HM.out]; exact hi)
                      rw [← ha, ← hb, ← hba, ← hbt] at hnx
                      have hbt6 : bt ≤ 6 := by
                        have h1 := tab_next Hish.out (a := a) (x := 0) (by rw [← HN.out]; exact haz) (pow_pos' _)
                        rw [← Htb.out, ← hbt] at h1
                        omega
                      obtain ⟨d, hd⟩ : ∃ d, d = b - ba := ⟨_, rfl⟩
                      have hdi : (b : Int) - (ba : Int) = (d : Int) := by omega
                      have hbz : b < z := by rw [hb]; exact Hsz.out (i + 2) hi
                      have hpush : hbAll ((s0, L) :: (s1, L) :: steps tb st i 0) ++ hiBits d bt = hbAll ((s0, L) :: (s1, L) :: steps tb st (i + 1) 0) := by
                        rw [steps_push, Nat.zero_add, ← ha, ← hb, ← hba, ← hbt, ← hd, hbAll_cons, hbAll_cons, hbAll_cons, hbAll_cons, hbAll_append, hbAll_one]
                        simp only [List.append_assoc]
                      have hadd := fun w' (hB : BB w' base base kk (hbAll ((s0, L) :: (s1, L) :: steps tb st i 0))) => bbAdd_all base base d bt kk _ w' hB (Nat.le_refl _) (by omega) (by omega) (by omega)
                      rw [hpush] at hadd
                      have Hadd := Lib.hid hadd
                      have HtB := Lib.hid tB
                      have hws : ∀ x, wr.heap.size ≤ x → base ≤ x := fun x hx => by obtain ⟨_, _, hbb, _⟩ := tB; have := hbb.lt; omega
                      have Hws := Lib.hid hws
                      have hbw : base < wr.heap.size := by obtain ⟨_, _, hbb, _⟩ := tB; exact hbb.lt
                      have hgtw := hgtb.lt
                      have hgsw : gs < wr.heap.size := by omega
                      have htkw : tk < wr.heap.size := by omega
                      have hiM : i < M := by omega
                      clear ha hb hrow hsy hbt hba hnx hd hpush hadd tB hgtb hws
                      go_wp2
                      go_region
                      obtain ⟨c9, hc9⟩ : ∃ x, x = wr.heap.size := ⟨_, rfl⟩
                      obtain ⟨W8, hW8⟩ : ∃ x, x = (wr.alloc (.cells #[.int .i64 (sy : Int), .int .i64 (bt : Int), .int .i64 (ba : Int)] 177)).drew := ⟨_, rfl⟩
                      have hk8 : Kept wr W8 := by rw [hW8]; exact ((Keep.refl _ _).alloc _).drew
                      have hb8 : Blk W8 c9 177 [.int .i64 (sy : Int), .int .i64 (bt : Int), .int .i64 (ba : Int)] := by rw [hW8, hc9]; exact (Blk.new wr 177 _).drew
                      have q1 : W8.cell? ⟨c9, 1, none⟩ = some (.int .i64 (bt : Int)) := hb8.cell 1
                      have q2 : W8.cell? ⟨c9, 2, none⟩ = some (.int .i64 (ba : Int)) := hb8.cell 2
                      have q3 := hk8.cell eb (fun h => h)
                      have hc9b : c9 ≠ base := by omega
                      have hB8 := Lib.hid (HtB.out.kept hk8)
                      have Hb8 := Lib.hid hb8
                      rw [← hc9, ← hW8]
                      have l1 : IntKind.i64.wrap ((i : Int) + 2) = (i : Int) + 2 := by rw [IntKind.wrap_i64]; omega
                      have l2 : (0 : Int) ≤ (i : Int) + 2 := by omega
                      have l3 : (i : Int) + 2 < (M : Int) := by omega
                      have l4 : ((i : Int) + 2).toNat = i + 2 := by omega
                      have l5 : IntKind.i64.wrap (d : Int) = (d : Int) := by rw [IntKind.wrap_i64]; omega
                      clear hc9 hW8 c0 c1 c2 ea eb dt hb8
                      go_wp2
                      go_region_held3 (fun w' => w'.cell? ⟨gs, i + 2, none⟩ = some (.int .i64 (b : Int)) ∧ w'.cell? ⟨c9, 1, none⟩ = some (.int .i64 (bt : Int)) ∧ w'.cell? ⟨c9, 2, none⟩ = some (.int .i64 (ba : Int))) (first | exact ⟨hk.1.cell q3 (fun h => by simp only at h; omega), (hk.2 _ _ _ Hb8.out hc9b (by decide)).cell 1, (hk.2 _ _ _ Hb8.out hc9b (by decide)).cell 2⟩ | go_keep)
                        (first | (go_at_call 100; (with_reducible refine (Hadd.out _ (hB8.out.kept (Keep.refl _ _).drew)).mono ?_); rintro e w9 ⟨rfl, hB9, hk⟩))
                      go_wp2
                      go_roundg (M - i)
                      case measure => exact t1
                      case rel => exact ⟨i + 1, kk + bt, by omega, by omega, rfl, by omega, hB9, (tK.kept hk8.drew).trans hk.1⟩
                    · have hiM : i + 2 = M := by omega
                      obtain ⟨fs, hfs⟩ : ∃ x, x = (s0, L) :: (s1, L) :: steps tb st i 0 := ⟨_, rfl⟩
                      rw [← hfs] at tB
                      have hfs2 : fs = stateBits L tb st := by
                        rw [hfs, stateBits, ← Hs0.out, ← Hs1.out, show st.length - 2 = i by rw [sl.out]; omega]
                      have hkf : kk = flen fs := by obtain ⟨_, _, _, h, _⟩ := tB; rw [h, hbAll_length]
                      obtain ⟨nB, hnB⟩ : ∃ x, x = (flen (told L ps) + 7) / 8 := ⟨_, rfl⟩
                      obtain ⟨ny, hny⟩ : ∃ x, x = kk / 8 + 1 := ⟨_, rfl⟩
                      have hnBl : nB ≤ 1024 := by
                        have h1 := encs_len _ false (2 ^ L) ps (Nat.lt_succ_self _) (by rw [← HN.out]; omega)
                        have h2 := Hn.out
                        rw [hnB, told, flen_cons]
                        simp only [Bool.false_eq_true, if_false] at h1
                        simp only
                        omega
                      have hnyl : ny ≤ 400 := by omega
                      have hk2w : ∀ w', Keep (base ≤ ·) W5 w' → Kept w2 w' := fun w' hk => Hkw25.out.then hk (fun j hj h => by omega)
                      have hkwr := hk2w wr tK
                      have htold : Calls Tryd.prog 59 #[.slice (some ⟨g, 0, none⟩) n c', .int .i64 L] wr fun e w' => ∃ g zs, List.length zs = nB ∧ e = .returned (.slice (some ⟨g, 0, none⟩) nB nB) ∧ wr.heap.size ≤ g ∧ Blk w' g 5 (u8s zs) ∧ Bytes zs ∧ num zs = fnum (told L ps) ∧ Kept wr w' := by
                        have := Htold.out wr hkwr
                        unfold ToldPost at this
                        rw [← hnB] at this
                        exact this
                      have hbyt : ∀ w', Kept wr w' → Calls Tryd.prog 101 #[.pointer (some ⟨base, 0, none⟩)] w' fun e w'' => ∃ g zs, List.length zs = ny ∧ e = .returned (.slice (some ⟨g, 0, none⟩) ny ny) ∧ w'.heap.size ≤ g ∧ Blk w'' g 5 (u8s zs) ∧ Bytes zs ∧ num zs = marked (hbAll fs) ∧ Kept w' w'' := fun w' hk => by
                        have := bbBytes_any base base kk _ w' (tB.kept hk) (by omega)
                        unfold BbPost at this
                        rw [hbAll_length, ← hkf, ← hny] at this
                        exact this
                      have Hfs2 := Lib.hid hfs2
                      have Hkf := Lib.hid hkf
                      have HnB := Lib.hid hnB
                      have Hny := Lib.hid hny
                      have Htold2 := Lib.hid htold
                      have Hbyt := Lib.hid hbyt
                      have hws2 := hkwr.size
                      clear hfs hfs2 hkf hnB hny htold hbyt hk2w tB tK Hst5 Htk5 Htold
                      by_cases hT : nB + ny ≤ 127
                      · go_wp2_with (first
                          | (go_at_call 59; (with_reducible refine Htold2.out.mono ?_); rintro e w8 ⟨g8, zs, hzl, rfl, hg8, hb8, hz8, hn8, hk8⟩; have Hzl := Lib.hid hzl; have Hz8 := Lib.hid hz8; have Hn8 := Lib.hid hn8; clear hzl hz8 hn8)
                          | (go_at_call 101; (with_reducible refine (Hbyt.out _ hk8).mono ?_); rintro e w9 ⟨g9, ys, hyl, rfl, hg9, hb9, hy9, hn9, hk9⟩; have Hyl := Lib.hid hyl; have Hy9 := Lib.hid hy9; have Hn9 := Lib.hid hn9; clear hyl hy9 hn9; have hk29 := (hkwr.trans hk8).trans hk9; have hown8 := own_of_blk (base := w2.heap.size) (n := nB) (hb8.kept hk9) (by omega) (by rw [u8s_length, Hzl.out]) (by unfold maxLen; omega))
                          | (at_builtin; refine wpList_append rfl _ _ rfl elByte hk29 (some ⟨g8, 0, none⟩) nB nB (u8s zs) rfl hown8 ny (u8s ys) _ rfl (src_blk Tryd.underlying22 hb9 ny ny (by rw [u8s_length, Hyl.out, Nat.mul_one]) (u8s_one ys)) (by omega) ?_; intro A4 c4 w10 ho10 hk10 hg10)
                          | (at_builtin; refine wpList_append rfl _ _ rfl elByte (hk10.alloc _) (some ⟨w10.heap.size, 0, none⟩) 1 1 [.int .u8 ((nB : Int) + (ny : Int))] rfl (own_of_blk (Blk.new w10 5 [.int .u8 ((nB : Int) + (ny : Int))]) hk10.size rfl (by unfold maxLen; omega)) (nB + ny) (u8s zs ++ u8s ys) _ rfl (src_sl Tryd.underlying22 ((Sl.of_own ho10).kept ((Keep.refl _ _).alloc _)) (nB + ny) c4 (by rw [List.length_append, u8s_length, u8s_length, Hzl.out, Hyl.out, Nat.mul_one]) (fun u hu => (List.mem_append.1 hu).elim (u8s_one zs u) (u8s_one ys u))) (by omega) ?_; intro A5 c5 w11 ho11 hk11 hg11))
                        have hzy := wtsOf_told (L := L) (ps := ps) (ws := ws) (st := st) (zs := zs) (ys := ys) h5 h6 Hsf.out.rest (by rw [← Hn.out]; omega) Hz8.out Hy9.out (by rw [Hzl.out]; exact HnB.out) Hn8.out (by rw [← Htb.out]; exact Hgood.out.1) (by rw [← HM.out]; exact hl) (by rw [← HN.out]; exact Hgood.out.2) (by rw [← Htb.out, ← Hfs2.out, ← Hkf.out, Hyl.out]; exact Hny.out) (by rw [← Htb.out, ← Hfs2.out]; exact Hn9.out)
                        have hbz : Bytes (zs ++ ys) := fun x hx => (List.mem_append.1 hx).elim (Hz8.out x) (Hy9.out x)
                        have hzl2 : (zs ++ ys).length = nB + ny := by rw [List.length_append, Hzl.out, Hyl.out]
                        have hft := fse_told hbz (by rw [hzl2]; exact hT) hzy
                        obtain ⟨g5, rfl, hg5b, hg5l⟩ := own_some ho11 (by omega)
                        have Hft := Lib.hid hft
                        have Hzl2 := Lib.hid hzl2
                        have Ho11 := Lib.hid ho11
                        clear hzy hbz hft hzl2 ho11
                        go_ret
                        refine ⟨k2, by omega, tc2.kept hk11, hkk.then hk11 (fun _ _ h => h.elim), .inr ⟨g5, 1 + (nB + ny), c5, (zs ++ ys).length :: (zs ++ ys), rfl, by show _ = _; rw [List.length_cons, Hzl2.out, Nat.add_comm], by omega, ?_, Hft.out⟩⟩
                        have := own_mono Ho11.out hkk.size
                        rw [Hzl2.out]
                        simpa [u8s] using this
                      · go_wp2_with (first
                          | (go_at_call 59; (with_reducible refine Htold2.out.mono ?_); rintro e w8 ⟨g8, zs, hzl, rfl, hg8, hb8, hz8, hn8, hk8⟩; have Hzl := Lib.hid hzl; have Hz8 := Lib.hid hz8; have Hn8 := Lib.hid hn8; clear hzl hz8 hn8)
                          | (go_at_call 101; (with_reducible refine (Hbyt.out _ hk8).mono ?_); rintro e w9 ⟨g9, ys, hyl, rfl, hg9, hb9, hy9, hn9, hk9⟩; have Hyl := Lib.hid hyl; have Hy9 := Lib.hid hy9; have Hn9 := Lib.hid hn9; clear hyl hy9 hn9; have hk29 := (hkwr.trans hk8).trans hk9; have hown8 := own_of_blk (base := w2.heap.size) (n := nB) (hb8.kept hk9) (by omega) (by rw [u8s_length, Hzl.out]) (by unfold maxLen; omega))
                          | (at_builtin; refine wpList_append rfl _ _ rfl elByte hk29 (some ⟨g8, 0, none⟩) nB nB (u8s zs) rfl hown8 ny (u8s ys) _ rfl (src_blk Tryd.underlying22 hb9 ny ny (by rw [u8s_length, Hyl.out, Nat.mul_one]) (u8s_one ys)) (by omega) ?_; intro A4 c4 w10 ho10 hk10 hg10))
                        go_ret
                        exact ⟨k2, by omega, tc2.kept hk10, hkk.then hk10 (fun _ _ h => h.elim), .inl rfl⟩
end
end

section
theorem u8s_append (a b : List Nat) : u8s (a ++ b) = u8s a ++ u8s b := by simp [u8s]
theorem Bytes.append {a b : List Nat} (ha : Bytes a) (hb : Bytes b) : Bytes (a ++ b) := fun x hx => (List.mem_append.1 hx).elim (ha x) (hb x)
theorem bytes_two : Bytes [0, 0] := by unfold Bytes; decide

/-- What is owned of two kinds lies apart. -/
theorem own_apart {w : World} {base base' n n' size size' : Nat} {e e' : TypeId} {v v' : Value} {xs xs' : List Value} (h : w.ownsRow base e size v n xs) (h' : w.ownsRow base' e' size' v' n' xs') (hne : e ≠ e') :
    v.ownBlock = none ∨ v.ownBlock ≠ v'.ownBlock := by
  rcases h.2 with ⟨rfl, _⟩ | ⟨g, cap, cur, rfl, _, hh, _⟩
  · exact .inl rfl
  · refine .inr fun heq => ?_
    rcases h'.2 with ⟨rfl, _⟩ | ⟨g', cap', cur', rfl, _, hh', _⟩
    · simp [Value.ownBlock] at heq
    · have : g = g' := by simpa [Value.ownBlock] using heq
      subst this
      rw [hh] at hh'
      injection hh' with hh'
      injection hh' with _ ht
      exact hne ht

section
theorem Lens.two {l : List Nat} {m : Nat} (h : Lens l m) : 2 ≤ l.length := by
  refine Nat.le_of_not_lt fun hlt => ?_
  have hp := h.pos
  obtain ⟨x, hx⟩ : ∃ x, l = [x] := by
    match l, hp, hlt with
    | [x], _, _ => exact ⟨x, rfl⟩
  have h1 := h.last
  have h2 := h.full
  have h3 := h.one
  have h4 := h.le
  subst hx
  simp only [List.length_singleton, Nat.sub_self, List.getD_cons_zero] at h1
  have h5 := h4 x (List.mem_singleton.2 rfl)
  have e : wtsBy m [x] = [wtOf m x] := rfl
  rw [e, wsum_one, wc_wt h1 h5] at h2
  have h6 := (Nat.pow_lt_pow_iff_right (a := 2) (by decide)).2 (show m - x < m by omega)
  omega
theorem wtsBy_take (m : Nat) (l : List Nat) (k : Nat) : wtsBy m (l.take k) = (wtsBy m l).take k := by simp [wtsBy]
theorem wtsBy_push {m k x : Nat} {l : List Nat} (h : l[k]? = some x) : wtsBy m (l.take (k + 1)) = wtsBy m (l.take k) ++ [wtOf m x] := by rw [take_push h]; simp [wtsBy]
theorem or_four {a b : Nat} (ha : a < 16) (hb : b < 16) : Go.bits .or .i64 ((a : Int) * 16) (b : Int) = ((a * 16 + b : Nat) : Int) := by
  have h1 : ((a : Int) * 16) = ((a * 16 : Nat) : Int) := by omega
  have h2 : b ||| a * 2 ^ 4 = b + a * 2 ^ 4 := or_shift (by omega)
  have h3 : (2 : Nat) ^ 4 = 16 := by decide
  rw [h3] at h2
  rw [h1, i64_or_nat _ _ (by omega) (by omega), Nat.or_comm, h2]
  congr 1
  omega

set_option maxHeartbeats 8000000 in
set_option maxRecDepth 4000 in
theorem treeBytes_any {R R' : Nat → Prop} (wb cb k m : Nat) (A : Option Addr) (c : Nat) (l : List Nat) (w : World) (hw : w.cell? ⟨wb, 0, none⟩ = some (.pointer (some ⟨cb, 0, none⟩))) (hwc : wb ≠ cb) (hc : Chz w R cb k) (hRcb : ¬ R cb) (hRw : ∀ j, R j → j < w.heap.size) (hk : k ≤ 1073740000)
    (hs : Sl w R' A (nats l)) (_hR' : ¬ R' cb) (hcap : l.length ≤ c) (hL : Lens l m) :
    Calls Tryd.prog 62 #[.pointer (some ⟨wb, 0, none⟩), .slice A l.length c] w (WbPost R cb k 20 (wtsBy m (l.take (l.length - 1))) w) := by
  obtain ⟨M, hM⟩ : ∃ M, M = l.length := ⟨_, rfl⟩
  have hM2 : 2 ≤ M := by rw [hM]; exact hL.two
  have hM256 : M ≤ 256 := by rw [hM]; exact hL.size
  have hm1 := hL.one
  have hm11 := hL.top
  have hcbw : cb < w.heap.size := by obtain ⟨_, _, _, _, hb, _⟩ := hc; exact hb.lt
  have HL := Lib.hid hL
  have HM := Lib.hid hM
  have Hc := Lib.hid hc
  have HRw := Lib.hid hRw
  rw [← hM] at hcap ⊢
  clear hL hM hc hRw
  have hneq := fun (w : World) (a : Option Addr) (n c n' c' : Nat) => run_neq_slice_nil_any (P := Tryd.prog) w 22 5 a n c n' c' Tryd.underlying22
  go_enter Tryd.func62, Tryd.ntmps62
  go_wp2
  go_loopg [5, 18] (M + 1) (fun g s5 s18 wr => ∃ i mx : Nat, M - i < g ∧ i ≤ M ∧ s18 = .int .i64 i ∧ s5 = .int .i64 mx ∧ mx ≤ 11 ∧ Hid ((∀ x ∈ l.take i, x ≤ mx) ∧ (mx = 0 ∨ mx ∈ l.take i)) ∧ w = wr)
  case atStart => exact ⟨0, 0, by omega, by omega, rfl, rfl, by omega, ⟨by simp, .inl rfl⟩, rfl⟩
  case round =>
    obtain ⟨i, mx, q1, q2, rfl, rfl, q3, q4, rfl⟩ := hrel
    by_cases hi : i < M
    · obtain ⟨g, o, x, hRx, rfl, hcx, hxk⟩ := hs.nat (k := i) (by rw [← HM.out]; exact hi)
      have hxm : x ≤ 11 := by have := HL.out.le x (List.mem_of_getElem? hxk.out); omega
      obtain ⟨y, hy⟩ : ∃ y, y = max mx x := ⟨_, rfl⟩
      have hyi : max (mx : Int) (x : Int) = (y : Int) := by omega
      have hst : (∀ z ∈ l.take (i + 1), z ≤ y) ∧ (y = 0 ∨ y ∈ l.take (i + 1)) := by
        rw [take_push hxk.out]
        refine ⟨fun z hz => ?_, ?_⟩
        · rcases List.mem_append.1 hz with hz | hz
          · have := q4.out.1 z hz; omega
          · rw [List.mem_singleton.1 hz]; omega
        · rw [List.mem_append, List.mem_singleton]
          by_cases h : mx ≤ x
          · right; right; omega
          · rcases q4.out.2 with h0 | h0
            · omega
            · right; left; rw [show y = mx by omega]; exact h0
      have Hst := Lib.hid hst
      have hyb : y ≤ 11 := by omega
      clear hst hy
      go_wp2
      go_roundg (M - i)
      case measure => exact q1
      case rel => exact ⟨i + 1, y, by omega, by omega, rfl, rfl, hyb, Hst.out, rfl⟩
    · obtain rfl : M = i := by omega
      have hmx : mx = m := by
        rw [List.take_of_length_le (by rw [← HM.out]; exact Nat.le_refl _)] at q4
        have h1 := q4.out.1 m HL.out.has
        rcases q4.out.2 with h2 | h2
        · omega
        · have := HL.out.le mx h2; omega
      subst hmx
      clear q1 q2 hi q3 q4
      obtain ⟨M1, rfl⟩ : ∃ x, M = x + 1 := ⟨M - 1, by omega⟩
      obtain ⟨ws, hws⟩ : ∃ x, x = wtsBy mx (l.take M1) := ⟨_, rfl⟩
      have hwl : ws.length = M1 := by rw [hws, wtsBy_length, List.length_take, ← HM.out]; omega
      have hw11 : ∀ x ∈ ws, x < 12 := fun x hx => by
        rw [hws] at hx
        obtain ⟨y, _, rfl⟩ := List.mem_map.1 hx
        have := wt_le mx y
        omega
      rw [Nat.add_sub_cancel, ← hws]
      have Hws := Lib.hid hws
      have Hwl := Lib.hid hwl
      have Hw11 := Lib.hid hw11
      clear hws hwl hw11
      go_wp2
      go_loopg [8, 32] (M1 + 1) (fun g s8 s32 wr => ∃ (i : Nat) (A' : Option Addr) (c' : Nat), M1 - i < g ∧ i ≤ M1 ∧ s32 = .int .i64 i ∧ s8 = .slice A' i c' ∧ wr.ownsRow w.heap.size 3 1 (.slice A' i c') i (nats (ws.take i)) ∧ Kept w wr)
      case atStart => exact ⟨0, none, 0, by omega, by omega, rfl, rfl, by simpa [nats] using World.ownsRow_nil _ _ _ _, Keep.refl _ _⟩
      case round =>
        obtain ⟨i, A', c', q1, q2, rfl, rfl, qo, qk⟩ := hrel
        by_cases hi : i < M1
        · obtain ⟨g, o, x, hRx, rfl, hcx, hxk⟩ := (hs.kept qk).nat (k := i) (by rw [← HM.out]; omega)
          have hxm : x ≤ mx := HL.out.le x (List.mem_of_getElem? hxk.out)
          have hxt : (l.take M1)[i]? = some x := by rw [List.getElem?_take, if_pos hi]; exact hxk.out
          have hwi : ws[i]? = some (wtOf mx x) := by rw [Hws.out, wtsBy, List.getElem?_map, hxt]; rfl
          have hpu := take_push hwi
          obtain ⟨y, hy⟩ : ∃ y, y = wtOf mx x := ⟨_, rfl⟩
          rw [← hy] at hpu
          have Hpu := Lib.hid hpu
          clear hpu hwi hxt
          by_cases hx0 : 0 < x
          · have hyi : (mx : Int) + 1 - (x : Int) = (y : Int) := by rw [hy, wtOf, if_neg (by omega)]; omega
            clear hy
            go_wp2_with (at_builtin; refine wpList_push rfl _ _ rfl elInt qk A' i c' _ rfl qo [.int .i64 (y : Int)] rfl rfl (by simp [Value.oneCell']) (by omega) ?_; intro A2 c2 w2 ho2 hk2 hg2)
            go_roundg (M1 - i)
            case measure => exact q1
            case rel => exact ⟨i + 1, A2, c2, by omega, by omega, rfl, rfl, by rw [Hpu.out, nats_push]; exact ho2, hk2⟩
          · obtain rfl : x = 0 := by omega
            have hy0 : y = 0 := by rw [hy]; rfl
            subst hy0
            clear hy
            have hcx0 : wr.cell? ⟨g, o + i, none⟩ = some (.int .i64 0) := hcx
            clear hcx
            go_wp2_with (at_builtin; refine wpList_push rfl _ _ rfl elInt qk A' i c' _ rfl qo [.int .i64 0] rfl rfl (by simp [Value.oneCell']) (by omega) ?_; intro A2 c2 w2 ho2 hk2 hg2)
            go_roundg (M1 - i)
            case measure => exact q1
            case rel => exact ⟨i + 1, A2, c2, by omega, by omega, rfl, rfl, by rw [Hpu.out, nats_push]; exact ho2, hk2⟩
        · obtain rfl : M1 = i := by omega
          rw [List.take_of_length_le (by rw [Hwl.out]; exact Nat.le_refl _)] at qo
          obtain ⟨g7, rfl, hg7b, hg7l⟩ := own_some qo (by omega)
          have hch := chooser_any cb k 2 wr (Hc.out.kept qk) hRcb (by omega) (by decide) (by decide)
          have hwb := fun k' w' (hk' : k' ≤ k + 1) (hkk : Keep (· = cb) wr w') (hcz : Chz w' R cb k') =>
            weightBytes_any (R' := fun j => w.heap.size ≤ j ∧ j < wr.heap.size) wb cb k' (some ⟨g7, 0, none⟩) c' ws w' (hkk.cell (qk.cell hw (fun h => h)) hwc) hwc hcz hRcb (fun j hj => by have := HRw.out j hj; have := qk.size; have := hkk.size; omega) (by omega) ((Sl.of_own qo).keep hkk (fun j _ h1 h2 => by omega)) (fun h => by omega) (fun j hj => by have := hkk.size; omega) Hw11.out (by rw [Hwl.out]; omega) (by rw [Hwl.out]; omega)
          rw [Hwl.out] at hwb
          have hwat := fun w' (hkk : Keep (· = cb) wr w') j (hj : j < ws.length) => hkk.cell ((qo.cellAt j (by rw [Nat.mul_one, ← Hwl.out]; exact hj)).trans (nats_at hj)) (fun h => by simp only at h; omega)
          have Hch := Lib.hid hch
          have Hwb := Lib.hid hwb
          have Hwat := Lib.hid hwat
          have Hqk := Lib.hid qk
          have hqks := qk.size
          have ew := qk.cell hw (fun h => h)
          have hM1b : ((M1 : Int) == 0) = false := beq_eq_false_iff_ne.2 (by omega)
          clear hch hwb hwat q1 q2 hi qo qk
          by_cases hsel : 128 < M1
          · go_wp2_with (go_at_call 61; (with_reducible refine Hch.out.mono ?_); rintro e w1 ⟨v, k1, rfl, hv, hk1, tc1, hkk1⟩; have hv2 : v = 0 ∨ v = 1 := (by omega); clear hv; have e1 := hkk1.cell ew hwc; rcases hv2 with rfl | rfl)
            all_goals
              go_wp2_with (go_at_call 83; (with_reducible refine (Hwb.out k1 w1 hk1 hkk1 tc1).mono ?_); rintro e w2 ⟨k2, hk2, tc2, hkk2, rfl | ⟨g9, n9, c9, zs, rfl, hn9, hn9b, ho9, ht9⟩⟩)
              all_goals
                have hkk := hkk1.trans hkk2
                try go_wp2
                go_ret
                first
                  | exact ⟨k2, by omega, tc2, (Kept.any Hqk.out (· = cb)).trans hkk, .inl rfl⟩
                  | exact ⟨k2, by omega, tc2, (Kept.any Hqk.out (· = cb)).trans hkk, .inr ⟨g9, n9, c9, zs, rfl, hn9, hn9b, own_mono ho9 (by have := hkk1.size; omega), by rw [Nat.add_sub_cancel, ← Hws.out]; exact ht9⟩⟩
          · go_wp2_with (first
              | (go_at_call 61; (with_reducible refine Hch.out.mono ?_); rintro e w1 ⟨v, k1, rfl, hv, hk1, tc1, hkk1⟩; have hv2 : v = 0 ∨ v = 1 := (by omega); clear hv; have e1 := hkk1.cell ew hwc; rcases hv2 with rfl | rfl)
              | (go_at_call 83; (with_reducible refine (Hwb.out k1 w1 hk1 hkk1 tc1).mono ?_); rintro e w2 ⟨k2, hk2, tc2, hkk2, rfl | ⟨g9, n9, c9, zs, rfl, hn9, hn9b, ho9, ht9⟩⟩))
            · have Hkk1 := Lib.hid hkk1
              have hwc2 := fun j (hj : j < ws.length) => Hwat.out w1 Hkk1.out j hj
              have hw16 : ∀ j, ws.getD j 0 < 16 := fun j => by
                rw [List.getD_eq_getElem?_getD]
                cases hj : ws[j]? with
                | none => simp
                | some x => have := Hw11.out x (List.mem_of_getElem? hj); simpa using (by omega : x < 16)
              have Hwc2 := Lib.hid hwc2
              have Hw16 := Lib.hid hw16
              have hbb := Hkk1.out.size
              clear hwc2 hw16 Hwat Hwb Hch
              try go_wp2
              obtain ⟨go, hgo⟩ : ∃ x, x = w1.heap.size := ⟨_, rfl⟩
              obtain ⟨Wd, hWd⟩ : ∃ x, x = w1.alloc (.cells #[.int .u8 (127 + (M1 : Int))] 5) := ⟨_, rfl⟩
              have hbd : Blk Wd go 5 (u8s (pairs ws 0)) := by
                rw [hWd, hgo]
                refine Blk.cast (Blk.new w1 5 [.int .u8 (127 + (M1 : Int))]) ?_
                simp [pairs, u8s, Hwl.out]
              have hkd : Kept w1 Wd := by rw [hWd]; exact (Keep.refl _ _).alloc _
              have hgw : w1.heap.size ≤ go := by rw [hgo]; exact Nat.le_refl _
              have hod := own_of_blk (base := w1.heap.size) (n := 1) hbd hgw (by rw [u8s_length, pairs_length]) (by unfold maxLen; omega)
              rw [← hgo, ← hWd]
              clear hgo hWd hbd
              go_loopg [13, 14] (M1 + 2) (fun gg s13 s14 wr2 => ∃ (kk : Nat) (A3 : Option Addr) (c3 : Nat), M1 + 1 - 2 * kk < gg ∧ 2 * kk ≤ M1 + 1 ∧ s14 = .int .i64 ((2 * kk : Nat) : Int) ∧ s13 = .slice A3 (kk + 1) c3 ∧ wr2.ownsRow w1.heap.size 5 1 (.slice A3 (kk + 1) c3) (kk + 1) (u8s (pairs ws kk)) ∧ Kept w1 wr2)
              case atStart => exact ⟨0, some ⟨go, 0, none⟩, 1, by omega, by omega, rfl, rfl, hod, hkd⟩
              case round =>
                clear hod hkd
                obtain ⟨kk, A3, c3, t1, t2, rfl, rfl, tow, tk⟩ := hrel
                obtain ⟨i2, hi2⟩ : ∃ x, x = 2 * kk := ⟨_, rfl⟩
                have hi2n : (i2 : Int) + 2 = ((2 * (kk + 1) : Nat) : Int) := by omega
                have Hi2n := Lib.hid hi2n
                rw [← hi2]
                have Hi2 := Lib.hid hi2
                clear hi2n
                by_cases hlt : i2 < M1
                · obtain ⟨x, hx⟩ : ∃ x, x = ws.getD i2 0 := ⟨_, rfl⟩
                  obtain ⟨y, hy⟩ : ∃ y, y = ws.getD (i2 + 1) 0 := ⟨_, rfl⟩
                  have hx16 : x < 16 := by rw [hx]; exact Hw16.out i2
                  have hy16 : y < 16 := by rw [hy]; exact Hw16.out (i2 + 1)
                  have ex := tk.cell (Hwc2.out i2 (by rw [Hwl.out]; exact hlt)) (fun h => h)
                  rw [← hx] at ex
                  have hpk : pk ws kk = x * 16 + y := by rw [pk, ← hi2, ← hx, ← hy]
                  have hpu : u8s (pairs ws (kk + 1)) = u8s (pairs ws kk) ++ [.int .u8 ((x * 16 + y : Nat) : Int)] := by rw [pairs_push, hpk]; simp [u8s]
                  have Hpu := Lib.hid hpu
                  clear hpk hpu hx
                  by_cases hl1 : i2 + 1 < M1
                  · have ey := tk.cell (Hwc2.out (i2 + 1) (by rw [Hwl.out]; exact hl1)) (fun h => h)
                    rw [← hy] at ey
                    have hor := or_four hx16 hy16
                    obtain ⟨v9, hv9⟩ : ∃ v, v = x * 16 + y := ⟨_, rfl⟩
                    rw [← hv9] at hor Hpu
                    have hv256 : v9 < 256 := by omega
                    clear hy hv9 hi2
                    go_wp2_with (at_builtin; refine wpList_push rfl _ _ rfl elByte tk A3 (kk + 1) c3 _ rfl tow [.int .u8 (v9 : Int)] rfl rfl (by simp [Value.oneCell']) (by omega) ?_; intro A6 c6 w6 ho6 hk6 hg6)
                    go_roundg (M1 + 1 - i2)
                    case measure => have := Hi2.out; omega
                    case rel => exact ⟨kk + 1, A6, c6, by have := Hi2.out; omega, by have := Hi2.out; omega, by rw [Hi2n.out], rfl, by rw [Hpu.out]; exact ho6, hk6⟩
                  · have hy0 : y = 0 := by rw [hy, List.getD_eq_getElem?_getD, List.getElem?_eq_none (by rw [Hwl.out]; omega)]; rfl
                    subst hy0
                    have hv16 : (x : Int) * 16 = ((x * 16 : Nat) : Int) := by omega
                    obtain ⟨v9, hv9⟩ : ∃ v, v = x * 16 := ⟨_, rfl⟩
                    rw [← hv9] at hv16
                    rw [Nat.add_zero, ← hv9] at Hpu
                    have hv256 : v9 < 256 := by omega
                    clear hy hv9 hi2
                    go_wp2_with (at_builtin; refine wpList_push rfl _ _ rfl elByte tk A3 (kk + 1) c3 _ rfl tow [.int .u8 (v9 : Int)] rfl rfl (by simp [Value.oneCell']) (by omega) ?_; intro A6 c6 w6 ho6 hk6 hg6)
                    go_roundg (M1 + 1 - i2)
                    case measure => have := Hi2.out; omega
                    case rel => exact ⟨kk + 1, A6, c6, by have := Hi2.out; omega, by have := Hi2.out; omega, by rw [Hi2n.out], rfl, by rw [Hpu.out]; exact ho6, hk6⟩
                · have hkk : kk = (ws.length + 1) / 2 := by rw [Hwl.out]; omega
                  have hpt := pairs_told (ws := ws) (fun x hx => by have := Hw11.out x hx; omega) (by rw [Hwl.out]; omega) (by rw [Hwl.out]; omega)
                  rw [← hkk] at hpt
                  have Hpt := Lib.hid hpt
                  have hkkb : kk ≤ 200 := by omega
                  obtain ⟨g3, rfl, hg3b, hg3l⟩ := own_some tow (by omega)
                  have Hto := Lib.hid tow
                  clear hpt hkk tow hi2
                  go_wp2
                  go_ret
                  refine ⟨k1, by omega, tc1.kept tk, ((Kept.any Hqk.out (· = cb)).trans Hkk1.out).then tk (fun _ _ h => h.elim), .inr ⟨g3, kk + 1, c3, pairs ws kk, rfl, by show _ = _; rw [pairs_length], by omega, ?_, by rw [Nat.add_sub_cancel, ← Hws.out]; exact Hpt.out⟩⟩
                  exact own_mono Hto.out (by omega)
            · have Hkk2 := Lib.hid (hkk1.trans hkk2)
              have hwc2 := fun j (hj : j < ws.length) => Hwat.out w2 Hkk2.out j hj
              have hw16 : ∀ j, ws.getD j 0 < 16 := fun j => by
                rw [List.getD_eq_getElem?_getD]
                cases hj : ws[j]? with
                | none => simp
                | some x => have := Hw11.out x (List.mem_of_getElem? hj); simpa using (by omega : x < 16)
              have Hwc2 := Lib.hid hwc2
              have Hw16 := Lib.hid hw16
              have hbb := Hkk2.out.size
              clear hwc2 hw16 Hwat Hwb Hch
              try go_wp2
              obtain ⟨go, hgo⟩ : ∃ x, x = w2.heap.size := ⟨_, rfl⟩
              obtain ⟨Wd, hWd⟩ : ∃ x, x = w2.alloc (.cells #[.int .u8 (127 + (M1 : Int))] 5) := ⟨_, rfl⟩
              have hbd : Blk Wd go 5 (u8s (pairs ws 0)) := by
                rw [hWd, hgo]
                refine Blk.cast (Blk.new w2 5 [.int .u8 (127 + (M1 : Int))]) ?_
                simp [pairs, u8s, Hwl.out]
              have hkd : Kept w2 Wd := by rw [hWd]; exact (Keep.refl _ _).alloc _
              have hgw : w2.heap.size ≤ go := by rw [hgo]; exact Nat.le_refl _
              have hod := own_of_blk (base := w2.heap.size) (n := 1) hbd hgw (by rw [u8s_length, pairs_length]) (by unfold maxLen; omega)
              rw [← hgo, ← hWd]
              clear hgo hWd hbd
              go_loopg [13, 14] (M1 + 2) (fun gg s13 s14 wr2 => ∃ (kk : Nat) (A3 : Option Addr) (c3 : Nat), M1 + 1 - 2 * kk < gg ∧ 2 * kk ≤ M1 + 1 ∧ s14 = .int .i64 ((2 * kk : Nat) : Int) ∧ s13 = .slice A3 (kk + 1) c3 ∧ wr2.ownsRow w2.heap.size 5 1 (.slice A3 (kk + 1) c3) (kk + 1) (u8s (pairs ws kk)) ∧ Kept w2 wr2)
              case atStart => exact ⟨0, some ⟨go, 0, none⟩, 1, by omega, by omega, rfl, rfl, hod, hkd⟩
              case round =>
                clear hod hkd
                obtain ⟨kk, A3, c3, t1, t2, rfl, rfl, tow, tk⟩ := hrel
                obtain ⟨i2, hi2⟩ : ∃ x, x = 2 * kk := ⟨_, rfl⟩
                have hi2n : (i2 : Int) + 2 = ((2 * (kk + 1) : Nat) : Int) := by omega
                have Hi2n := Lib.hid hi2n
                rw [← hi2]
                have Hi2 := Lib.hid hi2
                clear hi2n
                by_cases hlt : i2 < M1
                · obtain ⟨x, hx⟩ : ∃ x, x = ws.getD i2 0 := ⟨_, rfl⟩
                  obtain ⟨y, hy⟩ : ∃ y, y = ws.getD (i2 + 1) 0 := ⟨_, rfl⟩
                  have hx16 : x < 16 := by rw [hx]; exact Hw16.out i2
                  have hy16 : y < 16 := by rw [hy]; exact Hw16.out (i2 + 1)
                  have ex := tk.cell (Hwc2.out i2 (by rw [Hwl.out]; exact hlt)) (fun h => h)
                  rw [← hx] at ex
                  have hpk : pk ws kk = x * 16 + y := by rw [pk, ← hi2, ← hx, ← hy]
                  have hpu : u8s (pairs ws (kk + 1)) = u8s (pairs ws kk) ++ [.int .u8 ((x * 16 + y : Nat) : Int)] := by rw [pairs_push, hpk]; simp [u8s]
                  have Hpu := Lib.hid hpu
                  clear hpk hpu hx
                  by_cases hl1 : i2 + 1 < M1
                  · have ey := tk.cell (Hwc2.out (i2 + 1) (by rw [Hwl.out]; exact hl1)) (fun h => h)
                    rw [← hy] at ey
                    have hor := or_four hx16 hy16
                    obtain ⟨v9, hv9⟩ : ∃ v, v = x * 16 + y := ⟨_, rfl⟩
                    rw [← hv9] at hor Hpu
                    have hv256 : v9 < 256 := by omega
                    clear hy hv9 hi2
                    go_wp2_with (at_builtin; refine wpList_push rfl _ _ rfl elByte tk A3 (kk + 1) c3 _ rfl tow [.int .u8 (v9 : Int)] rfl rfl (by simp [Value.oneCell']) (by omega) ?_; intro A6 c6 w6 ho6 hk6 hg6)
                    go_roundg (M1 + 1 - i2)
                    case measure => have := Hi2.out; omega
                    case rel => exact ⟨kk + 1, A6, c6, by have := Hi2.out; omega, by have := Hi2.out; omega, by rw [Hi2n.out], rfl, by rw [Hpu.out]; exact ho6, hk6⟩
                  · have hy0 : y = 0 := by rw [hy, List.getD_eq_getElem?_getD, List.getElem?_eq_none (by rw [Hwl.out]; omega)]; rfl
                    subst hy0
                    have hv16 : (x : Int) * 16 = ((x * 16 : Nat) : Int) := by omega
                    obtain ⟨v9, hv9⟩ : ∃ v, v = x * 16 := ⟨_, rfl⟩
                    rw [← hv9] at hv16
                    rw [Nat.add_zero, ← hv9] at Hpu
                    have hv256 : v9 < 256 := by omega
                    clear hy hv9 hi2
                    go_wp2_with (at_builtin; refine wpList_push rfl _ _ rfl elByte tk A3 (kk + 1) c3 _ rfl tow [.int .u8 (v9 : Int)] rfl rfl (by simp [Value.oneCell']) (by omega) ?_; intro A6 c6 w6 ho6 hk6 hg6)
                    go_roundg (M1 + 1 - i2)
                    case measure => have := Hi2.out; omega
                    case rel => exact ⟨kk + 1, A6, c6, by have := Hi2.out; omega, by have := Hi2.out; omega, by rw [Hi2n.out], rfl, by rw [Hpu.out]; exact ho6, hk6⟩
                · have hkk : kk = (ws.length + 1) / 2 := by rw [Hwl.out]; omega
                  have hpt := pairs_told (ws := ws) (fun x hx => by have := Hw11.out x hx; omega) (by rw [Hwl.out]; omega) (by rw [Hwl.out]; omega)
                  rw [← hkk] at hpt
                  have Hpt := Lib.hid hpt
                  have hkkb : kk ≤ 200 := by omega
                  obtain ⟨g3, rfl, hg3b, hg3l⟩ := own_some tow (by omega)
                  have Hto := Lib.hid tow
                  clear hpt hkk tow hi2
                  go_wp2
                  go_ret
                  refine ⟨k2, by omega, tc2.kept tk, ((Kept.any Hqk.out (· = cb)).trans Hkk2.out).then tk (fun _ _ h => h.elim), .inr ⟨g3, kk + 1, c3, pairs ws kk, rfl, by show _ = _; rw [pairs_length], by omega, ?_, by rw [Nat.add_sub_cancel, ← Hws.out]; exact Hpt.out⟩⟩
                  exact own_mono Hto.out (by omega)
            · have hkk := hkk1.trans hkk2
              go_ret
              exact ⟨k2, by omega, tc2, (Kept.any Hqk.out (· = cb)).trans hkk, .inr ⟨g9, n9, c9, zs, rfl, hn9, hn9b, own_mono ho9 (by have := hkk1.size; omega), by rw [Nat.add_sub_cancel, ← Hws.out]; exact ht9⟩⟩
end

section
theorem own_cap {w : World} {base n size : Nat} {e : TypeId} {A : Option Addr} {c : Nat} {xs : List Value} (h : w.ownsRow base e size (.slice A n c) n xs) : n ≤ c := by
  rcases h.2 with ⟨_, h0⟩ | ⟨g, cap, cur, hv, hb, hg, hnc, _⟩
  · omega
  · injection hv with h1 h2 h3
    omega

/-- What spec.TreeTold hands back: nothing, or a description and how many bits each symbol has. -/
def TreeToldPost (w : World) (e : Ending) (w' : World) : Prop :=
  Kept w w' ∧ ((∃ v, e = .returned (.tuple #[.slice none 0 0, v])) ∨
    ∃ g n c zs A' n' c' l m, e = .returned (.tuple #[.slice (some ⟨g, 0, none⟩) n c, .slice A' n' c']) ∧ Hid (n = List.length zs) ∧ Hid (n' = List.length l) ∧ n ≤ 256 ∧ w'.ownsRow w.heap.size 5 1 (.slice (some ⟨g, 0, none⟩) n c) n (u8s zs) ∧
      w'.ownsRow w.heap.size 3 1 (.slice A' n' c') n' (nats l) ∧ Hid (Lens l m ∧ TellsW zs (wtsBy m (l.take (l.length - 1)))))

set_option maxHeartbeats 4000000 in
set_option maxRecDepth 4000 in
theorem treeTold_any (A : Option Addr) (c : Nat) (cs : List Int) (A' : Option Addr) (c' : Nat) (xs : List Int) (w : World) (hs : Sl w (· < w.heap.size) A (i64s cs)) (hs' : Sl w (· < w.heap.size) A' (i64s xs)) (hx : I64s xs) (hlen : cs.length ≤ 2147483647) (hlen' : xs.length ≤ 2147483647) :
    Calls Tryd.prog 34 #[.slice A cs.length c, .slice A' xs.length c'] w (TreeToldPost w) := by
  have Hx := Lib.hid hx
  clear hx
  go_enter Tryd.func34, Tryd.ntmps34
  go_wp2
  go_loopg [6, 13] (cs.length + 1) (fun g s6 s13 wr => ∃ i u : Nat, cs.length - i < g ∧ i ≤ cs.length ∧ s13 = .int .i64 i ∧ s6 = .int .i64 u ∧ u ≤ i ∧ Hid (u = (posAt 0 (cs.take i)).length) ∧ w = wr)
  case atStart => exact ⟨0, 0, by omega, by omega, rfl, rfl, by omega, rfl, rfl⟩
  case round =>
    obtain ⟨i, u, q1, q2, rfl, rfl, q3, q4, rfl⟩ := hrel
    by_cases hlt : i < cs.length
    · obtain ⟨g, o, x, hR, rfl, hcx, hxk⟩ := hs.i64 hlt
      have hpu := posAt_push hxk.out
      have Hpu := Lib.hid hpu
      clear hpu
      by_cases hpos : 0 < x
      · go_wp2
        go_roundg (cs.length - i)
        case measure => exact q1
        case rel => exact ⟨i + 1, u + 1, by omega, by omega, rfl, rfl, by omega, by show _ = _; rw [Hpu.out, if_pos hpos, List.length_append, ← q4.out]; rfl, rfl⟩
      · go_wp2
        go_roundg (cs.length - i)
        case measure => exact q1
        case rel => exact ⟨i + 1, u, by omega, by omega, rfl, rfl, by omega, by show _ = _; rw [Hpu.out, if_neg (by omega), List.append_nil]; exact q4.out, rfl⟩
    · obtain ⟨M, hM⟩ : ∃ M, M = cs.length := ⟨_, rfl⟩
      obtain rfl : i = M := by omega
      rw [hM, List.take_length] at q4
      by_cases hu : u < 2
      · go_wp2
        go_ret2
        exact ⟨Keep.refl _ _, .inl ⟨_, rfl⟩⟩
      by_cases h256 : 256 < i
      · go_wp2
        go_ret2
        exact ⟨Keep.refl _ _, .inl ⟨_, rfl⟩⟩
      have HM := Lib.hid hM
      rw [← hM]
      clear hM hlt q1 q2
      go_upto_region 11 with (fail)
      obtain ⟨cb, hcb⟩ : ∃ x, x = w.heap.size := ⟨_, rfl⟩
      obtain ⟨wb, hwb⟩ : ∃ x, x = cb + 1 := ⟨_, rfl⟩
      obtain ⟨W, hW⟩ : ∃ x, x = (w.alloc (.cells #[.slice A' xs.length c', .int .i64 0] 122)).alloc (.cells #[.pointer (some ⟨w.heap.size, 0, none⟩), .slice none 0 0, .int .i64 0, .int .i64 0, .slice none 0 0, .pointer none, .pointer none, .pointer none, .int .i64 0, .int .i64 0, .int .i64 0, .map none, .int .i64 0] 128) := ⟨_, rfl⟩
      rw [← hW, ← hcb, ← hwb]
      have hkW : Kept w W := by rw [hW]; exact ((Keep.refl _ _).alloc _).alloc _
      have hcz : Chz W (· < w.heap.size) cb 0 := by
        refine ⟨A', xs.length, c', xs, ?_, rfl, hs'.kept hkW, Hx.out, hlen'⟩
        rw [hW, hcb]
        exact (Blk.new w 122 [.slice A' xs.length c', .int .i64 0]).alloc _
      have hwb0 : W.cell? ⟨wb, 0, none⟩ = some (.pointer (some ⟨cb, 0, none⟩)) := by
        have hb := Blk.new (w.alloc (.cells #[.slice A' xs.length c', .int .i64 0] 122)) 128 [.pointer (some ⟨w.heap.size, 0, none⟩), .slice none 0 0, .int .i64 0, .int .i64 0, .slice none 0 0, .pointer none, .pointer none, .pointer none, .int .i64 0, .int .i64 0, .int .i64 0, .map none, .int .i64 0]
        have e : (w.alloc (.cells #[.slice A' xs.length c', .int .i64 0] 122)).heap.size = wb := by rw [hwb, hcb]; simp
        rw [e] at hb
        rw [hW, hb.cell 0, hcb]
        rfl
      have hWs : W.heap.size = wb + 1 := by rw [hW, hwb, hcb]; simp
      have hcbw : w.heap.size ≤ cb := by rw [hcb]; exact Nat.le_refl _
      have hR : ¬ cb < w.heap.size := by omega
      have hne : wb ≠ cb := by omega
      have hcw : cb < W.heap.size := by omega
      have hch := chooser_any cb 0 2 W hcz hR (by omega) (by decide) (by decide)
      have hcl := fun d w' (hk : Keep (· = cb) W w') => codeLengths_any A c cs d w' ((hs.kept hkW).keep hk (fun j _ h1 h2 => by omega)) (by rw [← HM.out]; omega) (by rw [← q4.out]; omega)
      rw [← HM.out] at hcl
      have Hch := Lib.hid hch
      have Hcl := Lib.hid hcl
      clear hch hcl hcb hwb hW
      go_wp2_with (first
        | (go_at_call 61; (with_reducible refine Hch.out.mono ?_); rintro e w1 ⟨v, k1, rfl, hv, hk1, tc1, hkk1⟩; clear hv)
        | (go_at_call 60; (with_reducible refine (Hcl.out _ w1 hkk1).mono ?_); rintro e w2 ⟨A2, c2, l, m, rfl, hL, hpos, ho2, hk2⟩; have hkk2 := hkk1.kept hk2; have hcap2 := own_cap ho2; have ho2s := ho2.lt; have htb := treeBytes_any (R' := fun j => w1.heap.size ≤ j ∧ j < w2.heap.size) wb cb k1 m A2 c2 l w2 (hkk2.cell hwb0 hne) hne (tc1.kept hk2) hR (fun j hj => (by have h1 := hkk2.size; omega)) (by omega) (Sl.of_own ho2) (fun h => (by have h1 := hkk1.size; omega)) hcap2 hL; obtain ⟨n2, hn2⟩ : ∃ x, x = List.length l := ⟨_, rfl⟩; have Htb := Lib.hid htb; have HL := Lib.hid hL; have Ho2 := Lib.hid ho2; have Hn2 := Lib.hid hn2; clear htb hL hpos ho2 hcap2 ho2s hn2)
        | (go_at_call 62; (with_reducible refine Htb.out.mono ?_); rintro e w3 ⟨k3, hk3, tc3, hkk3, rfl | ⟨g, n, c9, zs, rfl, hn, hnb, ho3, ht⟩⟩))
      · have hkf : Kept w w3 := hkW.then (hkk2.trans hkk3) (fun j hj h => by omega)
        go_wp2
        go_ret2
        exact ⟨hkf, .inl ⟨_, rfl⟩⟩
      · have hkf : Kept w w3 := hkW.then (hkk2.trans hkk3) (fun j hj h => by omega)
        have hs1 := hkk1.size
        have hs3 := hkk3.size
        go_wp2
        go_ret2
        exact ⟨hkf, .inr ⟨g, n, c9, zs, A2, _, c2, l, m, rfl, hn, rfl, hnb, own_mono ho3 (by have := hkk2.size; omega), own_mono (own_keep Ho2.out hkk3 (fun j hj h => by have := (Ho2.out.lt j hj).1; omega)) (by omega), HL.out, ht⟩⟩
end
end
end Go.Proofs.YtabaholflahepaaDoor
