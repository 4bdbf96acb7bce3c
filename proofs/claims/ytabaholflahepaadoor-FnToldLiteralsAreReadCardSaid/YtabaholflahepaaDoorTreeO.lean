/-
  Contract of spec.treeOf.
-/
import Derived.Test.YtabaholflahepaaDoorTreeW
import Derived.Test.YtabaholflahepaaDoorTreeA
import Derived.Test.YtabaholflahepaaDoorTreeB
import Derived.Test.YtabaholflahepaaDoorQt
namespace Go.Proofs.YtabaholflahepaaDoor
open Go.RowKit

theorem u8s_drop (l : List Nat) (k : Nat) : u8s (l.drop k) = (u8s l).drop k := by simp [u8s, List.map_drop]
theorem u8s_take (l : List Nat) (k : Nat) : u8s (l.take k) = (u8s l).take k := by simp [u8s, List.map_take]

theorem and_15 {a : Nat} (h : a < 256) : bits .and .u8 (a : Int) 15 = ((a % 16 : Nat) : Int) := by
  have e : bits .and .u8 (a : Int) ((15 : Nat) : Int) = ((a &&& 15 : Nat) : Int) := u8_and_nat a 15 h (by decide)
  have e2 : a &&& 15 = a % 16 := and_mask a 4
  rw [e2] at e
  exact e

/-- What treeOf hands back. -/
def TreePost (w : World) (ds : List Nat) (e : Ending) (w' : World) : Prop :=
  Kept w w' ∧ ((∃ al most q b n, treeS ds = some (al, most, q) ∧ e = .returned (.tuple #[.pointer (some ⟨b, 0, none⟩), .int .i64 (q : Nat), .bool true]) ∧ w.heap.size ≤ b ∧ TreeAt w' b w.heap.size most n (rowsTo al most most)) ∨
    (treeS ds = none ∧ ∃ p z, e = .returned (.tuple #[p, z, .bool false])))

set_option maxHeartbeats 4000000 in
set_option maxRecDepth 4000 in
theorem treeOf_any {R : Nat → Prop} (A : Option Addr) (n c : Nat) (ds : List Nat) (hn : n = ds.length) (w : World) (hs : Sl w R A (u8s ds)) (hR : ∀ k, R k → k < w.heap.size) (hd : Bytes ds) (hlen : n ≤ 1048576) (hc : n ≤ c) :
    Calls Tryd.prog 64 #[.slice A n c] w (TreePost w ds) := by
  by_cases h0 : n = 0
  · have hno : treeS ds = none := by unfold treeS; rw [if_pos (by omega)]
    subst h0
    have Hno := Lib.hid hno
    clear hno
    go_enter Tryd.func64, Tryd.ntmps64
    go_wp2
    go_ret3
    exact ⟨Keep.refl _ _, .inr ⟨Hno.out, _, _, rfl⟩⟩
  obtain ⟨g, o, h, hRg, hA, hch, hhk⟩ := hs.u8 (k := 0) (by omega)
  rw [Nat.add_zero] at hch
  have hh0 : ds.getD 0 0 = h := by rw [List.getD_eq_getElem?_getD, hhk.out]; rfl
  have hh256 : h < 256 := hd h (List.mem_of_getElem? hhk.out)
  obtain ⟨bd, hbd⟩ : ∃ bd, bd = bodyOf h := ⟨_, rfl⟩
  have hfin : ∀ ws w1 A' c', wtsIn ds = some ws → 1 + bd ≤ n → Kept w w1 → w1.ownsRow w.heap.size 3 1 (.slice A' ws.length c') ws.length (nats ws) →
      Calls Tryd.prog 86 #[.slice A' ws.length c'] w1 fun e w' => Kept w w' ∧ ((∃ al most b nn, treeS ds = some (al, most, 1 + bd) ∧ e = .returned (.tuple #[.pointer (some ⟨b, 0, none⟩), .bool true]) ∧ w.heap.size ≤ b ∧ TreeAt w' b w.heap.size most nn (rowsTo al most most)) ∨
        (treeS ds = none ∧ e = .returned (.tuple #[.pointer none, .bool false]))) := by
    intro ws w1 A' c' hws hb hk ho
    have hf := wtsIn_fine hd hws
    refine (treeBy_any A' ws.length c' ws rfl w1 (Sl.of_own ho) hf.1 (by omega)).mono ?_
    rintro e w' ⟨hk', ⟨al, most, b, ht, he, hb', nn, hta⟩ | ⟨ht, he⟩⟩
    · refine ⟨hk.trans hk', .inl ⟨al, most, b, nn, ?_, he, Nat.le_trans hk.size hb', ?_⟩⟩
      · have := treeS_of (by rw [hh0, ← hbd, ← hn]; exact hb) hws ht
        rwa [hh0, ← hbd] at this
      · obtain ⟨A1, c1, A2, c2, e1, e2, e3, e4, e5⟩ := hta
        exact ⟨A1, c1, A2, c2, e1, e2, own_mono e3 hk.size, own_mono e4 hk.size, e5⟩
    · refine ⟨hk.trans hk', .inr ⟨?_, he⟩⟩
      unfold treeS
      rw [if_neg (by omega), hh0, ← hbd, if_neg (by omega), hws]
      simp [ht]
  have Hfin := Lib.hid hfin
  clear hfin
  by_cases hl : n < 1 + bd
  · have hno : treeS ds = none := by unfold treeS; rw [if_neg (by omega), hh0, ← hbd, if_pos (by omega)]
    have Hno := Lib.hid hno
    clear hno
    by_cases hb : 128 ≤ h
    · have hbd2 : ((h : Int) - 127 + 1).tdiv 2 = (bd : Int) := by rw [hbd, bodyOf, if_pos hb, Int.tdiv_eq_ediv_of_nonneg (by omega)]; omega
      have hbd3 : ((h : Int) - 127 + 1) / 2 = (bd : Int) := by rw [hbd, bodyOf, if_pos hb]; omega
      have Hbd := Lib.hid hbd
      subst hA
      clear hbd hs
      go_enter Tryd.func64, Tryd.ntmps64
      go_wp2
      go_ret3
      exact ⟨Keep.refl _ _, .inr ⟨Hno.out, _, _, rfl⟩⟩
    · have hbd2 : bd = h := by rw [hbd, bodyOf, if_neg hb]
      subst hbd2
      subst hA
      clear hbd hs
      go_enter Tryd.func64, Tryd.ntmps64
      go_wp2
      go_ret3
      exact ⟨Keep.refl _ _, .inr ⟨Hno.out, _, _, rfl⟩⟩
  · by_cases hb : 128 ≤ h
    · have hbd2 : ((h : Int) - 127 + 1).tdiv 2 = (bd : Int) := by rw [hbd, bodyOf, if_pos hb, Int.tdiv_eq_ediv_of_nonneg (by omega)]; omega
      have hbd3 : ((h : Int) - 127 + 1) / 2 = (bd : Int) := by rw [hbd, bodyOf, if_pos hb]; omega
      obtain ⟨m, hm⟩ : ∃ m, m = h - 127 := ⟨_, rfl⟩
      have hmi : (h : Int) - 127 = (m : Int) := by omega
      rw [hmi] at hbd2 hbd3
      have hbdm : bd = (m + 1) / 2 := by rw [hbd, bodyOf, if_pos hb]; omega
      have hws : wtsIn ds = some (nibs ds m) := by unfold wtsIn; rw [if_pos (by rw [hh0]; exact hb), hh0, hm]
      have Hws := Lib.hid hws
      have Hn := Lib.hid hn
      have Hm := Lib.hid hm
      have hm128 : m ≤ 128 := by omega
      have hbn : 1 + bd ≤ n := by omega
      have hn0b : ((n : Int) == 0) = false := beq_eq_false_iff_ne.2 (by omega)
      have h128b : decide ((128 : Int) ≤ (h : Int)) = true := decide_eq_true (by omega)
      have hnlb : decide ((n : Int) < 1 + (bd : Int)) = false := decide_eq_false (by omega)
      have Hbdm := Lib.hid hbdm
      subst hA
      have Hs := Lib.hid hs
      clear hbd hws hn hs hm hbdm hl hh0
      go_enter Tryd.func64, Tryd.ntmps64
      go_wp2
      go_loopg [5, 37] (m + 1) (fun f s5 s37 wr => ∃ k A' c', m - k < f ∧ k ≤ m ∧ s5 = .slice A' k c' ∧ s37 = .int .i64 k ∧ wr.ownsRow w.heap.size 3 1 (.slice A' k c') k (nats (nibs ds k)) ∧ Kept w wr)
      case atStart => exact ⟨0, none, 0, by omega, by omega, rfl, rfl, World.ownsRow_nil _ _ _ _, Keep.refl _ _⟩
      case round =>
        obtain ⟨k, A', c', q1, q2, rfl, rfl, qo, qk⟩ := hrel
        by_cases hk : k < m
        · obtain ⟨g2, o2, x, _, hA2, hcx, hxk⟩ := (Hs.out.kept qk).u8 (k := 1 + k / 2) (by rw [← Hn.out]; have := Hbdm.out; omega)
          obtain ⟨rfl, rfl⟩ : g = g2 ∧ o = o2 := by simpa using hA2
          have hx256 : x < 256 := hd x (List.mem_of_getElem? hxk.out)
          have hkq : (k : Int).tdiv 2 = ((k / 2 : Nat) : Int) := by rw [Int.tdiv_eq_ediv_of_nonneg (by omega)]; rfl
          have hkr : (k : Int).tmod 2 = ((k % 2 : Nat) : Int) := by rw [Int.tmod_eq_emod_of_nonneg (by omega)]; rfl
          have hnib : nibAt ds k = x / 2 ^ (4 - k % 2 * 4) % 16 := by
            unfold nibAt
            rw [List.getD_eq_getElem?_getD, hxk.out]; rfl
          obtain ⟨y, hy⟩ : ∃ y, y = nibAt ds k := ⟨_, rfl⟩
          have hy16 : y < 16 := by rw [hy]; exact nibAt_lt _ _
          rw [← hy] at hnib
          have hyv : bits .and .u8 ((x : Int) / 2 ^ (4 - k % 2 * 4)) 15 = (y : Int) := by
            rw [cast_div_pow, and_15 (Nat.lt_of_le_of_lt (Nat.div_le_self _ _) hx256), hnib]
          have hyw : RowKit.wrap64 (y : Int) = (y : Int) := wrap64_nat (by omega)
          have Hy := Lib.hid hy
          clear hy hnib hA2
          go_wp2_with (at_builtin; refine wpList_push rfl _ _ rfl elInt qk A' k c' (nats (nibs ds k)) rfl qo [.int .i64 (y : Int)] rfl rfl (by simp [Value.oneCell']) (by omega) ?_; intro A2 c2 w2 ho2 hk2 hg2)
          go_roundg (m - k)
          case measure => exact q1
          case rel => exact ⟨k + 1, A2, c2, by omega, by omega, rfl, rfl, by rw [nibs_succ, ← Hy.out]; simpa [nats] using ho2, hk2⟩
        · obtain rfl : k = m := by omega
          have hfn := Hfin.out (nibs ds k) wr A' c' Hws.out (by omega) qk (by rw [nibs_length]; exact qo)
          rw [nibs_length] at hfn
          have Hfn := Lib.hid hfn
          clear hfn Hfin
          go_wp2_with fail
          refine Hfn.out.mono ?_
          rintro e w' ⟨hk', ⟨al, most, b, nn, ht, rfl, hb', hta⟩ | ⟨ht, rfl⟩⟩
          · go_wp2
            go_ret3
            exact ⟨hk', .inl ⟨al, most, 1 + bd, b, nn, ht, rfl, hb', hta⟩⟩
          · go_wp2
            go_ret3
            exact ⟨hk', .inr ⟨ht, _, _, rfl⟩⟩
    · have hbd2 : bd = h := by rw [hbd, bodyOf, if_neg hb]
      subst hbd2
      have hw0 : wtsIn ds = wtsOf ((ds.drop 1).take bd) := by unfold wtsIn; rw [if_neg (by rw [hh0]; exact hb), hh0]
      have hsr : Sl w R (some ⟨g, o + 1, none⟩) (u8s ((ds.drop 1).take bd)) := by
        have h1 := (hs.drop 1 (some ⟨g, o + 1, none⟩) (fun _ g' o' he => by
          rw [hA] at he
          simp only [Option.some.injEq, Addr.mk.injEq, and_true] at he
          obtain ⟨rfl, rfl⟩ := he
          rfl)).take bd
        rw [← u8s_drop, ← u8s_take] at h1
        exact h1
      have hwt := weightsOf_any (some ⟨g, o + 1, none⟩) bd (c - 1) _ (by rw [List.length_take, List.length_drop]; omega) w hsr hR (fun x hx => hd x (List.mem_of_mem_drop (List.mem_of_mem_take hx))) (by omega) (by omega)
      have hwt1 : c = 1 → Calls Tryd.prog 85 #[.slice (some ⟨g, o, none⟩) bd 0] w (WtsPost w ((ds.drop 1).take bd)) := fun hc1 => by
        obtain rfl : bd = 0 := by omega
        exact weightsOf_any (R := R) _ 0 0 _ (by simp) w (by rw [List.take_zero]; exact Sl.nil _ _ _) hR (fun x hx => by simp at hx) (by omega) (by omega)
      have Hwt := Lib.hid hwt
      have Hwt1 := Lib.hid hwt1
      have Hw0 := Lib.hid hw0
      have Hn := Lib.hid hn
      have hbc : 1 + bd ≤ c := by omega
      have hbn : 1 + bd ≤ n := by omega
      have hh1 := Lib.hid hh0
      have hl1 := Lib.hid hl
      subst hA
      clear hbd hs hwt hw0 hn hh0 hl hwt1
      go_enter Tryd.func64, Tryd.ntmps64
      go_wp2_with fail
      all_goals first
        | with_reducible refine Hwt.out.mono ?_
        | with_reducible refine (Hwt1.out (by assumption)).mono ?_
      all_goals
        rintro e w' ⟨hk', ⟨ws, A3, c3, hws, rfl, ho⟩ | ⟨hno, A3, n3, c3, rfl⟩⟩
        · have hfn := Hfin.out ws w' A3 c3 (by rw [Hw0.out, hws]) (by have := hl1.out; omega) hk' ho
          have Hfn := Lib.hid hfn
          clear hfn Hfin
          go_wp2_with fail
          refine Hfn.out.mono ?_
          rintro e w2 ⟨hk2, ⟨al, most, b, nn, ht, rfl, hb', hta⟩ | ⟨ht, rfl⟩⟩
          · go_wp2
            go_ret3
            exact ⟨hk2, .inl ⟨al, most, 1 + bd, b, nn, ht, rfl, hb', hta⟩⟩
          · go_wp2
            go_ret3
            exact ⟨hk2, .inr ⟨ht, _, _, rfl⟩⟩
        · have hno2 : treeS ds = none := by
            unfold treeS
            rw [if_neg (by rw [← Hn.out]; exact h0), hh1.out, bodyOf, if_neg hb, if_neg (by rw [← Hn.out]; exact hl1.out), Hw0.out, hno]; rfl
          have Hno := Lib.hid hno2
          clear hno2
          go_wp2
          go_ret3
          exact ⟨hk', .inr ⟨Hno.out, _, _, rfl⟩⟩
end Go.Proofs.YtabaholflahepaaDoor
