/-
  Contracts of the package's readers of literals: four streams. And more of its kind (LitF, LitC).
-/
import Derived.Test.YtabaholflahepaaDoorLitB
import Derived.Lib.AppendZeros
import Derived.Deep.CutRange
namespace Go.Proofs.YtabaholflahepaaDoor
open Go.RowKit

section
theorem num_two {l : List Nat} {k x y : Nat} (hx : l[k]? = some x) (hy : l[k + 1]? = some y) : num ((l.drop k).take 2) = x + 256 * y := by
  have h1 := (List.getElem?_eq_some_iff.1 hx)
  have h2 := (List.getElem?_eq_some_iff.1 hy)
  obtain ⟨a, rfl⟩ := h1
  obtain ⟨b, rfl⟩ := h2
  rw [List.drop_eq_getElem_cons a, List.drop_eq_getElem_cons b]
  simp only [List.take_succ_cons, List.take_zero, num]
  omega

/-- Two bytes at an offset. -/
theorem le16_at {R : Nat → Prop} {g o c : Nat} {ds : List Nat} {w : World} (N : Nat) (hN : N = ds.length) (hs : Sl w R (some ⟨g, o, none⟩) (u8s ds)) (hd : Bytes ds) (k : Nat) (hk : k + 2 ≤ ds.length) (w' : World) (hkw : Kept w w') :
    Calls Tryd.prog 117 #[.slice (some ⟨g, o + k, none⟩) (N - k) (c - k)] w' fun e w'' => e = .returned (.int .u16 ((num ((ds.drop k).take 2) : Nat) : Int)) ∧ Kept w' w'' := by
  obtain ⟨x, hx⟩ : ∃ x, ds[k]? = some x := ⟨_, List.getElem?_eq_getElem (by omega)⟩
  obtain ⟨y, hy⟩ : ∃ y, ds[k + 1]? = some y := ⟨_, List.getElem?_eq_getElem (by omega)⟩
  rw [num_two hx hy]
  exact le16_any _ _ _ x y (ds.drop k) (by rw [List.length_drop, hN]) w' ((hs.part k).kept hkw) (by rw [List.getElem?_drop]; exact hx) (by rw [List.getElem?_drop]; exact hy) (hd x (List.mem_of_getElem? hx)) (hd y (List.mem_of_getElem? hy))
theorem num_two_lt {ds : List Nat} (hd : Bytes ds) (k : Nat) : num ((ds.drop k).take 2) < 65536 := by
  have hdb : Bytes ((ds.drop k).take 2) := fun x hx => hd x (List.mem_of_mem_drop (List.mem_of_mem_take hx))
  have h1 := num_lt hdb
  have h2 : 2 ^ (8 * ((ds.drop k).take 2).length) ≤ 2 ^ 16 := Nat.pow_le_pow_right (by decide) (by rw [List.length_take]; omega)
  have h3 : (2 : Nat) ^ 16 = 65536 := by decide
  omega

theorem zeros_list (n k : Nat) : (u8s (List.replicate n 0 ++ List.replicate k 0)).toArray = Builtin.zeroCells #[.int .u8 0] n ++ Builtin.zeroCells #[.int .u8 0] k := by
  have h : ∀ n, Builtin.zeroCells #[.int .u8 0] n = (List.replicate n (.int .u8 0)).toArray := fun n => by
    apply Array.ext'
    apply List.ext_getElem?
    intro i
    by_cases hi : i < n
    · simp [Builtin.zeroCells, hi, Nat.mod_one]
    · simp [Builtin.zeroCells, hi]
  rw [h, h]
  simp [u8s]

/-- A part of the text that is under way: i of k bytes. -/
def seg (t : List Nat) (k i : Nat) : List Nat := t.take i ++ List.replicate (k - i) 0
theorem seg_length {t : List Nat} {k i : Nat} (h : t.length = k) (hi : i ≤ k) : (seg t k i).length = k := by
  rw [seg, List.length_append, List.length_take, List.length_replicate]; omega
theorem seg_zero (t : List Nat) (k : Nat) : seg t k 0 = List.replicate k 0 := by simp [seg]
theorem seg_full {t : List Nat} {k : Nat} (h : t.length = k) : seg t k k = t := by
  rw [seg, Nat.sub_self, List.replicate_zero, List.append_nil, List.take_of_length_le (by omega)]
theorem seg_set {t : List Nat} {k i x : Nat} (h : t.length = k) (hx : t[i]? = some x) : (seg t k i).set i x = seg t k (i + 1) := by
  have hi := (List.getElem?_eq_some_iff.1 hx).1
  have hl : (t.take i).length = i := by rw [List.length_take]; omega
  rw [seg, seg, List.set_append_right _ _ (by omega), hl, Nat.sub_self, show k - i = (k - (i + 1)) + 1 by omega, List.replicate_succ, List.set_cons_zero, take_push hx, List.append_assoc]
  rfl
def quad (a b c d : List Nat) : List Nat := a ++ (b ++ (c ++ d))
theorem quad_zero {t1 t2 t3 t4 : List Nat} {n e n4 : Nat} (h : n = 3 * e + n4) (pad : List Nat) : List.replicate n 0 ++ pad = quad (seg t1 e 0) (seg t2 e 0) (seg t3 e 0) (seg t4 n4 (min 0 n4) ++ pad) := by
  rw [Nat.zero_min, seg_zero, seg_zero, seg_zero, seg_zero, quad, show n = e + (e + (e + n4)) by omega, ← List.replicate_append_replicate, ← List.replicate_append_replicate, ← List.replicate_append_replicate]
  simp only [List.append_assoc]
theorem quad_set1 {a b c d : List Nat} {i x : Nat} (h : i < a.length) : (quad a b c d).set i x = quad (a.set i x) b c d := by
  rw [quad, quad, List.set_append_left _ _ h]
theorem quad_set2 {a b c d : List Nat} {e i x : Nat} (ha : a.length = e) (h : i < b.length) : (quad a b c d).set (e + i) x = quad a (b.set i x) c d := by
  rw [quad, quad, List.set_append_right _ _ (by omega), ha, Nat.add_sub_cancel_left, List.set_append_left _ _ h]
theorem quad_set3 {a b c d : List Nat} {e e2 i x : Nat} (ha : a.length = e) (hb : b.length = e) (h2 : e2 = 2 * e) (h : i < c.length) : (quad a b c d).set (e2 + i) x = quad a b (c.set i x) d := by
  rw [quad, quad, List.set_append_right _ _ (by omega), ha, List.set_append_right _ _ (by omega), hb, show e2 + i - e - e = i by omega, List.set_append_left _ _ h]
theorem quad_set4 {a b c d r : List Nat} {e e3 i x : Nat} (ha : a.length = e) (hb : b.length = e) (hc : c.length = e) (h3 : e3 = 3 * e) (h : i < d.length) : (quad a b c (d ++ r)).set (e3 + i) x = quad a b c (d.set i x ++ r) := by
  rw [quad, quad, List.set_append_right _ _ (by omega), ha, List.set_append_right _ _ (by omega), hb, List.set_append_right _ _ (by omega), hc, show e3 + i - e - e - e = i by omega, List.set_append_left _ _ h]

/-- A block whose first cells are a row. -/
theorem own_blk {w : World} {g n cap base : Nat} {t : TypeId} {xs ys : List Value} (hb : Blk w g t (xs ++ ys)) (hn : xs.length = n) (hc : n + ys.length = cap) (hm : cap ≤ maxLen) (hbase : base ≤ g) : w.ownsRow base t 1 (.slice (some ⟨g, 0, none⟩) n cap) n xs := by
  refine ⟨by omega, .inr ⟨g, cap, (xs ++ ys).toArray, rfl, hbase, hb, by omega, hm, by simp; omega, ?_⟩⟩
  rw [Nat.mul_one, ← hn]
  simp

set_option maxHeartbeats 8000000 in
set_option maxRecDepth 100000 in
theorem fourStreams_right {R : Nat → Prop} (rb tb : Nat) (A : Option Addr) (c : Nat) (ds : List Nat) (rc : List Value) (o s n m : Nat) (rs : List (Nat × Nat)) (t : List Nat) (w : World) (hs : Sl w R A (u8s ds)) (hRw : ∀ k, R k → k < w.heap.size)
    (ht : TabAt w rb tb rc m rs) (hd : Bytes ds) (hlen : ds.length < 2 ^ 24) (hc : ds.length ≤ c) (ho : 2 ≤ o) (hos : o + s ≤ ds.length) (h6 : 6 ≤ s) (hn : n ≤ 131072) (h : FourR ds m rs o s n t) :
    Calls Tryd.prog 116 #[.pointer (some ⟨rb, 0, none⟩), .slice A ds.length c, .int .i64 o, .int .i64 s, .int .i64 n, .slice none 0 0] w (OnePost w t n) := by
  obtain ⟨hn6, s1, s2, s3, s4, e, n4, t1, t2, t3, t4, hs1, hs2, hs3, hss, hec, hnn, hn40, hP1, hP2, hP3, hP4, htt⟩ := h
  obtain ⟨g, o0, hRg, hA, _⟩ := hs.get (by simp; omega)
  subst hA
  obtain ⟨N, hN⟩ : ∃ N, N = ds.length := ⟨_, rfl⟩
  have hl1 := fun w' hk => le16_at (c := c) N hN hs hd o (by omega) w' hk
  have hl2 := fun w' hk => le16_at (c := c) N hN hs hd (o + 2) (by omega) w' hk
  have hl3 := fun w' hk => le16_at (c := c) N hN hs hd (o + 4) (by omega) w' hk
  have hs1b := num_two_lt hd o
  have hs2b := num_two_lt hd (o + 2)
  have hs3b := num_two_lt hd (o + 4)
  rw [← hs1] at hl1 hs1b
  rw [← hs2] at hl2 hs2b
  rw [← hs3] at hl3 hs3b
  have heci : ((n : Int) + 3) / 4 = (e : Int) := by omega
  have hco : ¬ c = o := by omega
  have hco2 : ¬ c = o + 2 := by omega
  have hco4 : ¬ c = o + 4 := by omega
  have Heci := Lib.hid heci
  have Hec := Lib.hid hec
  have hn3 : e * 3 ≤ n := by omega
  have hhn := Lib.hid hnn
  have Hl1 := Lib.hid hl1
  have Hl2 := Lib.hid hl2
  have Hl3 := Lib.hid hl3
  have Hs := Lib.hid hs
  have HRw := Lib.hid hRw
  have Hd := Lib.hid hd
  have Ht := Lib.hid ht
  have HP1 := Lib.hid hP1
  have HP2 := Lib.hid hP2
  have HP3 := Lib.hid hP3
  have HP4 := Lib.hid hP4
  have Htt := Lib.hid htt
  rw [← hN] at hlen hc hos ⊢
  have HN := Lib.hid hN
  have hs4 : s4 ≤ s := by omega
  have hsub : s = 6 + s1 + s2 + s3 + s4 := hss
  have Hss := Lib.hid hss
  clear heci hnn hl1 hl2 hl3 hs hRw hd ht hP1 hP2 hP3 hP4 htt hN hs1 hs2 hs3 hec hss hsub
  go_enter Tryd.func116, Tryd.ntmps116
  go_upto_region 6 with (fail)
  rw [Heci.out]
  go_upto_region 11 with (first
    | (go_at_call 117; (with_reducible refine (Hl1.out _ (Keep.refl _ _)).mono ?_); rintro e1 w1 ⟨rfl, hk1⟩)
    | (go_at_call 117; (with_reducible refine (Hl2.out _ hk1).mono ?_); rintro e1 w2 ⟨rfl, hk2⟩; have hk2' := hk1.trans hk2)
    | (go_at_call 117; (with_reducible refine (Hl3.out _ hk2').mono ?_); rintro e1 w3 ⟨rfl, hk3⟩; have hk3' := hk2'.trans hk3))
  have hsi : (s : Int) = 6 + (s1 : Int) + (s2 : Int) + (s3 : Int) + (s4 : Int) := by have := Hss.out; omega
  have Hsi := Lib.hid hsi
  have hle : (s1 : Int) + (s2 : Int) + (s3 : Int) ≤ (s : Int) - 6 := by omega
  clear hsi
  go_upto_region 25 with (fail)
  obtain ⟨oh1, hoh1⟩ : ∃ x, x = o + 6 + s1 - 1 := ⟨_, rfl⟩
  obtain ⟨oh2, hoh2⟩ : ∃ x, x = o + 6 + s1 + s2 - 1 := ⟨_, rfl⟩
  obtain ⟨oh3, hoh3⟩ : ∃ x, x = o + 6 + s1 + s2 + s3 - 1 := ⟨_, rfl⟩
  obtain ⟨oh4, hoh4⟩ : ∃ x, x = o + 6 + s1 + s2 + s3 + s4 - 1 := ⟨_, rfl⟩
  rw [show (o : Int) + 6 - 1 + (s1 : Int) + (s2 : Int) + (s3 : Int) + ((s : Int) - 6 - ((s1 : Int) + (s2 : Int) + (s3 : Int))) = (oh4 : Int) by have := Hsi.out; omega,
    show (o : Int) + 6 - 1 + (s1 : Int) + (s2 : Int) + (s3 : Int) = (oh3 : Int) by omega, show (o : Int) + 6 - 1 + (s1 : Int) + (s2 : Int) = (oh2 : Int) by omega, show (o : Int) + 6 - 1 + (s1 : Int) = (oh1 : Int) by omega]
  obtain ⟨a1, x1, k1, hx1, hlo1, hhi1, hk71, hd1⟩ := HP1.out
  obtain ⟨a2, x2, k2, hx2, hlo2, hhi2, hk72, hd2⟩ := HP2.out
  obtain ⟨a3, x3, k3, hx3, hlo3, hhi3, hk73, hd3⟩ := HP3.out
  obtain ⟨a4, x4, k4, hx4, hlo4, hhi4, hk74, hd4⟩ := HP4.out
  rw [← hoh1] at hx1 hd1
  rw [← hoh2] at hx2 hd2
  rw [← hoh3] at hx3 hd3
  rw [← hoh4] at hx4 hd4
  obtain ⟨st1, hst1⟩ : ∃ x, x = o + 4 := ⟨_, rfl⟩
  obtain ⟨st2, hst2⟩ : ∃ x, x = o + 4 + s1 := ⟨_, rfl⟩
  obtain ⟨st3, hst3⟩ : ∃ x, x = o + 4 + s1 + s2 := ⟨_, rfl⟩
  obtain ⟨st4, hst4⟩ : ∃ x, x = o + 4 + s1 + s2 + s3 := ⟨_, rfl⟩
  rw [← hst1] at hd1
  rw [← hst2] at hd2
  rw [← hst3] at hd3
  rw [← hst4] at hd4
  obtain ⟨p1, hp1⟩ : ∃ x, x = 8 * oh1 + k1 := ⟨_, rfl⟩
  obtain ⟨p2, hp2⟩ : ∃ x, x = 8 * oh2 + k2 := ⟨_, rfl⟩
  obtain ⟨p3, hp3⟩ : ∃ x, x = 8 * oh3 + k3 := ⟨_, rfl⟩
  obtain ⟨p4, hp4⟩ : ∃ x, x = 8 * oh4 + k4 := ⟨_, rfl⟩
  rw [← hp1] at hd1
  rw [← hp2] at hd2
  rw [← hp3] at hd3
  rw [← hp4] at hd4
  have hi1 : (o : Int) + 6 - 2 = (st1 : Int) := by omega
  have hi2 : (oh1 : Int) + 1 - 2 = (st2 : Int) := by omega
  have hi3 : (oh2 : Int) + 1 - 2 = (st3 : Int) := by omega
  have hi4 : (oh3 : Int) + 1 - 2 = (st4 : Int) := by omega
  have hmk : ∀ (oh st k x p : Nat), ds[oh]? = some x → 2 ^ k ≤ x → x < 2 ^ (k + 1) → st ≤ oh → p = 8 * oh + k → ∀ w', Kept w w' → Calls Tryd.prog 72 #[.pointer (some ⟨rb, 0, none⟩), .slice (some ⟨g, o0, none⟩) N c, .int .i64 (oh : Int), .int .i64 (st : Int)] w' fun e w'' =>
      e = .returned (.tuple #[.agg #[.pointer (some ⟨rb, 0, none⟩), .slice (some ⟨g, o0, none⟩) N c, .int .u32 (oh : Int), .int .u32 (st : Int), .int .u32 (x : Int), .int .u32 (k : Int)], .nilIface]) ∧ RevAt ds st p oh x k ∧ Kept w' w'' := by
    intro oh st k x p hx h1 h2 h3 hp w' hk
    have := makeRev_ok rb (some ⟨g, o0, none⟩) c ds oh st k x w' (Hs.out.kept hk) Hd.out (by rw [← HN.out]; omega) hx h1 h2 h3
    rw [← HN.out, ← hp] at this
    exact this
  have hm1 := hmk oh1 st1 k1 x1 p1 hx1 hlo1 hhi1 (by omega) hp1
  have hm2 := hmk oh2 st2 k2 x2 p2 hx2 hlo2 hhi2 (by omega) hp2
  have hm3 := hmk oh3 st3 k3 x3 p3 hx3 hlo3 hhi3 (by omega) hp3
  have hm4 := hmk oh4 st4 k4 x4 p4 hx4 hlo4 hhi4 (by omega) hp4
  have hb1 : st1 ≤ 16777216 := by omega
  have hb2 : st2 ≤ 16777216 := by omega
  have hb3 : st3 ≤ 16777216 := by omega
  have hb4 : st4 ≤ 16777216 := by omega
  have hh1 : oh1 ≤ 16777216 := by omega
  have hh2 : oh2 ≤ 16777216 := by omega
  have hh3 : oh3 ≤ 16777216 := by omega
  have hh4 : oh4 ≤ 16777216 := by have := Hss.out; omega
  have Hm1 := Lib.hid hm1
  have Hm2 := Lib.hid hm2
  have Hm3 := Lib.hid hm3
  have Hm4 := Lib.hid hm4
  have Hd1 := Lib.hid hd1
  have Hd2 := Lib.hid hd2
  have Hd3 := Lib.hid hd3
  have Hd4 := Lib.hid hd4
  clear hmk hm1 hm2 hm3 hm4 hd1 hd2 hd3 hd4 hx1 hx2 hx3 hx4 hlo1 hlo2 hlo3 hlo4 hhi1 hhi2 hhi3 hhi4 hoh1 hoh2 hoh3 hoh4 hst1 hst2 hst3 hst4 hp1 hp2 hp3 hp4 HP1 HP2 HP3 HP4 Hl1 Hl2 Hl3 hk1 hk2 hk3 hk2'
  go_upto_region 37 with (first
    | (go_at_call 72; (with_reducible refine (Hm1.out _ hk3').mono ?_); rintro e1 w4 ⟨rfl, hra1, hk4⟩; have hq4 := (hk3'.trans hk4).alloc (.cells #[.pointer (some ⟨rb, 0, none⟩), .slice (some ⟨g, o0, none⟩) N c, .int .u32 (oh1 : Int), .int .u32 (st1 : Int), .int .u32 (x1 : Int), .int .u32 (k1 : Int)] 167))
    | (go_at_call 72; (with_reducible refine (Hm2.out _ hq4).mono ?_); rintro e1 w5 ⟨rfl, hra2, hk5⟩; have hq5 := (hq4.trans hk5).alloc (.cells #[.pointer (some ⟨rb, 0, none⟩), .slice (some ⟨g, o0, none⟩) N c, .int .u32 (oh2 : Int), .int .u32 (st2 : Int), .int .u32 (x2 : Int), .int .u32 (k2 : Int)] 167))
    | (go_at_call 72; (with_reducible refine (Hm3.out _ hq5).mono ?_); rintro e1 w6 ⟨rfl, hra3, hk6⟩; have hq6 := (hq5.trans hk6).alloc (.cells #[.pointer (some ⟨rb, 0, none⟩), .slice (some ⟨g, o0, none⟩) N c, .int .u32 (oh3 : Int), .int .u32 (st3 : Int), .int .u32 (x3 : Int), .int .u32 (k3 : Int)] 167))
    | (go_at_call 72; (with_reducible refine (Hm4.out _ hq6).mono ?_); rintro e1 w7 ⟨rfl, hra4, hk7⟩; have hq7 := (hq6.trans hk7).alloc (.cells #[.pointer (some ⟨rb, 0, none⟩), .slice (some ⟨g, o0, none⟩) N c, .int .u32 (oh4 : Int), .int .u32 (st4 : Int), .int .u32 (x4 : Int), .int .u32 (k4 : Int)] 167)))
  obtain ⟨b1, hb1e⟩ : ∃ x, x = w4.heap.size := ⟨_, rfl⟩
  obtain ⟨b2, hb2e⟩ : ∃ x, x = w5.heap.size := ⟨_, rfl⟩
  obtain ⟨b3, hb3e⟩ : ∃ x, x = w6.heap.size := ⟨_, rfl⟩
  obtain ⟨b4, hb4e⟩ : ∃ x, x = w7.heap.size := ⟨_, rfl⟩
  have hv1 : Rev (w4.alloc (.cells #[.pointer (some ⟨rb, 0, none⟩), .slice (some ⟨g, o0, none⟩) N c, .int .u32 (oh1 : Int), .int .u32 (st1 : Int), .int .u32 (x1 : Int), .int .u32 (k1 : Int)] 167)) b1 rb (some ⟨g, o0, none⟩) c ds st1 p1 := ⟨oh1, x1, k1, by rw [hb1e, ← HN.out]; exact Blk.new w4 167 _, hra1⟩
  have hv2 : Rev (w5.alloc (.cells #[.pointer (some ⟨rb, 0, none⟩), .slice (some ⟨g, o0, none⟩) N c, .int .u32 (oh2 : Int), .int .u32 (st2 : Int), .int .u32 (x2 : Int), .int .u32 (k2 : Int)] 167)) b2 rb (some ⟨g, o0, none⟩) c ds st2 p2 := ⟨oh2, x2, k2, by rw [hb2e, ← HN.out]; exact Blk.new w5 167 _, hra2⟩
  have hv3 : Rev (w6.alloc (.cells #[.pointer (some ⟨rb, 0, none⟩), .slice (some ⟨g, o0, none⟩) N c, .int .u32 (oh3 : Int), .int .u32 (st3 : Int), .int .u32 (x3 : Int), .int .u32 (k3 : Int)] 167)) b3 rb (some ⟨g, o0, none⟩) c ds st3 p3 := ⟨oh3, x3, k3, by rw [hb3e, ← HN.out]; exact Blk.new w6 167 _, hra3⟩
  obtain ⟨W7, hW7⟩ : ∃ x, x = w7.alloc (.cells #[.pointer (some ⟨rb, 0, none⟩), .slice (some ⟨g, o0, none⟩) N c, .int .u32 (oh4 : Int), .int .u32 (st4 : Int), .int .u32 (x4 : Int), .int .u32 (k4 : Int)] 167) := ⟨_, rfl⟩
  have hv4 : Rev W7 b4 rb (some ⟨g, o0, none⟩) c ds st4 p4 := ⟨oh4, x4, k4, by rw [hb4e, ← HN.out, hW7]; exact Blk.new w7 167 _, hra4⟩
  have hv3' : Rev W7 b3 rb (some ⟨g, o0, none⟩) c ds st3 p3 := by rw [hW7]; exact (hv3.kept hk7).kept ((Keep.refl _ _).alloc _)
  have hv2' : Rev W7 b2 rb (some ⟨g, o0, none⟩) c ds st2 p2 := by rw [hW7]; exact (((hv2.kept hk6).kept ((Keep.refl _ _).alloc _)).kept hk7).kept ((Keep.refl _ _).alloc _)
  have hv1' : Rev W7 b1 rb (some ⟨g, o0, none⟩) c ds st1 p1 := by rw [hW7]; exact (((((hv1.kept hk5).kept ((Keep.refl _ _).alloc _)).kept hk6).kept ((Keep.refl _ _).alloc _)).kept hk7).kept ((Keep.refl _ _).alloc _)
  have hz4 : w.heap.size ≤ b1 := by rw [hb1e]; exact (hk3'.trans hk4).size
  have hz5 : b1 < b2 := by have := hk5.size; simp at this; omega
  have hz6 : b2 < b3 := by have := hk6.size; simp at this; omega
  have hz7 : b3 < b4 := by have := hk7.size; simp at this; omega
  have hz8 : W7.heap.size = b4 + 1 := by rw [hW7, hb4e]; simp
  have hq : Kept w W7 := by rw [hW7]; exact hq7
  rw [← hb1e, ← hb2e, ← hb3e, ← hb4e, ← hW7]
  have Hv1 := Lib.hid hv1'
  have Hv2 := Lib.hid hv2'
  have Hv3 := Lib.hid hv3'
  have Hv4 := Lib.hid hv4
  clear hv1 hv2 hv3 hv4 hv1' hv2' hv3' hb1e hb2e hb3e hb4e hW7 hq7 hq6 hq5 hq4 hk3' hk4 hk5 hk6 hk7 Hm1 Hm2 Hm3 Hm4 hra1 hra2 hra3 hra4 hi1 hi2 hi3 hi4
  obtain ⟨bi, hbi, hbr⟩ := Option.map_eq_some_iff.1 elByte.row
  simp only [Prod.mk.injEq] at hbr
  obtain ⟨hbz, hbs, hbb⟩ := hbr
  have hrun := fun ty => Lib.run_append_nil_zeros W7 22 3 ty 5 bi (.int .u8 0) .i64 .i64 Tryd.underlying22 Tryd.underlying3 hbi hbz n (by omega) (by omega) (by omega) (by rw [hbb]; omega)
  obtain ⟨cap, hcap⟩ : ∃ x, x = grownCap W7 n 0 5 := ⟨_, rfl⟩
  have hcn : n ≤ cap := by rw [hcap]; exact grownCap_ge W7 n 0 5
  have hcm : cap ≤ maxLen := by rw [hcap]; exact grownCap_le_maxLen W7 n 0 5 (by unfold maxLen; omega)
  rw [← hcap] at hrun
  have hz8b : b4 < W7.heap.size := by omega
  clear hcap hbi hbz hbs hbb hz8
  go_upto_region 43 with (at_builtin; refine Lib.wpList_append_run _ rfl _ _ _ _ rfl _ _ rfl rfl _ _ (hrun _) ?_)
  obtain ⟨e2, he2⟩ : ∃ x, x = 2 * e := ⟨_, rfl⟩
  obtain ⟨e3, he3⟩ : ∃ x, x = 3 * e := ⟨_, rfl⟩
  have He2 := Lib.hid he2
  have He3 := Lib.hid he3
  rw [show (n : Int) - (e : Int) * 3 = (n4 : Int) by have := hhn.out; omega, show (e : Int) + (e : Int) + (e : Int) = (e3 : Int) by omega, show (e : Int) + (e : Int) = (e2 : Int) by omega]
  obtain ⟨gb, hgb⟩ : ∃ x, x = W7.heap.size := ⟨_, rfl⟩
  obtain ⟨W8, hW8⟩ : ∃ x, x = (W7.alloc (.cells (Builtin.zeroCells #[.int .u8 0] n ++ Builtin.zeroCells #[.int .u8 0] (cap - n)) 5)).drew := ⟨_, rfl⟩
  have hg8 : Blk W8 gb 5 (u8s (List.replicate n 0 ++ List.replicate (cap - n) 0)) := by
    rw [hW8, hgb]
    have := Blk.new W7 5 (u8s (List.replicate n 0 ++ List.replicate (cap - n) 0))
    rw [zeros_list] at this
    exact this.drew
  have hk8 : Kept W7 W8 := by rw [hW8]; exact ((Keep.refl _ _).alloc _).drew
  have hkw8 := hq.trans hk8
  have hgw8 : gb < W8.heap.size := hg8.lt
  have hbg : b4 < gb := by omega
  have f12 : W8.cell? ⟨rb, 12, none⟩ = some (.slice (some ⟨tb, 0, none⟩) 2048 2048) := hkw8.cell (by rw [Ht.out.rd.cell]; exact Ht.out.slice) (fun h => h)
  have f13 : W8.cell? ⟨rb, 13, none⟩ = some (.int .i64 (m : Int)) := hkw8.cell (by rw [Ht.out.rd.cell]; exact Ht.out.log) (fun h => h)
  have hm1 := Ht.out.one
  have hm11 := Ht.out.top
  have hrb8 : rb < W8.heap.size := by have := Ht.out.rd.lt; have := hkw8.size; omega
  have htb8 : tb < w.heap.size := by obtain ⟨tl, h⟩ := Ht.out.tab; exact h.lt
  have hrbw : rb < w.heap.size := Ht.out.rd.lt
  rw [← hgb, ← hW8]
  have Hg8 := Lib.hid hg8
  clear hg8 hgb hW8 hrun he2 he3
  go_upto_region 46 with (fail)
  rw [(mask_of hm11 (rfl : 2 ^ m - 1 = 2 ^ m - 1)).1]
  try rw [(mask_of hm11 (rfl : 2 ^ m - 1 = 2 ^ m - 1)).2]
  obtain ⟨M, hM⟩ : ∃ M, M = 2 ^ m - 1 := ⟨_, rfl⟩
  rw [← hM]
  obtain ⟨c3, hc3⟩ : ∃ x, x = W8.heap.size := ⟨_, rfl⟩
  obtain ⟨c1, hc1⟩ : ∃ x, x = c3 + 1 := ⟨_, rfl⟩
  obtain ⟨c2, hc2⟩ : ∃ x, x = c1 + 1 := ⟨_, rfl⟩
  obtain ⟨W9, hW9⟩ : ∃ x, x = ((W8.alloc (.cells #[.slice (some ⟨tb, 0, none⟩) 2048 2048] 144)).alloc (.cells #[.int .u32 (m : Int)] 91)).alloc (.cells #[.int .u32 (M : Int)] 91) := ⟨_, rfl⟩
  have hk9 : Kept W8 W9 := by rw [hW9]; exact (((Keep.refl _ _).alloc _).alloc _).alloc _
  have hC3 : W9.cell? ⟨c3, 0, none⟩ = some (.slice (some ⟨tb, 0, none⟩) 2048 2048) := by
    rw [hW9, hc3]
    exact ((Keep.refl _ (W8.alloc _)).alloc _ |>.alloc _ : Kept _ _).cell ((Blk.new W8 144 [.slice (some ⟨tb, 0, none⟩) 2048 2048]).cell 0) (fun h => h)
  have hC1 : W9.cell? ⟨c1, 0, none⟩ = some (.int .u32 (m : Int)) := by
    have hs : (W8.alloc (.cells #[.slice (some ⟨tb, 0, none⟩) 2048 2048] 144)).heap.size = c1 := by rw [hc1, hc3]; simp
    have hb := Blk.new (W8.alloc (.cells #[.slice (some ⟨tb, 0, none⟩) 2048 2048] 144)) 91 [.int .u32 (m : Int)]
    rw [hs] at hb
    rw [hW9]
    exact ((Keep.refl _ _).alloc _ : Kept _ _).cell (hb.cell 0) (fun h => h)
  have hC2 : W9.cell? ⟨c2, 0, none⟩ = some (.int .u32 (M : Int)) := by
    have hs : ((W8.alloc (.cells #[.slice (some ⟨tb, 0, none⟩) 2048 2048] 144)).alloc (.cells #[.int .u32 (m : Int)] 91)).heap.size = c2 := by rw [hc2, hc1, hc3]; simp
    have hb := Blk.new ((W8.alloc (.cells #[.slice (some ⟨tb, 0, none⟩) 2048 2048] 144)).alloc (.cells #[.int .u32 (m : Int)] 91)) 91 [.int .u32 (M : Int)]
    rw [hs] at hb
    rw [hW9]
    exact hb.cell 0
  rw [← hc3, ← hc1, ← hc2, ← hW9]
  have hkq9 := hk8.trans hk9
  have hv1 := Hv1.out.kept hkq9
  have hv2 := Hv2.out.kept hkq9
  have hv3 := Hv3.out.kept hkq9
  have hv4 := Hv4.out.kept hkq9
  have hg9 := Hg8.out.kept hk9
  have hkw9 := hkw8.trans hk9
  have hgc : gb < c3 := by omega
  obtain ⟨S, hS⟩ : ∃ S : Nat → Prop, S = fun j => j = b1 ∨ j = b2 ∨ j = b3 ∨ j = b4 ∨ j = gb := ⟨_, rfl⟩
  have hS1 : ∀ j, S j → w.heap.size ≤ j ∧ j < c3 := fun j h => by rw [hS] at h; omega
  have hSi : S b1 ∧ S b2 ∧ S b3 ∧ S b4 ∧ S gb := by rw [hS]; simp
  have hRS : ∀ j, R j → ¬ S j := fun j h1 h2 => by have := HRw.out j h1; have := (hS1 j h2).1; omega
  have hfet : ∀ wr bk stk pk kik syk btk enk, Keep S W9 wr → S bk → bk ≠ gb → Rev wr bk rb (some ⟨g, o0, none⟩) c ds stk pk → 8 * stk + m ≤ pk → kik = num ds / 2 ^ (pk - m) % 2 ^ m → rs[kik]? = some (syk, btk) → enk = syk * 256 + btk →
      Calls Tryd.prog 118 #[.pointer (some ⟨bk, 0, none⟩), .pointer (some ⟨c1, 0, none⟩), .pointer (some ⟨c2, 0, none⟩), .pointer (some ⟨c3, 0, none⟩)] wr fun e w' => e = .returned (.tuple #[.int .u16 (enk : Int), .nilIface]) ∧
        (∃ off bits q, Blk w' bk 167 (rbCells rb (some ⟨g, o0, none⟩) c ds.length stk off bits (q + m)) ∧ RevAt ds stk pk off bits (q + m)) ∧ Keep (· = bk) wr w' := by
    intro wr bk stk pk kik syk btk enk hk hSb _ hr hgo hki hx hen
    have hbS := hS1 bk hSb
    have nS : ∀ j, c3 ≤ j → ¬ S j := fun j h h2 => by have := (hS1 j h2).2; omega
    have nW : ∀ j, j < w.heap.size → ¬ S j := fun j h h2 => by have := (hS1 j h2).1; omega
    exact fetchHuff_ok rb tb bk c1 c2 c3 (some ⟨g, o0, none⟩) c ds rc stk pk m M rs wr hr ((Ht.out.keep hkw9 (fun h => h) (fun h => h)).keep hk (nW _ hrbw) (nW _ htb8)) ((Hs.out.kept hkw9).keep hk (fun j _ h => hRS j h)) (fun h => hRS bk h hSb) Hd.out (by rw [← HN.out]; exact hlen)
      (hk.cell hC1 (nS c1 (by omega))) (hk.cell hC2 (nS c2 (by omega))) (hk.cell hC3 (nS c3 (Nat.le_refl _))) hM (by omega) (by omega) (by omega) (by omega) hgo kik syk btk enk hki hx hen
  have hrow := Ht.out.row
  have hrl := Ht.out.len
  have hnext : ∀ (st p f i T : Nat) (tt : List Nat), tt.length = T → i < T → f = T - (i + 1) → decI (num ds) m (8 * st) rs (T - i) p (tt.take i) = some tt → ∃ ki sy bt en, 8 * st + m ≤ p ∧ ki = num ds / 2 ^ (p - m) % 2 ^ m ∧ rs[ki]? = some (sy, bt) ∧ en = sy * 256 + bt ∧ sy < 256 ∧ bt ≤ m ∧
      decI (num ds) m (8 * st) rs f (p - bt) (tt.take (i + 1)) = some tt ∧ tt[i]? = some sy := by
    intro st p f i T tt hT hi hf hd
    rw [show T - i = f + 1 by omega] at hd
    obtain ⟨h1, h2, h3⟩ := decI_next hd
    obtain ⟨ki, hki⟩ : ∃ x, x = num ds / 2 ^ (p - m) % 2 ^ m := ⟨_, rfl⟩
    have hkl : ki < rs.length := by rw [hki, hrl]; exact Nat.mod_lt _ (pow_pos' _)
    obtain ⟨⟨sy, bt⟩, hx⟩ : ∃ x, rs[ki]? = some x := ⟨_, List.getElem?_eq_getElem hkl⟩
    have hgd : rs.getD ki (0, 0) = (sy, bt) := by rw [List.getD_eq_getElem?_getD, hx]; rfl
    have hr := hrow _ (List.mem_of_getElem? hx)
    rw [← hki, hgd] at h2 h3
    simp only at h2 h3 hr
    rw [List.length_take, Nat.min_eq_left (by omega)] at h3
    rw [← take_push h3] at h2
    exact ⟨ki, sy, bt, sy * 256 + bt, h1, hki, hx, rfl, hr.1, hr.2, h2, h3⟩
  have hT1 : t1.length = e := by have := decI_len Hd1.out; simpa using this
  have hT2 : t2.length = e := by have := decI_len Hd2.out; simpa using this
  have hT3 : t3.length = e := by have := decI_len Hd3.out; simpa using this
  have hT4 : t4.length = n4 := by have := decI_len Hd4.out; simpa using this
  have hle4 : n4 ≤ e := by have := hhn.out; have := Hec.out; omega
  obtain ⟨pad, hpad⟩ : ∃ x, x = List.replicate (cap - n) 0 := ⟨_, rfl⟩
  have hinit : List.replicate n 0 ++ List.replicate (cap - n) 0 = quad (seg t1 e 0) (seg t2 e 0) (seg t3 e 0) (seg t4 n4 (min 0 n4) ++ pad) := by
    rw [← hpad]
    exact quad_zero hhn.out pad
  rw [hinit] at hg9
  have hpl : pad.length = cap - n := by rw [hpad, List.length_replicate]
  have Hpl := Lib.hid hpl
  have Hfet := Lib.hid hfet
  have Hnext := Lib.hid hnext
  have HT1 := Lib.hid hT1
  have HT2 := Lib.hid hT2
  have HT3 := Lib.hid hT3
  have HT4 := Lib.hid hT4
  have HS := Lib.hid hS
  have HS1 := Lib.hid hS1
  have he2 := He2.out
  have he3 := He3.out
  have hen3 : e3 + n4 ≤ n := by have := hhn.out; omega
  have he2n : e2 + e ≤ n := by omega
  have hcap17 : cap ≤ maxLen := hcm
  clear hpl hcap17
  clear ho h6 hn6 hos hc hlen hs1b hs2b hs3b hco hco2 hco4 hn3 hs4 hle a1 a2 a3 a4 hk71 hk72 hk73 hk74 hb1 hb2 hb3 hb4 hh1 hh2 hh3 hh4
  clear hfet hnext hT1 hT2 hT3 hT4 hS hS1 hM hW9 hc3 hc1 hc2 hinit hrow hrl hk9 hkq9 hC1 hC2 hC3 hRS he2 he3 Hv1 Hv2 Hv3 Hv4 Hg8 f12 f13 hk8 hpad
  go_wp2
  go_loopg [33, 34, 35, 36, 41] (e + 1) (fun f s33 s34 s35 s36 s41 wr => ∃ i q1 q2 q3 q4 : Nat, e - i < f ∧ i ≤ e ∧ s33 = .int .i64 i ∧ s34 = .int .i64 ((e + i : Nat) : Int) ∧ s35 = .int .i64 ((e2 + i : Nat) : Int) ∧ s36 = .int .i64 ((e3 + min i n4 : Nat) : Int) ∧ s41 = .int .i64 i ∧
    Rev wr b1 rb (some ⟨g, o0, none⟩) c ds st1 q1 ∧ Rev wr b2 rb (some ⟨g, o0, none⟩) c ds st2 q2 ∧ Rev wr b3 rb (some ⟨g, o0, none⟩) c ds st3 q3 ∧ Rev wr b4 rb (some ⟨g, o0, none⟩) c ds st4 q4 ∧ Blk wr gb 5 (u8s (quad (seg t1 e i) (seg t2 e i) (seg t3 e i) (seg t4 n4 (min i n4) ++ pad))) ∧
    Hid (decI (num ds) m (8 * st1) rs (e - i) q1 (t1.take i) = some t1) ∧ Hid (decI (num ds) m (8 * st2) rs (e - i) q2 (t2.take i) = some t2) ∧ Hid (decI (num ds) m (8 * st3) rs (e - i) q3 (t3.take i) = some t3) ∧ Hid (decI (num ds) m (8 * st4) rs (n4 - min i n4) q4 (t4.take (min i n4)) = some t4) ∧ Keep S W9 wr)
  case atStart => exact ⟨0, p1, p2, p3, p4, by omega, by omega, rfl, rfl, rfl, (by simp), rfl, hv1, hv2, hv3, hv4, hg9, Hd1.out, Hd2.out, Hd3.out, (by show _ = _; have := Hd4.out; simpa using this), Keep.refl _ _⟩
  case round =>
    clear hv1 hv2 hv3 hv4 hg9
    obtain ⟨i, q1, q2, q3, q4, z1, z2, rfl, rfl, rfl, rfl, rfl, r1, r2, r3, r4, qg, d1, d2, d3, d4, qk⟩ := hrel
    obtain ⟨S1, S2, S3, S4, S5⟩ := hSi
    by_cases hlt : i < e
    · obtain ⟨ki1, sy1, bt1, en1, h81, hki1, hx1, hen1, hs1, hbt1, hd1, hy1⟩ := Hnext.out st1 q1 (e - (i + 1)) i e t1 HT1.out hlt rfl d1.out
      obtain ⟨ki2, sy2, bt2, en2, h82, hki2, hx2, hen2, hs2, hbt2, hd2, hy2⟩ := Hnext.out st2 q2 (e - (i + 1)) i e t2 HT2.out hlt rfl d2.out
      obtain ⟨ki3, sy3, bt3, en3, h83, hki3, hx3, hen3', hs3, hbt3, hd3, hy3⟩ := Hnext.out st3 q3 (e - (i + 1)) i e t3 HT3.out hlt rfl d3.out
      by_cases h4 : i < n4
      · have hmin : min i n4 = i := by omega
        rw [hmin] at d4 qg ⊢
        obtain ⟨ki4, sy4, bt4, en4, h84, hki4, hx4, hen4, hs4', hbt4, hd4, hy4⟩ := Hnext.out st4 q4 (n4 - (i + 1)) i n4 t4 HT4.out h4 rfl d4.out
        obtain ⟨j2, hj2⟩ : ∃ x, x = e + i := ⟨_, rfl⟩
        obtain ⟨j3, hj3⟩ : ∃ x, x = e2 + i := ⟨_, rfl⟩
        obtain ⟨j4, hj4⟩ : ∃ x, x = e3 + i := ⟨_, rfl⟩
        rw [← hj2, ← hj3, ← hj4]
        have hjn1 : i < n := by have := He2.out; omega
        have hjn2 : j2 < n := by have := He2.out; omega
        have hjn3 : j3 < n := by omega
        have hjn4 : j4 < n := by omega
        obtain ⟨Q0, hQ0⟩ : ∃ x, x = quad (seg t1 e i) (seg t2 e i) (seg t3 e i) (seg t4 n4 i ++ pad) := ⟨_, rfl⟩
        rw [← hQ0] at qg
        have hQl : cap ≤ Q0.length := by rw [hQ0, quad, List.length_append, List.length_append, List.length_append, List.length_append, seg_length HT1.out z2, seg_length HT2.out z2, seg_length HT3.out z2, seg_length HT4.out (by omega), Hpl.out]; have := hhn.out; omega
        have HQ0 := Lib.hid hQ0
        have HQl := Lib.hid hQl
        have Hj2 := Lib.hid hj2
        have Hj3 := Lib.hid hj3
        have Hj4 := Lib.hid hj4
        clear hQ0 hQl hj2 hj3 hj4
        have hf1 : ∀ w', Keep (fun j => S j ∧ j ≠ b1) wr w' → _ := fun w' hk => Hfet.out w' b1 st1 q1 ki1 sy1 bt1 en1 (qk.then hk (fun j _ h => h.1)) S1 (by omega) (r1.keep hk (fun h => h.2 rfl)) h81 hki1 hx1 hen1
        have hf2 : ∀ w', Keep (fun j => S j ∧ j ≠ b2) wr w' → _ := fun w' hk => Hfet.out w' b2 st2 q2 ki2 sy2 bt2 en2 (qk.then hk (fun j _ h => h.1)) S2 (by omega) (r2.keep hk (fun h => h.2 rfl)) h82 hki2 hx2 hen2
        have hf3 : ∀ w', Keep (fun j => S j ∧ j ≠ b3) wr w' → _ := fun w' hk => Hfet.out w' b3 st3 q3 ki3 sy3 bt3 en3 (qk.then hk (fun j _ h => h.1)) S3 (by omega) (r3.keep hk (fun h => h.2 rfl)) h83 hki3 hx3 hen3'
        have hf4 : ∀ w', Keep (fun j => S j ∧ j ≠ b4) wr w' → _ := fun w' hk => Hfet.out w' b4 st4 q4 ki4 sy4 bt4 en4 (qk.then hk (fun j _ h => h.1)) S4 (by omega) (r4.keep hk (fun h => h.2 rfl)) h84 hki4 hx4 hen4
        have Hf1 := Lib.hid hf1
        have Hdd1 := Lib.hid hd1
        have Hy1 := Lib.hid hy1
        have H81 := Lib.hid h81
        have hel1 : en1 < 65536 := by omega
        have hsh1 : (en1 : Int) / 256 = (sy1 : Int) := by omega
        have hand1 : Go.bits .and .u16 (en1 : Int) 255 = (bt1 : Int) := by rw [hen1]; exact and_255 hs1 (by omega)
        have Hf2 := Lib.hid hf2
        have Hdd2 := Lib.hid hd2
        have Hy2 := Lib.hid hy2
        have H82 := Lib.hid h82
        have hel2 : en2 < 65536 := by omega
        have hsh2 : (en2 : Int) / 256 = (sy2 : Int) := by omega
        have hand2 : Go.bits .and .u16 (en2 : Int) 255 = (bt2 : Int) := by rw [hen2]; exact and_255 hs2 (by omega)
        have Hf3 := Lib.hid hf3
        have Hdd3 := Lib.hid hd3
        have Hy3 := Lib.hid hy3
        have H83 := Lib.hid h83
        have hel3 : en3 < 65536 := by omega
        have hsh3 : (en3 : Int) / 256 = (sy3 : Int) := by omega
        have hand3 : Go.bits .and .u16 (en3 : Int) 255 = (bt3 : Int) := by rw [hen3']; exact and_255 hs3 (by omega)
        have Hf4 := Lib.hid hf4
        have Hdd4 := Lib.hid hd4
        have Hy4 := Lib.hid hy4
        have H84 := Lib.hid h84
        have hel4 : en4 < 65536 := by omega
        have hsh4 : (en4 : Int) / 256 = (sy4 : Int) := by omega
        have hand4 : Go.bits .and .u16 (en4 : Int) 255 = (bt4 : Int) := by rw [hen4]; exact and_255 hs4' (by omega)
        clear hf1 hen1 hd1 hy1 hki1 hx1 r1 d1 h81 hf2 hen2 hd2 hy2 hki2 hx2 r2 d2 h82 hf3 hen3' hd3 hy3 hki3 hx3 r3 d3 h83 hf4 hen4 hd4 hy4 hki4 hx4 r4 d4 h84
        go_upto_region 64 with (first
          | (go_at_call 118; (with_reducible refine (Hf1.out _ (Keep.refl _ _)).mono ?_); rintro e1 w2 ⟨rfl, ⟨of1, bs1, cq1, hb1, ha1⟩, hk1⟩; have g1 : Keep (fun j => j = b1) wr w2 := hk1; have m2 : Keep (fun j => S j ∧ j ≠ b2) wr w2 := g1.mono (fun j _ h => by rw [h]; exact ⟨S1, by omega⟩))
          | (go_at_call 118; (with_reducible refine (Hf2.out _ (m2)).mono ?_); rintro e2 w3 ⟨rfl, ⟨of2, bs2, cq2, hb2, ha2⟩, hk2⟩; have g2 : Keep (fun j => j = b1 ∨ j = b2) wr w3 := (g1.mono (fun j _ h => by omega)).then hk2 (fun j _ h => by omega); have m3 : Keep (fun j => S j ∧ j ≠ b3) wr w3 := g2.mono (fun j _ h => by rcases h with rfl | rfl <;> exact ⟨by assumption, by omega⟩))
          | (go_at_call 118; (with_reducible refine (Hf3.out _ (m3)).mono ?_); rintro e3 w4 ⟨rfl, ⟨of3, bs3, cq3, hb3, ha3⟩, hk3⟩; have g3 : Keep (fun j => j = b1 ∨ j = b2 ∨ j = b3) wr w4 := (g2.mono (fun j _ h => by omega)).then hk3 (fun j _ h => by omega); have m4 : Keep (fun j => S j ∧ j ≠ b4) wr w4 := g3.mono (fun j _ h => by rcases h with rfl | rfl | rfl <;> exact ⟨by assumption, by omega⟩))
          | (go_at_call 118; (with_reducible refine (Hf4.out _ (m4)).mono ?_); rintro e4 w5 ⟨rfl, ⟨of4, bs4, cq4, hb4, ha4⟩, hk4⟩; have g4 : Keep (fun j => j = b1 ∨ j = b2 ∨ j = b3 ∨ j = b4) wr w5 := (g3.mono (fun j _ h => by omega)).then hk4 (fun j _ h => by omega)))
        obtain ⟨C1, hC1⟩ : ∃ x, x = cq1 + m := ⟨_, rfl⟩
        rw [← hC1] at hb1 ha1
        have hC231 : C1 ≤ 23 := ha1.cnt
        have hCb1 : bt1 ≤ C1 := by omega
        obtain ⟨ck1, hck1⟩ : ∃ x, x = C1 - bt1 := ⟨_, rfl⟩
        have hcki1 : (C1 : Int) - (bt1 : Int) = (ck1 : Int) := by omega
        have hck231 : ck1 ≤ 23 := by omega
        have Hr1 : Hid (∀ w', Blk w' b1 167 (rbCells rb (some ⟨g, o0, none⟩) c ds.length st1 of1 bs1 ck1) → Rev w' b1 rb (some ⟨g, o0, none⟩) c ds st1 (q1 - bt1)) := fun w' h => ⟨of1, bs1, ck1, h, (rev_val (show RevAt ds st1 q1 of1 bs1 (ck1 + bt1) by rw [show ck1 + bt1 = C1 by omega]; exact ha1) (by have := H81.out; omega)).2⟩
        obtain ⟨C2, hC2⟩ : ∃ x, x = cq2 + m := ⟨_, rfl⟩
        rw [← hC2] at hb2 ha2
        have hC232 : C2 ≤ 23 := ha2.cnt
        have hCb2 : bt2 ≤ C2 := by omega
        obtain ⟨ck2, hck2⟩ : ∃ x, x = C2 - bt2 := ⟨_, rfl⟩
        have hcki2 : (C2 : Int) - (bt2 : Int) = (ck2 : Int) := by omega
        have hck232 : ck2 ≤ 23 := by omega
        have Hr2 : Hid (∀ w', Blk w' b2 167 (rbCells rb (some ⟨g, o0, none⟩) c ds.length st2 of2 bs2 ck2) → Rev w' b2 rb (some ⟨g, o0, none⟩) c ds st2 (q2 - bt2)) := fun w' h => ⟨of2, bs2, ck2, h, (rev_val (show RevAt ds st2 q2 of2 bs2 (ck2 + bt2) by rw [show ck2 + bt2 = C2 by omega]; exact ha2) (by have := H82.out; omega)).2⟩
        obtain ⟨C3, hC3⟩ : ∃ x, x = cq3 + m := ⟨_, rfl⟩
        rw [← hC3] at hb3 ha3
        have hC233 : C3 ≤ 23 := ha3.cnt
        have hCb3 : bt3 ≤ C3 := by omega
        obtain ⟨ck3, hck3⟩ : ∃ x, x = C3 - bt3 := ⟨_, rfl⟩
        have hcki3 : (C3 : Int) - (bt3 : Int) = (ck3 : Int) := by omega
        have hck233 : ck3 ≤ 23 := by omega
        have Hr3 : Hid (∀ w', Blk w' b3 167 (rbCells rb (some ⟨g, o0, none⟩) c ds.length st3 of3 bs3 ck3) → Rev w' b3 rb (some ⟨g, o0, none⟩) c ds st3 (q3 - bt3)) := fun w' h => ⟨of3, bs3, ck3, h, (rev_val (show RevAt ds st3 q3 of3 bs3 (ck3 + bt3) by rw [show ck3 + bt3 = C3 by omega]; exact ha3) (by have := H83.out; omega)).2⟩
        obtain ⟨C4, hC4⟩ : ∃ x, x = cq4 + m := ⟨_, rfl⟩
        rw [← hC4] at hb4 ha4
        have hC234 : C4 ≤ 23 := ha4.cnt
        have hCb4 : bt4 ≤ C4 := by omega
        obtain ⟨ck4, hck4⟩ : ∃ x, x = C4 - bt4 := ⟨_, rfl⟩
        have hcki4 : (C4 : Int) - (bt4 : Int) = (ck4 : Int) := by omega
        have hck234 : ck4 ≤ 23 := by omega
        have Hr4 : Hid (∀ w', Blk w' b4 167 (rbCells rb (some ⟨g, o0, none⟩) c ds.length st4 of4 bs4 ck4) → Rev w' b4 rb (some ⟨g, o0, none⟩) c ds st4 (q4 - bt4)) := fun w' h => ⟨of4, bs4, ck4, h, (rev_val (show RevAt ds st4 q4 of4 bs4 (ck4 + bt4) by rw [show ck4 + bt4 = C4 by omega]; exact ha4) (by have := H84.out; omega)).2⟩
        have B1 := Lib.hid (show Blk w5 b1 167 (rbCells rb (some ⟨g, o0, none⟩) c ds.length st1 of1 bs1 C1) from (((hb1.keep hk2 (by omega)).keep hk3 (by omega)).keep hk4 (by omega)))
        have B2 := Lib.hid (show Blk w5 b2 167 (rbCells rb (some ⟨g, o0, none⟩) c ds.length st2 of2 bs2 C2) from ((hb2.keep hk3 (by omega)).keep hk4 (by omega)))
        have B3 := Lib.hid (show Blk w5 b3 167 (rbCells rb (some ⟨g, o0, none⟩) c ds.length st3 of3 bs3 C3) from (hb3.keep hk4 (by omega)))
        have B4 := Lib.hid (show Blk w5 b4 167 (rbCells rb (some ⟨g, o0, none⟩) c ds.length st4 of4 bs4 C4) from hb4)
        have B5 := Lib.hid (qg.keep g4 (by omega))
        have KK := Lib.hid (show Keep S W9 w5 from qk.then g4 (fun j _ h => by rcases h with rfl | rfl | rfl | rfl <;> assumption))
        have NE : Hid (b1 ≠ b2 ∧ b1 ≠ b3 ∧ b1 ≠ b4 ∧ b1 ≠ gb ∧ b2 ≠ b1 ∧ b2 ≠ b3 ∧ b2 ≠ b4 ∧ b2 ≠ gb ∧ b3 ≠ b1 ∧ b3 ≠ b2 ∧ b3 ≠ b4 ∧ b3 ≠ gb ∧ b4 ≠ b1 ∧ b4 ≠ b2 ∧ b4 ≠ b3 ∧ b4 ≠ gb ∧ gb ≠ b1 ∧ gb ≠ b2 ∧ gb ≠ b3 ∧ gb ≠ b4) := by show _; refine ⟨?_, ?_, ?_, ?_, ?_, ?_, ?_, ?_, ?_, ?_, ?_, ?_, ?_, ?_, ?_, ?_, ?_, ?_, ?_, ?_⟩ <;> omega
        clear hb1 ha1 hk1 g1 Hf1 hC1 hck1 H81 hb2 ha2 hk2 g2 Hf2 hC2 hck2 H82 hb3 ha3 hk3 g3 Hf3 hC3 hck3 H83 hb4 ha4 hk4 g4 Hf4 hC4 hck4 H84 m2 m3 m4 qg qk
        clear hz4 hz5 hz6 hz7 hz8b hgw8 hbg hrb8 htb8 hrbw hgc
        obtain ⟨u0, hu0⟩ := wcell (j := j4) B5.out (by have := HQl.out; omega)
        have fz0 := B5.out.frozen j4
        go_upto_region 66 with (fail)
        obtain ⟨x0, hx0⟩ : ∃ x, x = w5.setCell ⟨gb, j4, none⟩ (.int .u8 (sy4 : Int)) := ⟨_, rfl⟩
        rw [← hx0]
        have B1v0 := Lib.hid (show Blk x0 b1 167 _ from by rw [hx0]; exact B1.out.far (p := ⟨gb, j4, none⟩) NE.out.2.2.2.1 _)
        have B2v0 := Lib.hid (show Blk x0 b2 167 _ from by rw [hx0]; exact B2.out.far (p := ⟨gb, j4, none⟩) NE.out.2.2.2.2.2.2.2.1 _)
        have B3v0 := Lib.hid (show Blk x0 b3 167 _ from by rw [hx0]; exact B3.out.far (p := ⟨gb, j4, none⟩) NE.out.2.2.2.2.2.2.2.2.2.2.2.1 _)
        have B4v0 := Lib.hid (show Blk x0 b4 167 _ from by rw [hx0]; exact B4.out.far (p := ⟨gb, j4, none⟩) NE.out.2.2.2.2.2.2.2.2.2.2.2.2.2.2.2.1 _)
        have B5v0 := Lib.hid (show Blk x0 gb 5 (u8s (Q0.set j4 sy4)) from by rw [hx0]; exact Blk.cast (B5.out.set j4 _) (u8s_set _ _ _))
        have KKv0 := Lib.hid (show Keep S W9 x0 from by rw [hx0]; exact KK.out.set (p := ⟨gb, j4, none⟩) (.inl S5) _)
        clear hx0 hu0 fz0 B1 B2 B3 B4 B5 KK
        have hu1 : x0.cell? ⟨b4, 5, none⟩ = some (.int .u32 (C4 : Int)) := B4v0.out.cell 5
        have fz1 := B4v0.out.frozen 5
        go_upto_region 67 with (fail)
        obtain ⟨x1, hx1⟩ : ∃ x, x = x0.setCell ⟨b4, 5, none⟩ (.int .u32 (ck4 : Int)) := ⟨_, rfl⟩
        rw [← hx1]
        have B1v1 := Lib.hid (show Blk x1 b1 167 _ from by rw [hx1]; exact B1v0.out.far (p := ⟨b4, 5, none⟩) NE.out.2.2.1 _)
        have B2v1 := Lib.hid (show Blk x1 b2 167 _ from by rw [hx1]; exact B2v0.out.far (p := ⟨b4, 5, none⟩) NE.out.2.2.2.2.2.2.1 _)
        have B3v1 := Lib.hid (show Blk x1 b3 167 _ from by rw [hx1]; exact B3v0.out.far (p := ⟨b4, 5, none⟩) NE.out.2.2.2.2.2.2.2.2.2.2.1 _)
        have B4v1 := Lib.hid (show Blk x1 b4 167 (rbCells rb (some ⟨g, o0, none⟩) c ds.length st4 of4 bs4 ck4) from by rw [hx1]; exact Blk.cast (B4v0.out.set 5 _) rfl)
        have B5v1 := Lib.hid (show Blk x1 gb 5 (u8s (Q0.set j4 sy4)) from by rw [hx1]; exact B5v0.out.far (p := ⟨b4, 5, none⟩) NE.out.2.2.2.2.2.2.2.2.2.2.2.2.2.2.2.2.2.2.2 _)
        have KKv1 := Lib.hid (show Keep S W9 x1 from by rw [hx1]; exact KKv0.out.set (p := ⟨b4, 5, none⟩) (.inl S4) _)
        clear hx1 hu1 fz1 B1v0 B2v0 B3v0 B4v0 B5v0 KKv0
        obtain ⟨u2, hu2⟩ := wcell (j := i) B5v1.out (by rw [List.length_set]; have := HQl.out; omega)
        have fz2 := B5v1.out.frozen i
        go_upto_region 69 with (fail)
        obtain ⟨x2, hx2⟩ : ∃ x, x = x1.setCell ⟨gb, i, none⟩ (.int .u8 (sy1 : Int)) := ⟨_, rfl⟩
        rw [← hx2]
        have B1v2 := Lib.hid (show Blk x2 b1 167 _ from by rw [hx2]; exact B1v1.out.far (p := ⟨gb, i, none⟩) NE.out.2.2.2.1 _)
        have B2v2 := Lib.hid (show Blk x2 b2 167 _ from by rw [hx2]; exact B2v1.out.far (p := ⟨gb, i, none⟩) NE.out.2.2.2.2.2.2.2.1 _)
        have B3v2 := Lib.hid (show Blk x2 b3 167 _ from by rw [hx2]; exact B3v1.out.far (p := ⟨gb, i, none⟩) NE.out.2.2.2.2.2.2.2.2.2.2.2.1 _)
        have B4v2 := Lib.hid (show Blk x2 b4 167 _ from by rw [hx2]; exact B4v1.out.far (p := ⟨gb, i, none⟩) NE.out.2.2.2.2.2.2.2.2.2.2.2.2.2.2.2.1 _)
        have B5v2 := Lib.hid (show Blk x2 gb 5 (u8s ((Q0.set j4 sy4).set i sy1)) from by rw [hx2]; exact Blk.cast (B5v1.out.set i _) (u8s_set _ _ _))
        have KKv2 := Lib.hid (show Keep S W9 x2 from by rw [hx2]; exact KKv1.out.set (p := ⟨gb, i, none⟩) (.inl S5) _)
        clear hx2 hu2 fz2 B1v1 B2v1 B3v1 B4v1 B5v1 KKv1
        have hu3 : x2.cell? ⟨b1, 5, none⟩ = some (.int .u32 (C1 : Int)) := B1v2.out.cell 5
        have fz3 := B1v2.out.frozen 5
        go_upto_region 70 with (fail)
        obtain ⟨x3, hx3⟩ : ∃ x, x = x2.setCell ⟨b1, 5, none⟩ (.int .u32 (ck1 : Int)) := ⟨_, rfl⟩
        rw [← hx3]
        have B1v3 := Lib.hid (show Blk x3 b1 167 (rbCells rb (some ⟨g, o0, none⟩) c ds.length st1 of1 bs1 ck1) from by rw [hx3]; exact Blk.cast (B1v2.out.set 5 _) rfl)
        have B2v3 := Lib.hid (show Blk x3 b2 167 _ from by rw [hx3]; exact B2v2.out.far (p := ⟨b1, 5, none⟩) NE.out.2.2.2.2.1 _)
        have B3v3 := Lib.hid (show Blk x3 b3 167 _ from by rw [hx3]; exact B3v2.out.far (p := ⟨b1, 5, none⟩) NE.out.2.2.2.2.2.2.2.2.1 _)
        have B4v3 := Lib.hid (show Blk x3 b4 167 _ from by rw [hx3]; exact B4v2.out.far (p := ⟨b1, 5, none⟩) NE.out.2.2.2.2.2.2.2.2.2.2.2.2.1 _)
        have B5v3 := Lib.hid (show Blk x3 gb 5 (u8s ((Q0.set j4 sy4).set i sy1)) from by rw [hx3]; exact B5v2.out.far (p := ⟨b1, 5, none⟩) NE.out.2.2.2.2.2.2.2.2.2.2.2.2.2.2.2.2.1 _)
        have KKv3 := Lib.hid (show Keep S W9 x3 from by rw [hx3]; exact KKv2.out.set (p := ⟨b1, 5, none⟩) (.inl S1) _)
        clear hx3 hu3 fz3 B1v2 B2v2 B3v2 B4v2 B5v2 KKv2
        obtain ⟨u4, hu4⟩ := wcell (j := j2) B5v3.out (by rw [List.length_set, List.length_set]; have := HQl.out; omega)
        have fz4 := B5v3.out.frozen j2
        go_upto_region 72 with (fail)
        obtain ⟨x4, hx4⟩ : ∃ x, x = x3.setCell ⟨gb, j2, none⟩ (.int .u8 (sy2 : Int)) := ⟨_, rfl⟩
        rw [← hx4]
        have B1v4 := Lib.hid (show Blk x4 b1 167 _ from by rw [hx4]; exact B1v3.out.far (p := ⟨gb, j2, none⟩) NE.out.2.2.2.1 _)
        have B2v4 := Lib.hid (show Blk x4 b2 167 _ from by rw [hx4]; exact B2v3.out.far (p := ⟨gb, j2, none⟩) NE.out.2.2.2.2.2.2.2.1 _)
        have B3v4 := Lib.hid (show Blk x4 b3 167 _ from by rw [hx4]; exact B3v3.out.far (p := ⟨gb, j2, none⟩) NE.out.2.2.2.2.2.2.2.2.2.2.2.1 _)
        have B4v4 := Lib.hid (show Blk x4 b4 167 _ from by rw [hx4]; exact B4v3.out.far (p := ⟨gb, j2, none⟩) NE.out.2.2.2.2.2.2.2.2.2.2.2.2.2.2.2.1 _)
        have B5v4 := Lib.hid (show Blk x4 gb 5 (u8s (((Q0.set j4 sy4).set i sy1).set j2 sy2)) from by rw [hx4]; exact Blk.cast (B5v3.out.set j2 _) (u8s_set _ _ _))
        have KKv4 := Lib.hid (show Keep S W9 x4 from by rw [hx4]; exact KKv3.out.set (p := ⟨gb, j2, none⟩) (.inl S5) _)
        clear hx4 hu4 fz4 B1v3 B2v3 B3v3 B4v3 B5v3 KKv3
        have hu5 : x4.cell? ⟨b2, 5, none⟩ = some (.int .u32 (C2 : Int)) := B2v4.out.cell 5
        have fz5 := B2v4.out.frozen 5
        go_upto_region 73 with (fail)
        obtain ⟨x5, hx5⟩ : ∃ x, x = x4.setCell ⟨b2, 5, none⟩ (.int .u32 (ck2 : Int)) := ⟨_, rfl⟩
        rw [← hx5]
        have B1v5 := Lib.hid (show Blk x5 b1 167 _ from by rw [hx5]; exact B1v4.out.far (p := ⟨b2, 5, none⟩) NE.out.1 _)
        have B2v5 := Lib.hid (show Blk x5 b2 167 (rbCells rb (some ⟨g, o0, none⟩) c ds.length st2 of2 bs2 ck2) from by rw [hx5]; exact Blk.cast (B2v4.out.set 5 _) rfl)
        have B3v5 := Lib.hid (show Blk x5 b3 167 _ from by rw [hx5]; exact B3v4.out.far (p := ⟨b2, 5, none⟩) NE.out.2.2.2.2.2.2.2.2.2.1 _)
        have B4v5 := Lib.hid (show Blk x5 b4 167 _ from by rw [hx5]; exact B4v4.out.far (p := ⟨b2, 5, none⟩) NE.out.2.2.2.2.2.2.2.2.2.2.2.2.2.1 _)
        have B5v5 := Lib.hid (show Blk x5 gb 5 (u8s (((Q0.set j4 sy4).set i sy1).set j2 sy2)) from by rw [hx5]; exact B5v4.out.far (p := ⟨b2, 5, none⟩) NE.out.2.2.2.2.2.2.2.2.2.2.2.2.2.2.2.2.2.1 _)
        have KKv5 := Lib.hid (show Keep S W9 x5 from by rw [hx5]; exact KKv4.out.set (p := ⟨b2, 5, none⟩) (.inl S2) _)
        clear hx5 hu5 fz5 B1v4 B2v4 B3v4 B4v4 B5v4 KKv4
        obtain ⟨u6, hu6⟩ := wcell (j := j3) B5v5.out (by rw [List.length_set, List.length_set, List.length_set]; have := HQl.out; omega)
        have fz6 := B5v5.out.frozen j3
        go_upto_region 75 with (fail)
        obtain ⟨x6, hx6⟩ : ∃ x, x = x5.setCell ⟨gb, j3, none⟩ (.int .u8 (sy3 : Int)) := ⟨_, rfl⟩
        rw [← hx6]
        have B1v6 := Lib.hid (show Blk x6 b1 167 _ from by rw [hx6]; exact B1v5.out.far (p := ⟨gb, j3, none⟩) NE.out.2.2.2.1 _)
        have B2v6 := Lib.hid (show Blk x6 b2 167 _ from by rw [hx6]; exact B2v5.out.far (p := ⟨gb, j3, none⟩) NE.out.2.2.2.2.2.2.2.1 _)
        have B3v6 := Lib.hid (show Blk x6 b3 167 _ from by rw [hx6]; exact B3v5.out.far (p := ⟨gb, j3, none⟩) NE.out.2.2.2.2.2.2.2.2.2.2.2.1 _)
        have B4v6 := Lib.hid (show Blk x6 b4 167 _ from by rw [hx6]; exact B4v5.out.far (p := ⟨gb, j3, none⟩) NE.out.2.2.2.2.2.2.2.2.2.2.2.2.2.2.2.1 _)
        have B5v6 := Lib.hid (show Blk x6 gb 5 (u8s ((((Q0.set j4 sy4).set i sy1).set j2 sy2).set j3 sy3)) from by rw [hx6]; exact Blk.cast (B5v5.out.set j3 _) (u8s_set _ _ _))
        have KKv6 := Lib.hid (show Keep S W9 x6 from by rw [hx6]; exact KKv5.out.set (p := ⟨gb, j3, none⟩) (.inl S5) _)
        clear hx6 hu6 fz6 B1v5 B2v5 B3v5 B4v5 B5v5 KKv5
        have hu7 : x6.cell? ⟨b3, 5, none⟩ = some (.int .u32 (C3 : Int)) := B3v6.out.cell 5
        have fz7 := B3v6.out.frozen 5
        go_wp2
        obtain ⟨x7, hx7⟩ : ∃ x, x = x6.setCell ⟨b3, 5, none⟩ (.int .u32 (ck3 : Int)) := ⟨_, rfl⟩
        rw [← hx7]
        have B1v7 := Lib.hid (show Blk x7 b1 167 _ from by rw [hx7]; exact B1v6.out.far (p := ⟨b3, 5, none⟩) NE.out.2.1 _)
        have B2v7 := Lib.hid (show Blk x7 b2 167 _ from by rw [hx7]; exact B2v6.out.far (p := ⟨b3, 5, none⟩) NE.out.2.2.2.2.2.1 _)
        have B3v7 := Lib.hid (show Blk x7 b3 167 (rbCells rb (some ⟨g, o0, none⟩) c ds.length st3 of3 bs3 ck3) from by rw [hx7]; exact Blk.cast (B3v6.out.set 5 _) rfl)
        have B4v7 := Lib.hid (show Blk x7 b4 167 _ from by rw [hx7]; exact B4v6.out.far (p := ⟨b3, 5, none⟩) NE.out.2.2.2.2.2.2.2.2.2.2.2.2.2.2.1 _)
        have B5v7 := Lib.hid (show Blk x7 gb 5 (u8s ((((Q0.set j4 sy4).set i sy1).set j2 sy2).set j3 sy3)) from by rw [hx7]; exact B5v6.out.far (p := ⟨b3, 5, none⟩) NE.out.2.2.2.2.2.2.2.2.2.2.2.2.2.2.2.2.2.2.1 _)
        have KKv7 := Lib.hid (show Keep S W9 x7 from by rw [hx7]; exact KKv6.out.set (p := ⟨b3, 5, none⟩) (.inl S3) _)
        clear hx7 hu7 fz7 B1v6 B2v6 B3v6 B4v6 B5v6 KKv6
        go_roundg (e - i)
        case measure => exact z1
        case rel =>
          refine ⟨i + 1, q1 - bt1, q2 - bt2, q3 - bt3, q4 - bt4, by omega, by omega, (by go_num), (by congr 1; have := Hj2.out; omega), (by congr 1; have := Hj3.out; omega), (by congr 1; have := Hj4.out; omega), (by go_num), Hr1.out _ B1v7.out, Hr2.out _ B2v7.out, Hr3.out _ B3v7.out, (Hr4.out _ B4v7.out), Blk.cast B5v7.out ?_, Hdd1.out, Hdd2.out, Hdd3.out, ?_, KKv7.out⟩
          · rw [HQ0.out, Hj2.out, Hj3.out, Hj4.out, show min (i + 1) n4 = i + 1 by omega, quad_set4 (seg_length HT1.out z2) (seg_length HT2.out z2) (seg_length HT3.out z2) He3.out (by rw [seg_length HT4.out (by omega)]; exact h4), quad_set1 (by rw [seg_length HT1.out z2]; exact hlt), quad_set2 (by rw [List.length_set, seg_length HT1.out z2]) (by rw [seg_length HT2.out z2]; exact hlt), quad_set3 (by rw [List.length_set, seg_length HT1.out z2]) (by rw [List.length_set, seg_length HT2.out z2]) He2.out (by rw [seg_length HT3.out z2]; exact hlt), seg_set HT1.out Hy1.out, seg_set HT2.out Hy2.out, seg_set HT3.out Hy3.out, seg_set HT4.out Hy4.out]
          · show _ = _; rw [show min (i + 1) n4 = i + 1 by omega]; exact Hdd4.out
      · have hmin : min i n4 = n4 := by omega
        rw [hmin] at d4 qg ⊢
        obtain ⟨j2, hj2⟩ : ∃ x, x = e + i := ⟨_, rfl⟩
        obtain ⟨j3, hj3⟩ : ∃ x, x = e2 + i := ⟨_, rfl⟩
        obtain ⟨j4, hj4⟩ : ∃ x, x = e3 + n4 := ⟨_, rfl⟩
        rw [← hj2, ← hj3, ← hj4]
        have hjn1 : i < n := by have := He2.out; omega
        have hjn2 : j2 < n := by have := He2.out; omega
        have hjn3 : j3 < n := by omega
        have hjn4 : j4 ≤ n := by omega
        obtain ⟨Q0, hQ0⟩ : ∃ x, x = quad (seg t1 e i) (seg t2 e i) (seg t3 e i) (seg t4 n4 n4 ++ pad) := ⟨_, rfl⟩
        rw [← hQ0] at qg
        have hQl : cap ≤ Q0.length := by rw [hQ0, quad, List.length_append, List.length_append, List.length_append, List.length_append, seg_length HT1.out z2, seg_length HT2.out z2, seg_length HT3.out z2, seg_length HT4.out (by omega), Hpl.out]; have := hhn.out; omega
        have HQ0 := Lib.hid hQ0
        have HQl := Lib.hid hQl
        have Hj2 := Lib.hid hj2
        have Hj3 := Lib.hid hj3
        have Hj4 := Lib.hid hj4
        clear hQ0 hQl hj2 hj3 hj4
        have hf1 : ∀ w', Keep (fun j => S j ∧ j ≠ b1) wr w' → _ := fun w' hk => Hfet.out w' b1 st1 q1 ki1 sy1 bt1 en1 (qk.then hk (fun j _ h => h.1)) S1 (by omega) (r1.keep hk (fun h => h.2 rfl)) h81 hki1 hx1 hen1
        have hf2 : ∀ w', Keep (fun j => S j ∧ j ≠ b2) wr w' → _ := fun w' hk => Hfet.out w' b2 st2 q2 ki2 sy2 bt2 en2 (qk.then hk (fun j _ h => h.1)) S2 (by omega) (r2.keep hk (fun h => h.2 rfl)) h82 hki2 hx2 hen2
        have hf3 : ∀ w', Keep (fun j => S j ∧ j ≠ b3) wr w' → _ := fun w' hk => Hfet.out w' b3 st3 q3 ki3 sy3 bt3 en3 (qk.then hk (fun j _ h => h.1)) S3 (by omega) (r3.keep hk (fun h => h.2 rfl)) h83 hki3 hx3 hen3'
        have Hf1 := Lib.hid hf1
        have Hdd1 := Lib.hid hd1
        have Hy1 := Lib.hid hy1
        have H81 := Lib.hid h81
        have hel1 : en1 < 65536 := by omega
        have hsh1 : (en1 : Int) / 256 = (sy1 : Int) := by omega
        have hand1 : Go.bits .and .u16 (en1 : Int) 255 = (bt1 : Int) := by rw [hen1]; exact and_255 hs1 (by omega)
        have Hf2 := Lib.hid hf2
        have Hdd2 := Lib.hid hd2
        have Hy2 := Lib.hid hy2
        have H82 := Lib.hid h82
        have hel2 : en2 < 65536 := by omega
        have hsh2 : (en2 : Int) / 256 = (sy2 : Int) := by omega
        have hand2 : Go.bits .and .u16 (en2 : Int) 255 = (bt2 : Int) := by rw [hen2]; exact and_255 hs2 (by omega)
        have Hf3 := Lib.hid hf3
        have Hdd3 := Lib.hid hd3
        have Hy3 := Lib.hid hy3
        have H83 := Lib.hid h83
        have hel3 : en3 < 65536 := by omega
        have hsh3 : (en3 : Int) / 256 = (sy3 : Int) := by omega
        have hand3 : Go.bits .and .u16 (en3 : Int) 255 = (bt3 : Int) := by rw [hen3']; exact and_255 hs3 (by omega)
        clear hf1 hen1 hd1 hy1 hki1 hx1 r1 d1 h81 hf2 hen2 hd2 hy2 hki2 hx2 r2 d2 h82 hf3 hen3' hd3 hy3 hki3 hx3 r3 d3 h83
        go_upto_region 67 with (first
          | (go_at_call 118; (with_reducible refine (Hf1.out _ (Keep.refl _ _)).mono ?_); rintro e1 w2 ⟨rfl, ⟨of1, bs1, cq1, hb1, ha1⟩, hk1⟩; have g1 : Keep (fun j => j = b1) wr w2 := hk1; have m2 : Keep (fun j => S j ∧ j ≠ b2) wr w2 := g1.mono (fun j _ h => by rw [h]; exact ⟨S1, by omega⟩))
          | (go_at_call 118; (with_reducible refine (Hf2.out _ (m2)).mono ?_); rintro e2 w3 ⟨rfl, ⟨of2, bs2, cq2, hb2, ha2⟩, hk2⟩; have g2 : Keep (fun j => j = b1 ∨ j = b2) wr w3 := (g1.mono (fun j _ h => by omega)).then hk2 (fun j _ h => by omega); have m3 : Keep (fun j => S j ∧ j ≠ b3) wr w3 := g2.mono (fun j _ h => by rcases h with rfl | rfl <;> exact ⟨by assumption, by omega⟩))
          | (go_at_call 118; (with_reducible refine (Hf3.out _ (m3)).mono ?_); rintro e3 w4 ⟨rfl, ⟨of3, bs3, cq3, hb3, ha3⟩, hk3⟩; have g3 : Keep (fun j => j = b1 ∨ j = b2 ∨ j = b3) wr w4 := (g2.mono (fun j _ h => by omega)).then hk3 (fun j _ h => by omega)))
        obtain ⟨C1, hC1⟩ : ∃ x, x = cq1 + m := ⟨_, rfl⟩
        rw [← hC1] at hb1 ha1
        have hC231 : C1 ≤ 23 := ha1.cnt
        have hCb1 : bt1 ≤ C1 := by omega
        obtain ⟨ck1, hck1⟩ : ∃ x, x = C1 - bt1 := ⟨_, rfl⟩
        have hcki1 : (C1 : Int) - (bt1 : Int) = (ck1 : Int) := by omega
        have hck231 : ck1 ≤ 23 := by omega
        have Hr1 : Hid (∀ w', Blk w' b1 167 (rbCells rb (some ⟨g, o0, none⟩) c ds.length st1 of1 bs1 ck1) → Rev w' b1 rb (some ⟨g, o0, none⟩) c ds st1 (q1 - bt1)) := fun w' h => ⟨of1, bs1, ck1, h, (rev_val (show RevAt ds st1 q1 of1 bs1 (ck1 + bt1) by rw [show ck1 + bt1 = C1 by omega]; exact ha1) (by have := H81.out; omega)).2⟩
        obtain ⟨C2, hC2⟩ : ∃ x, x = cq2 + m := ⟨_, rfl⟩
        rw [← hC2] at hb2 ha2
        have hC232 : C2 ≤ 23 := ha2.cnt
        have hCb2 : bt2 ≤ C2 := by omega
        obtain ⟨ck2, hck2⟩ : ∃ x, x = C2 - bt2 := ⟨_, rfl⟩
        have hcki2 : (C2 : Int) - (bt2 : Int) = (ck2 : Int) := by omega
        have hck232 : ck2 ≤ 23 := by omega
        have Hr2 : Hid (∀ w', Blk w' b2 167 (rbCells rb (some ⟨g, o0, none⟩) c ds.length st2 of2 bs2 ck2) → Rev w' b2 rb (some ⟨g, o0, none⟩) c ds st2 (q2 - bt2)) := fun w' h => ⟨of2, bs2, ck2, h, (rev_val (show RevAt ds st2 q2 of2 bs2 (ck2 + bt2) by rw [show ck2 + bt2 = C2 by omega]; exact ha2) (by have := H82.out; omega)).2⟩
        obtain ⟨C3, hC3⟩ : ∃ x, x = cq3 + m := ⟨_, rfl⟩
        rw [← hC3] at hb3 ha3
        have hC233 : C3 ≤ 23 := ha3.cnt
        have hCb3 : bt3 ≤ C3 := by omega
        obtain ⟨ck3, hck3⟩ : ∃ x, x = C3 - bt3 := ⟨_, rfl⟩
        have hcki3 : (C3 : Int) - (bt3 : Int) = (ck3 : Int) := by omega
        have hck233 : ck3 ≤ 23 := by omega
        have Hr3 : Hid (∀ w', Blk w' b3 167 (rbCells rb (some ⟨g, o0, none⟩) c ds.length st3 of3 bs3 ck3) → Rev w' b3 rb (some ⟨g, o0, none⟩) c ds st3 (q3 - bt3)) := fun w' h => ⟨of3, bs3, ck3, h, (rev_val (show RevAt ds st3 q3 of3 bs3 (ck3 + bt3) by rw [show ck3 + bt3 = C3 by omega]; exact ha3) (by have := H83.out; omega)).2⟩
        have B1 := Lib.hid (show Blk w4 b1 167 (rbCells rb (some ⟨g, o0, none⟩) c ds.length st1 of1 bs1 C1) from ((hb1.keep hk2 (by omega)).keep hk3 (by omega)))
        have B2 := Lib.hid (show Blk w4 b2 167 (rbCells rb (some ⟨g, o0, none⟩) c ds.length st2 of2 bs2 C2) from (hb2.keep hk3 (by omega)))
        have B3 := Lib.hid (show Blk w4 b3 167 (rbCells rb (some ⟨g, o0, none⟩) c ds.length st3 of3 bs3 C3) from hb3)
        have B4 := Lib.hid (r4.keep g3 (by omega))
        have B5 := Lib.hid (qg.keep g3 (by omega))
        have KK := Lib.hid (show Keep S W9 w4 from qk.then g3 (fun j _ h => by rcases h with rfl | rfl | rfl <;> assumption))
        have NE : Hid (b1 ≠ b2 ∧ b1 ≠ b3 ∧ b1 ≠ b4 ∧ b1 ≠ gb ∧ b2 ≠ b1 ∧ b2 ≠ b3 ∧ b2 ≠ b4 ∧ b2 ≠ gb ∧ b3 ≠ b1 ∧ b3 ≠ b2 ∧ b3 ≠ b4 ∧ b3 ≠ gb ∧ b4 ≠ b1 ∧ b4 ≠ b2 ∧ b4 ≠ b3 ∧ b4 ≠ gb ∧ gb ≠ b1 ∧ gb ≠ b2 ∧ gb ≠ b3 ∧ gb ≠ b4) := by show _; refine ⟨?_, ?_, ?_, ?_, ?_, ?_, ?_, ?_, ?_, ?_, ?_, ?_, ?_, ?_, ?_, ?_, ?_, ?_, ?_, ?_⟩ <;> omega
        clear hb1 ha1 hk1 g1 Hf1 hC1 hck1 H81 hb2 ha2 hk2 g2 Hf2 hC2 hck2 H82 hb3 ha3 hk3 g3 Hf3 hC3 hck3 H83 m2 m3 qg qk r4
        clear hz4 hz5 hz6 hz7 hz8b hgw8 hbg hrb8 htb8 hrbw hgc
        obtain ⟨u0, hu0⟩ := wcell (j := i) B5.out (by have := HQl.out; omega)
        have fz0 := B5.out.frozen i
        go_upto_region 69 with (fail)
        obtain ⟨x0, hx0⟩ : ∃ x, x = w4.setCell ⟨gb, i, none⟩ (.int .u8 (sy1 : Int)) := ⟨_, rfl⟩
        rw [← hx0]
        have B1v0 := Lib.hid (show Blk x0 b1 167 _ from by rw [hx0]; exact B1.out.far (p := ⟨gb, i, none⟩) NE.out.2.2.2.1 _)
        have B2v0 := Lib.hid (show Blk x0 b2 167 _ from by rw [hx0]; exact B2.out.far (p := ⟨gb, i, none⟩) NE.out.2.2.2.2.2.2.2.1 _)
        have B3v0 := Lib.hid (show Blk x0 b3 167 _ from by rw [hx0]; exact B3.out.far (p := ⟨gb, i, none⟩) NE.out.2.2.2.2.2.2.2.2.2.2.2.1 _)
        have B4v0 := Lib.hid (show Rev x0 b4 rb (some ⟨g, o0, none⟩) c ds st4 q4 from by rw [hx0]; exact rev_set (a := ⟨gb, i, none⟩) B4.out NE.out.2.2.2.2.2.2.2.2.2.2.2.2.2.2.2.2.2.2.2)
        have B5v0 := Lib.hid (show Blk x0 gb 5 (u8s (Q0.set i sy1)) from by rw [hx0]; exact Blk.cast (B5.out.set i _) (u8s_set _ _ _))
        have KKv0 := Lib.hid (show Keep S W9 x0 from by rw [hx0]; exact KK.out.set (p := ⟨gb, i, none⟩) (.inl S5) _)
        clear hx0 hu0 fz0 B1 B2 B3 B4 B5 KK
        have hu1 : x0.cell? ⟨b1, 5, none⟩ = some (.int .u32 (C1 : Int)) := B1v0.out.cell 5
        have fz1 := B1v0.out.frozen 5
        go_upto_region 70 with (fail)
        obtain ⟨x1, hx1⟩ : ∃ x, x = x0.setCell ⟨b1, 5, none⟩ (.int .u32 (ck1 : Int)) := ⟨_, rfl⟩
        rw [← hx1]
        have B1v1 := Lib.hid (show Blk x1 b1 167 (rbCells rb (some ⟨g, o0, none⟩) c ds.length st1 of1 bs1 ck1) from by rw [hx1]; exact Blk.cast (B1v0.out.set 5 _) rfl)
        have B2v1 := Lib.hid (show Blk x1 b2 167 _ from by rw [hx1]; exact B2v0.out.far (p := ⟨b1, 5, none⟩) NE.out.2.2.2.2.1 _)
        have B3v1 := Lib.hid (show Blk x1 b3 167 _ from by rw [hx1]; exact B3v0.out.far (p := ⟨b1, 5, none⟩) NE.out.2.2.2.2.2.2.2.2.1 _)
        have B4v1 := Lib.hid (show Rev x1 b4 rb (some ⟨g, o0, none⟩) c ds st4 q4 from by rw [hx1]; exact rev_set (a := ⟨b1, 5, none⟩) B4v0.out NE.out.2.2.1)
        have B5v1 := Lib.hid (show Blk x1 gb 5 (u8s (Q0.set i sy1)) from by rw [hx1]; exact B5v0.out.far (p := ⟨b1, 5, none⟩) NE.out.2.2.2.2.2.2.2.2.2.2.2.2.2.2.2.2.1 _)
        have KKv1 := Lib.hid (show Keep S W9 x1 from by rw [hx1]; exact KKv0.out.set (p := ⟨b1, 5, none⟩) (.inl S1) _)
        clear hx1 hu1 fz1 B1v0 B2v0 B3v0 B4v0 B5v0 KKv0
        obtain ⟨u2, hu2⟩ := wcell (j := j2) B5v1.out (by rw [List.length_set]; have := HQl.out; omega)
        have fz2 := B5v1.out.frozen j2
        go_upto_region 72 with (fail)
        obtain ⟨x2, hx2⟩ : ∃ x, x = x1.setCell ⟨gb, j2, none⟩ (.int .u8 (sy2 : Int)) := ⟨_, rfl⟩
        rw [← hx2]
        have B1v2 := Lib.hid (show Blk x2 b1 167 _ from by rw [hx2]; exact B1v1.out.far (p := ⟨gb, j2, none⟩) NE.out.2.2.2.1 _)
        have B2v2 := Lib.hid (show Blk x2 b2 167 _ from by rw [hx2]; exact B2v1.out.far (p := ⟨gb, j2, none⟩) NE.out.2.2.2.2.2.2.2.1 _)
        have B3v2 := Lib.hid (show Blk x2 b3 167 _ from by rw [hx2]; exact B3v1.out.far (p := ⟨gb, j2, none⟩) NE.out.2.2.2.2.2.2.2.2.2.2.2.1 _)
        have B4v2 := Lib.hid (show Rev x2 b4 rb (some ⟨g, o0, none⟩) c ds st4 q4 from by rw [hx2]; exact rev_set (a := ⟨gb, j2, none⟩) B4v1.out NE.out.2.2.2.2.2.2.2.2.2.2.2.2.2.2.2.2.2.2.2)
        have B5v2 := Lib.hid (show Blk x2 gb 5 (u8s ((Q0.set i sy1).set j2 sy2)) from by rw [hx2]; exact Blk.cast (B5v1.out.set j2 _) (u8s_set _ _ _))
        have KKv2 := Lib.hid (show Keep S W9 x2 from by rw [hx2]; exact KKv1.out.set (p := ⟨gb, j2, none⟩) (.inl S5) _)
        clear hx2 hu2 fz2 B1v1 B2v1 B3v1 B4v1 B5v1 KKv1
        have hu3 : x2.cell? ⟨b2, 5, none⟩ = some (.int .u32 (C2 : Int)) := B2v2.out.cell 5
        have fz3 := B2v2.out.frozen 5
        go_upto_region 73 with (fail)
        obtain ⟨x3, hx3⟩ : ∃ x, x = x2.setCell ⟨b2, 5, none⟩ (.int .u32 (ck2 : Int)) := ⟨_, rfl⟩
        rw [← hx3]
        have B1v3 := Lib.hid (show Blk x3 b1 167 _ from by rw [hx3]; exact B1v2.out.far (p := ⟨b2, 5, none⟩) NE.out.1 _)
        have B2v3 := Lib.hid (show Blk x3 b2 167 (rbCells rb (some ⟨g, o0, none⟩) c ds.length st2 of2 bs2 ck2) from by rw [hx3]; exact Blk.cast (B2v2.out.set 5 _) rfl)
        have B3v3 := Lib.hid (show Blk x3 b3 167 _ from by rw [hx3]; exact B3v2.out.far (p := ⟨b2, 5, none⟩) NE.out.2.2.2.2.2.2.2.2.2.1 _)
        have B4v3 := Lib.hid (show Rev x3 b4 rb (some ⟨g, o0, none⟩) c ds st4 q4 from by rw [hx3]; exact rev_set (a := ⟨b2, 5, none⟩) B4v2.out NE.out.2.2.2.2.2.2.1)
        have B5v3 := Lib.hid (show Blk x3 gb 5 (u8s ((Q0.set i sy1).set j2 sy2)) from by rw [hx3]; exact B5v2.out.far (p := ⟨b2, 5, none⟩) NE.out.2.2.2.2.2.2.2.2.2.2.2.2.2.2.2.2.2.1 _)
        have KKv3 := Lib.hid (show Keep S W9 x3 from by rw [hx3]; exact KKv2.out.set (p := ⟨b2, 5, none⟩) (.inl S2) _)
        clear hx3 hu3 fz3 B1v2 B2v2 B3v2 B4v2 B5v2 KKv2
        obtain ⟨u4, hu4⟩ := wcell (j := j3) B5v3.out (by rw [List.length_set, List.length_set]; have := HQl.out; omega)
        have fz4 := B5v3.out.frozen j3
        go_upto_region 75 with (fail)
        obtain ⟨x4, hx4⟩ : ∃ x, x = x3.setCell ⟨gb, j3, none⟩ (.int .u8 (sy3 : Int)) := ⟨_, rfl⟩
        rw [← hx4]
        have B1v4 := Lib.hid (show Blk x4 b1 167 _ from by rw [hx4]; exact B1v3.out.far (p := ⟨gb, j3, none⟩) NE.out.2.2.2.1 _)
        have B2v4 := Lib.hid (show Blk x4 b2 167 _ from by rw [hx4]; exact B2v3.out.far (p := ⟨gb, j3, none⟩) NE.out.2.2.2.2.2.2.2.1 _)
        have B3v4 := Lib.hid (show Blk x4 b3 167 _ from by rw [hx4]; exact B3v3.out.far (p := ⟨gb, j3, none⟩) NE.out.2.2.2.2.2.2.2.2.2.2.2.1 _)
        have B4v4 := Lib.hid (show Rev x4 b4 rb (some ⟨g, o0, none⟩) c ds st4 q4 from by rw [hx4]; exact rev_set (a := ⟨gb, j3, none⟩) B4v3.out NE.out.2.2.2.2.2.2.2.2.2.2.2.2.2.2.2.2.2.2.2)
        have B5v4 := Lib.hid (show Blk x4 gb 5 (u8s (((Q0.set i sy1).set j2 sy2).set j3 sy3)) from by rw [hx4]; exact Blk.cast (B5v3.out.set j3 _) (u8s_set _ _ _))
        have KKv4 := Lib.hid (show Keep S W9 x4 from by rw [hx4]; exact KKv3.out.set (p := ⟨gb, j3, none⟩) (.inl S5) _)
        clear hx4 hu4 fz4 B1v3 B2v3 B3v3 B4v3 B5v3 KKv3
        have hu5 : x4.cell? ⟨b3, 5, none⟩ = some (.int .u32 (C3 : Int)) := B3v4.out.cell 5
        have fz5 := B3v4.out.frozen 5
        go_wp2
        obtain ⟨x5, hx5⟩ : ∃ x, x = x4.setCell ⟨b3, 5, none⟩ (.int .u32 (ck3 : Int)) := ⟨_, rfl⟩
        rw [← hx5]
        have B1v5 := Lib.hid (show Blk x5 b1 167 _ from by rw [hx5]; exact B1v4.out.far (p := ⟨b3, 5, none⟩) NE.out.2.1 _)
        have B2v5 := Lib.hid (show Blk x5 b2 167 _ from by rw [hx5]; exact B2v4.out.far (p := ⟨b3, 5, none⟩) NE.out.2.2.2.2.2.1 _)
        have B3v5 := Lib.hid (show Blk x5 b3 167 (rbCells rb (some ⟨g, o0, none⟩) c ds.length st3 of3 bs3 ck3) from by rw [hx5]; exact Blk.cast (B3v4.out.set 5 _) rfl)
        have B4v5 := Lib.hid (show Rev x5 b4 rb (some ⟨g, o0, none⟩) c ds st4 q4 from by rw [hx5]; exact rev_set (a := ⟨b3, 5, none⟩) B4v4.out NE.out.2.2.2.2.2.2.2.2.2.2.1)
        have B5v5 := Lib.hid (show Blk x5 gb 5 (u8s (((Q0.set i sy1).set j2 sy2).set j3 sy3)) from by rw [hx5]; exact B5v4.out.far (p := ⟨b3, 5, none⟩) NE.out.2.2.2.2.2.2.2.2.2.2.2.2.2.2.2.2.2.2.1 _)
        have KKv5 := Lib.hid (show Keep S W9 x5 from by rw [hx5]; exact KKv4.out.set (p := ⟨b3, 5, none⟩) (.inl S3) _)
        clear hx5 hu5 fz5 B1v4 B2v4 B3v4 B4v4 B5v4 KKv4
        go_roundg (e - i)
        case measure => exact z1
        case rel =>
          refine ⟨i + 1, q1 - bt1, q2 - bt2, q3 - bt3, q4, by omega, by omega, (by go_num), (by congr 1; have := Hj2.out; omega), (by congr 1; have := Hj3.out; omega), (by congr 1; have := Hj4.out; omega), (by go_num), Hr1.out _ B1v5.out, Hr2.out _ B2v5.out, Hr3.out _ B3v5.out, B4v5.out, Blk.cast B5v5.out ?_, Hdd1.out, Hdd2.out, Hdd3.out, ?_, KKv5.out⟩
          · rw [HQ0.out, Hj2.out, Hj3.out, show min (i + 1) n4 = n4 by omega, quad_set1 (by rw [seg_length HT1.out z2]; exact hlt), quad_set2 (by rw [List.length_set, seg_length HT1.out z2]) (by rw [seg_length HT2.out z2]; exact hlt), quad_set3 (by rw [List.length_set, seg_length HT1.out z2]) (by rw [List.length_set, seg_length HT2.out z2]) He2.out (by rw [seg_length HT3.out z2]; exact hlt), seg_set HT1.out Hy1.out, seg_set HT2.out Hy2.out, seg_set HT3.out Hy3.out]
          · show _ = _; rw [show min (i + 1) n4 = n4 by omega]; exact d4.out
    · have hie : i = e := by omega
      have hmin : min i n4 = n4 := by omega
      rw [hmin, hie, seg_full HT1.out, seg_full HT2.out, seg_full HT3.out, seg_full HT4.out, show quad t1 t2 t3 (t4 ++ pad) = t ++ pad by rw [Htt.out, quad]; simp only [List.append_assoc], show u8s (t ++ pad) = u8s t ++ u8s pad by simp [u8s]] at qg
      have htl : t.length = n := by rw [Htt.out, List.length_append, List.length_append, List.length_append, HT1.out, HT2.out, HT3.out, HT4.out, hhn.out]; omega
      have hown := own_blk (n := n) (base := w.heap.size) (cap := cap) qg (by rw [u8s_length]; exact htl) (by rw [u8s_length, Hpl.out]; omega) hcm (by omega)
      have Hown := Lib.hid hown
      clear qg r1 r2 r3 r4 d1 d2 d3 d4 Hfet Hnext hmin htl hown
      subst hie
      go_wp2
      go_ret2
      exact ⟨hkw9.then qk (fun j hj h => by have := (HS1.out j h).1; omega), _, _, rfl, Hown.out⟩
end

section
section
set_option maxHeartbeats 8000000 in
set_option maxRecDepth 100000 in
theorem fourStreams_wrong {R : Nat → Prop} {B : Nat} (rb : Nat) (A : Option Addr) (c : Nat) (ds : List Nat) (o s n : Nat) (w : World) (hs : Sl w R A (u8s ds)) (he : Errs B w) (hr : RdOff w rb)
    (hd : Bytes ds) (hlen : ds.length < 2 ^ 24) (hc : ds.length ≤ c) (ho : 2 ≤ o) (hos : o + s ≤ ds.length) (hn : n ≤ 131072) (h : FourW ds o s) :
    Calls Tryd.prog 116 #[.pointer (some ⟨rb, 0, none⟩), .slice A ds.length c, .int .i64 o, .int .i64 s, .int .i64 n, .slice none 0 0] w (NoPost w) := by
  have heof := fun (x : Int) w' (hk : Kept w w') => makeEOFError (B := B) rb x w' (he.kept hk) (hr.kept hk)
  have herr := fun (x : Int) (t : ByteArray) w' (hk : Kept w w') => makeError (B := B) rb x t w' (he.kept hk) (hr.kept hk)
  have Heof := Lib.hid heof
  have Herr := Lib.hid herr
  clear heof herr
  obtain ⟨e, hec⟩ : ∃ x, x = (n + 3) / 4 := ⟨_, rfl⟩
  have heci : ((n : Int) + 3) / 4 = (e : Int) := by omega
  have Heci := Lib.hid heci
  have hed : e * 3 ≤ n ∨ n < e * 3 := by omega
  have hel : e ≤ 40000 := by omega
  clear heci hec
  by_cases h1 : ds.length ≤ o + 5
  · clear h hed hd hs
    go_enter Tryd.func116, Tryd.ntmps116
    go_wp2_with (go_at_call 92; (with_reducible refine (Heof.out _ _ (Keep.refl _ _)).mono ?_); rintro e w1 ⟨v, ⟨vt, vx, rfl⟩, rfl, hk1⟩)
    go_ret2
    exact ⟨hk1, _, _, rfl⟩
  by_cases h2 : s < 6
  · clear h hed hd hs
    go_enter Tryd.func116, Tryd.ntmps116
    go_wp2_with (go_at_call 93; (with_reducible refine (Herr.out _ _ _ (Keep.refl _ _)).mono ?_); rintro e w1 ⟨v, ⟨vt, vx, rfl⟩, rfl, hk1⟩)
    go_ret2
    exact ⟨hk1, _, _, rfl⟩
  rcases hed with hn3 | hn3
  rotate_left
  · have hn3i : (n : Int) < (e : Int) * 3 := by omega
    clear h hd hs hn3
    go_enter Tryd.func116, Tryd.ntmps116
    go_upto_region 6 with (fail)
    rw [Heci.out]
    go_wp2_with (go_at_call 93; (with_reducible refine (Herr.out _ _ _ (Keep.refl _ _)).mono ?_); rintro e w1 ⟨v, ⟨vt, vx, rfl⟩, rfl, hk1⟩)
    go_ret2
    exact ⟨hk1, _, _, rfl⟩
  obtain ⟨g, o0, hRg, hA, _⟩ := hs.get (by simp; omega)
  subst hA
  obtain ⟨N, hN⟩ : ∃ N, N = ds.length := ⟨_, rfl⟩
  have hl1 := fun w' hk => le16_at (c := c) N hN hs hd o (by omega) w' hk
  have hl2 := fun w' hk => le16_at (c := c) N hN hs hd (o + 2) (by omega) w' hk
  have hl3 := fun w' hk => le16_at (c := c) N hN hs hd (o + 4) (by omega) w' hk
  have hs1b := num_two_lt hd o
  have hs2b := num_two_lt hd (o + 2)
  have hs3b := num_two_lt hd (o + 4)
  rcases h with h | ⟨s1, s2, s3, hs1, hs2, hs3, h⟩
  · exact absurd h h2
  rw [← hs1] at hl1 hs1b
  rw [← hs2] at hl2 hs2b
  rw [← hs3] at hl3 hs3b
  have hco : ¬ c = o := by omega
  have hco2 : ¬ c = o + 2 := by omega
  have hco4 : ¬ c = o + 4 := by omega
  have Hl1 := Lib.hid hl1
  have Hl2 := Lib.hid hl2
  have Hl3 := Lib.hid hl3
  have Hs := Lib.hid hs
  have Hd := Lib.hid hd
  have Hh := Lib.hid h
  have hos' : o + s ≤ N := by omega
  have hlen' : N < 2 ^ 24 := by omega
  have hc' : N ≤ c := by omega
  have h1' : ¬ N ≤ o + 5 := by omega
  have HN := Lib.hid hN
  rw [← hN]
  clear hl1 hl2 hl3 hs hd h hN hs1 hs2 hs3 hlen hc hos h1
  go_enter Tryd.func116, Tryd.ntmps116
  go_upto_region 6 with (fail)
  rw [Heci.out]
  go_upto_region 11 with (first
    | (go_at_call 117; (with_reducible refine (Hl1.out _ (Keep.refl _ _)).mono ?_); rintro e1 w1 ⟨rfl, hk1⟩)
    | (go_at_call 117; (with_reducible refine (Hl2.out _ hk1).mono ?_); rintro e1 w2 ⟨rfl, hk2⟩; have hk2' := hk1.trans hk2)
    | (go_at_call 117; (with_reducible refine (Hl3.out _ hk2').mono ?_); rintro e1 w3 ⟨rfl, hk3⟩; have hk3' := hk2'.trans hk3))
  rcases Hh.out with h | ⟨s4, hss, h⟩
  · have hle : ¬ (s1 : Int) + (s2 : Int) + (s3 : Int) ≤ (s : Int) - 6 := by omega
    have hle2 : (s : Int) - 6 < (s1 : Int) + (s2 : Int) + (s3 : Int) := by omega
    clear Hl1 Hl2 Hl3 h
    go_wp2_with (go_at_call 92; (with_reducible refine (Heof.out _ _ hk3').mono ?_); rintro e w4 ⟨v, ⟨vt, vx, rfl⟩, rfl, hk4⟩)
    go_ret2
    exact ⟨hk3'.trans hk4, _, _, rfl⟩
  have hs4 : s4 ≤ s := by omega
  have Hss := Lib.hid hss
  have hsi : (s : Int) = 6 + (s1 : Int) + (s2 : Int) + (s3 : Int) + (s4 : Int) := by omega
  have Hsi := Lib.hid hsi
  have hle : (s1 : Int) + (s2 : Int) + (s3 : Int) ≤ (s : Int) - 6 := by omega
  clear hsi hss
  have Hw := Lib.hid h
  clear h Hh
  go_upto_region 25 with (fail)
  obtain ⟨oh1, hoh1⟩ : ∃ x, x = o + 6 + s1 - 1 := ⟨_, rfl⟩
  obtain ⟨oh2, hoh2⟩ : ∃ x, x = o + 6 + s1 + s2 - 1 := ⟨_, rfl⟩
  obtain ⟨oh3, hoh3⟩ : ∃ x, x = o + 6 + s1 + s2 + s3 - 1 := ⟨_, rfl⟩
  obtain ⟨oh4, hoh4⟩ : ∃ x, x = o + 6 + s1 + s2 + s3 + s4 - 1 := ⟨_, rfl⟩
  rw [show (o : Int) + 6 - 1 + (s1 : Int) + (s2 : Int) + (s3 : Int) + ((s : Int) - 6 - ((s1 : Int) + (s2 : Int) + (s3 : Int))) = (oh4 : Int) by have := Hsi.out; omega,
    show (o : Int) + 6 - 1 + (s1 : Int) + (s2 : Int) + (s3 : Int) = (oh3 : Int) by omega, show (o : Int) + 6 - 1 + (s1 : Int) + (s2 : Int) = (oh2 : Int) by omega, show (o : Int) + 6 - 1 + (s1 : Int) = (oh1 : Int) by omega]
  obtain ⟨st1, hst1⟩ : ∃ x, x = o + 4 := ⟨_, rfl⟩
  obtain ⟨st2, hst2⟩ : ∃ x, x = o + 4 + s1 := ⟨_, rfl⟩
  obtain ⟨st3, hst3⟩ : ∃ x, x = o + 4 + s1 + s2 := ⟨_, rfl⟩
  obtain ⟨st4, hst4⟩ : ∃ x, x = o + 4 + s1 + s2 + s3 := ⟨_, rfl⟩
  have hi1 : (o : Int) + 6 - 2 = (st1 : Int) := by omega
  have hi2 : (oh1 : Int) + 1 - 2 = (st2 : Int) := by omega
  have hi3 : (oh2 : Int) + 1 - 2 = (st3 : Int) := by omega
  have hi4 : (oh3 : Int) + 1 - 2 = (st4 : Int) := by omega
  have hb1 : st1 ≤ 16777216 := by omega
  have hb2 : st2 ≤ 16777216 := by omega
  have hb3 : st3 ≤ 16777216 := by omega
  have hb4 : st4 ≤ 16777216 := by omega
  have hh1 : oh1 ≤ 16777216 := by omega
  have hh2 : oh2 ≤ 16777216 := by omega
  have hh3 : oh3 ≤ 16777216 := by omega
  have hh4 : oh4 ≤ 16777216 := by have := Hss.out; omega
  have hmk : ∀ (oh st k x : Nat), ds[oh]? = some x → 2 ^ k ≤ x → x < 2 ^ (k + 1) → st ≤ oh → ∀ w', Kept w w' → Calls Tryd.prog 72 #[.pointer (some ⟨rb, 0, none⟩), .slice (some ⟨g, o0, none⟩) N c, .int .i64 (oh : Int), .int .i64 (st : Int)] w' fun e w'' =>
      e = .returned (.tuple #[.agg #[.pointer (some ⟨rb, 0, none⟩), .slice (some ⟨g, o0, none⟩) N c, .int .u32 (oh : Int), .int .u32 (st : Int), .int .u32 (x : Int), .int .u32 (k : Int)], .nilIface]) ∧ Kept w' w'' := by
    intro oh st k x hx h1 h2 h3 w' hk
    have := makeRev_ok rb (some ⟨g, o0, none⟩) c ds oh st k x w' (Hs.out.kept hk) Hd.out (by rw [← HN.out]; omega) hx h1 h2 h3
    rw [← HN.out] at this
    exact this.mono fun _ _ h => ⟨h.1, h.2.2⟩
  have hno : ∀ (oh st : Nat), ds[oh]? = some 0 → ∀ w', Kept w w' → Calls Tryd.prog 72 #[.pointer (some ⟨rb, 0, none⟩), .slice (some ⟨g, o0, none⟩) N c, .int .i64 (oh : Int), .int .i64 (st : Int)] w' fun e w'' =>
      ∃ v, IsErr v ∧ e = .returned (.tuple #[.agg #[.pointer none, .slice none 0 0, .int .u32 0, .int .u32 0, .int .u32 0, .int .u32 0], v]) ∧ Kept w' w'' := by
    intro oh st hx w' hk
    have := makeRev_bad (B := B) rb (some ⟨g, o0, none⟩) c ds oh st w' (Hs.out.kept hk) hx (he.kept hk) (hr.kept hk)
    rw [← HN.out] at this
    exact this
  have Hmk := Lib.hid hmk
  have Hno := Lib.hid hno
  clear hmk hno
  have hw := Hw.out
  clear Hw he hr
  rcases hw with ⟨_, hx1⟩ | ⟨⟨h11, x1, k1, hx1, ha1, hc1⟩, hw⟩
  · rw [← hoh1] at hx1
    have Hx := Lib.hid hx1
    clear hx1 Hl1 Hl2 Hl3 hoh1 hoh2 hoh3 hoh4 hst1 hst2 hst3 hst4
    go_wp2_with (go_at_call 72; (with_reducible refine (Hno.out _ _ Hx.out _ hk3').mono ?_); rintro e1 w4 ⟨v, ⟨vt, vx, rfl⟩, rfl, hk4⟩)
    go_ret2
    exact ⟨(hk3'.trans hk4).alloc _, _, _, rfl⟩
  rw [← hoh1] at hx1
  have hm1 := Hmk.out oh1 st1 k1 x1 hx1 ha1 hc1 (by omega)
  have Hm1 := Lib.hid hm1
  clear hm1 hx1 ha1 hc1
  rcases hw with ⟨_, hx2⟩ | ⟨⟨h12, x2, k2, hx2, ha2, hc2⟩, hw⟩
  · rw [← hoh2] at hx2
    have Hx := Lib.hid hx2
    clear hx2 Hl1 Hl2 Hl3 hoh1 hoh2 hoh3 hoh4 hst1 hst2 hst3 hst4
    go_wp2_with (first
      | (go_at_call 72; (with_reducible refine (Hm1.out _ hk3').mono ?_); rintro e1 w4 ⟨rfl, hk4⟩; have hq4 := (hk3'.trans hk4).alloc (.cells #[.pointer (some ⟨rb, 0, none⟩), .slice (some ⟨g, o0, none⟩) N c, .int .u32 (oh1 : Int), .int .u32 (st1 : Int), .int .u32 (x1 : Int), .int .u32 (k1 : Int)] 167))
      | (go_at_call 72; (with_reducible refine (Hno.out _ _ Hx.out _ hq4).mono ?_); rintro e1 w5 ⟨v, ⟨vt, vx, rfl⟩, rfl, hk5⟩))
    go_ret2
    exact ⟨(hq4.trans hk5).alloc _, _, _, rfl⟩
  rw [← hoh2] at hx2
  have hm2 := Hmk.out oh2 st2 k2 x2 hx2 ha2 hc2 (by omega)
  have Hm2 := Lib.hid hm2
  clear hm2 hx2 ha2 hc2
  rcases hw with ⟨_, hx3⟩ | ⟨⟨h13, x3, k3, hx3, ha3, hc3⟩, _, hx4⟩
  · rw [← hoh3] at hx3
    have Hx := Lib.hid hx3
    clear hx3 Hl1 Hl2 Hl3 hoh1 hoh2 hoh3 hoh4 hst1 hst2 hst3 hst4
    go_wp2_with (first
      | (go_at_call 72; (with_reducible refine (Hm1.out _ hk3').mono ?_); rintro e1 w4 ⟨rfl, hk4⟩; have hq4 := (hk3'.trans hk4).alloc (.cells #[.pointer (some ⟨rb, 0, none⟩), .slice (some ⟨g, o0, none⟩) N c, .int .u32 (oh1 : Int), .int .u32 (st1 : Int), .int .u32 (x1 : Int), .int .u32 (k1 : Int)] 167))
      | (go_at_call 72; (with_reducible refine (Hm2.out _ hq4).mono ?_); rintro e1 w5 ⟨rfl, hk5⟩; have hq5 := (hq4.trans hk5).alloc (.cells #[.pointer (some ⟨rb, 0, none⟩), .slice (some ⟨g, o0, none⟩) N c, .int .u32 (oh2 : Int), .int .u32 (st2 : Int), .int .u32 (x2 : Int), .int .u32 (k2 : Int)] 167))
      | (go_at_call 72; (with_reducible refine (Hno.out _ _ Hx.out _ hq5).mono ?_); rintro e1 w6 ⟨v, ⟨vt, vx, rfl⟩, rfl, hk6⟩))
    go_ret2
    exact ⟨(hq5.trans hk6).alloc _, _, _, rfl⟩
  rw [← hoh3] at hx3
  rw [← hoh4] at hx4
  have hm3 := Hmk.out oh3 st3 k3 x3 hx3 ha3 hc3 (by omega)
  have Hm3 := Lib.hid hm3
  have Hx := Lib.hid hx4
  clear hm3 hx3 ha3 hc3 hx4 Hl1 Hl2 Hl3 hoh1 hoh2 hoh3 hoh4 hst1 hst2 hst3 hst4
  go_wp2_with (first
    | (go_at_call 72; (with_reducible refine (Hm1.out _ hk3').mono ?_); rintro e1 w4 ⟨rfl, hk4⟩; have hq4 := (hk3'.trans hk4).alloc (.cells #[.pointer (some ⟨rb, 0, none⟩), .slice (some ⟨g, o0, none⟩) N c, .int .u32 (oh1 : Int), .int .u32 (st1 : Int), .int .u32 (x1 : Int), .int .u32 (k1 : Int)] 167))
    | (go_at_call 72; (with_reducible refine (Hm2.out _ hq4).mono ?_); rintro e1 w5 ⟨rfl, hk5⟩; have hq5 := (hq4.trans hk5).alloc (.cells #[.pointer (some ⟨rb, 0, none⟩), .slice (some ⟨g, o0, none⟩) N c, .int .u32 (oh2 : Int), .int .u32 (st2 : Int), .int .u32 (x2 : Int), .int .u32 (k2 : Int)] 167))
    | (go_at_call 72; (with_reducible refine (Hm3.out _ hq5).mono ?_); rintro e1 w6 ⟨rfl, hk6⟩; have hq6 := (hq5.trans hk6).alloc (.cells #[.pointer (some ⟨rb, 0, none⟩), .slice (some ⟨g, o0, none⟩) N c, .int .u32 (oh3 : Int), .int .u32 (st3 : Int), .int .u32 (x3 : Int), .int .u32 (k3 : Int)] 167))
    | (go_at_call 72; (with_reducible refine (Hno.out _ _ Hx.out _ hq6).mono ?_); rintro e1 w7 ⟨v, ⟨vt, vx, rfl⟩, rfl, hk7⟩))
  go_ret2
  exact ⟨(hq6.trans hk7).alloc _, _, _, rfl⟩
end

section
theorem num1 {ds : List Nat} {a : Nat} (h0 : ds[0]? = some a) : num (ds.take 1) = a := by rw [num_push h0]; simp [num]
theorem num2 {ds : List Nat} {a b : Nat} (h0 : ds[0]? = some a) (h1 : ds[1]? = some b) : num (ds.take 2) = a + 256 * b := by rw [num_push h1, num1 h0]; omega
theorem num3 {ds : List Nat} {a b c : Nat} (h0 : ds[0]? = some a) (h1 : ds[1]? = some b) (h2 : ds[2]? = some c) : num (ds.take 3) = a + 256 * b + 65536 * c := by rw [num_push h2, num2 h0 h1]; omega
theorem num4 {ds : List Nat} {a b c d : Nat} (h0 : ds[0]? = some a) (h1 : ds[1]? = some b) (h2 : ds[2]? = some c) (h3 : ds[3]? = some d) : num (ds.take 4) = a + 256 * b + 65536 * c + 16777216 * d := by rw [num_push h3, num3 h0 h1 h2]; omega
theorem num5 {ds : List Nat} {a b c d e : Nat} (h0 : ds[0]? = some a) (h1 : ds[1]? = some b) (h2 : ds[2]? = some c) (h3 : ds[3]? = some d) (h4 : ds[4]? = some e) : num (ds.take 5) = a + 256 * b + 65536 * c + 16777216 * d + 4294967296 * e := by
  rw [num_push h4, num4 h0 h1 h2 h3]
  have : (2 : Nat) ^ (8 * 4) = 4294967296 := by decide
  omega

/-- What readers of literals hand back. -/
def LitPost (S : Nat → Prop) (w : World) (v : Nat × List Nat × Nat) (e : Ending) (w' : World) : Prop :=
  Keep S w w' ∧ (v.1 = 1 → ∃ A' n c', Hid (n = v.2.1.length) ∧ e = .returned (.tuple #[.int .i64 ((v.2.2 : Nat) : Int), .slice A' n c', .nilIface]) ∧ w'.ownsRow w.heap.size 5 1 (.slice A' n c') n (u8s v.2.1)) ∧
    (v.1 = 2 → ∃ t x, e = .returned (.tuple #[.int .i64 0, .slice none 0 0, .iface t x]))

theorem and_u8_3 {a : Nat} (h : a < 256) : Go.bits .and .u8 (a : Int) 3 = ((a % 4 : Nat) : Int) := by
  have e : Go.bits .and .u8 (a : Int) ((3 : Nat) : Int) = ((a &&& 3 : Nat) : Int) := u8_and_nat a 3 h (by decide)
  have e2 : a &&& 3 = a % 2 ^ 2 := and_mask a 2
  rw [e2] at e
  exact e

theorem size158 (w : World) : (sizeOf (Tryd.prog.elem 158)).run Tryd.prog w = .ok 1 w := by kernel_rfl
theorem run_part (A : Option Addr) (n c k s : Nat) (hk : k + s ≤ n) (hc : n ≤ c) (w : World) :
    Sem.run Tryd.prog (Instr.sliceAt 158 (.slice A n c) (some (.int .i64 (k : Int))) (some (.int .i64 ((k : Int) + (s : Int)))) none) w = .ok (.slice (if c = k then A else A.map (·.add (k * 1))) s (c - k)) w := by
  have ht : Tryd.prog.underlying 158 = some (.slice (Tryd.prog.elem 158)) := by kernel_rfl
  rw [run_sliceAt_slice w 158 _ _ _ _ ht, run_slice_lh w 158 A n c ht .i64 .i64 k (k + s) (by omega) (by omega) (by omega), size158]
  simp [Result.andThen, sliced]
  omega

set_option maxHeartbeats 4000000 in
set_option maxRecDepth 4000 in
theorem rawLit_any {R : Nat → Prop} {B : Nat} (rb : Nat) (A : Option Addr) (c : Nat) (ds : List Nat) (h : Nat) (w : World) (hs : Sl w R A (u8s ds)) (hRw : ∀ k, R k → k < w.heap.size) (he : Errs B w) (hr : RdOff w rb) (hd : Bytes ds) (hlen : ds.length < 2 ^ 24) (hc : ds.length ≤ c)
    (h0 : ds[0]? = some h) (hk2 : h % 4 < 2) :
    Calls Tryd.prog 106 #[.pointer (some ⟨rb, 0, none⟩), .slice A ds.length c, .int .i64 1, .int .u8 (h : Int), .slice none 0 0] w (LitPost (fun _ => False) w (litR ds (h % 4) (h / 4 % 4))) := by
  have h256 := hd h (List.mem_of_getElem? h0)
  have hl0 := (List.getElem?_eq_some_iff.1 h0).1
  obtain ⟨g, o, hRg, rfl, hcell⟩ := hs.get (by simp; omega)
  have heof := fun (x : Int) w' (hk : Kept w w') => makeEOFError (B := B) rb x w' (he.kept hk) (hr.kept hk)
  have herr := fun (x : Int) (t : ByteArray) w' (hk : Kept w w') => makeError (B := B) rb x t w' (he.kept hk) (hr.kept hk)
  have Heof := Lib.hid heof
  have Herr := Lib.hid herr
  obtain ⟨k, hk⟩ : ∃ k, k = h % 4 := ⟨_, rfl⟩
  obtain ⟨f, hf⟩ : ∃ f, f = h / 4 % 4 := ⟨_, rfl⟩
  have hb1 : Go.bits .and .u8 (h : Int) 3 = (k : Int) := by rw [hk]; exact and_u8_3 h256
  have hb2 : Go.bits .and .u8 ((h : Int) / 4) 3 = (f : Int) := by
    have := and_u8_3 (a := h / 4) (by omega)
    rw [← hf] at this
    have e : ((h / 4 : Nat) : Int) = (h : Int) / 4 := by omega
    rw [e] at this
    exact this
  have hbyte : ∀ j, j < ds.length → ∃ x, ds[j]? = some x ∧ x < 256 ∧ w.cell? ⟨g, o + j, none⟩ = some (.int .u8 (x : Int)) := fun j hj =>
    ⟨ds.getD j 0, by rw [List.getD_eq_getElem?_getD, List.getElem?_eq_getElem hj]; rfl, hd.getD j, hcell j _ (u8s_at hj)⟩
  obtain ⟨N, hN⟩ : ∃ N, N = ds.length := ⟨_, rfl⟩
  have Hbyte := Lib.hid hbyte
  have Hs := Lib.hid hs
  have Hd := Lib.hid hd
  have HRw := Lib.hid hRw
  have H0 := Lib.hid h0
  have hk1 : k ≤ 1 := by omega
  have hf4 : f < 4 := by omega
  rw [← hk, ← hf]
  rw [← hN] at hlen hc hl0 ⊢
  have HN := Lib.hid hN
  clear heof herr hbyte hs hd hRw h0 he hr hcell hN
  have hh8 : (h : Int) / 8 ≤ 31 := by omega
  by_cases hshort : N < hd1 f
  · have hlr : (litR ds k f).1 = 2 := by unfold litR; rw [if_pos (by rw [← HN.out]; exact hshort)]
    have hf13 : (f = 1 ∧ N ≤ 1) ∨ (f = 3 ∧ N ≤ 2) := by
      have h4 : f = 0 ∨ f = 1 ∨ f = 2 ∨ f = 3 := by omega
      rcases h4 with rfl | rfl | rfl | rfl
      · have e : hd1 0 = 1 := rfl
        omega
      · have e : hd1 1 = 2 := rfl
        exact .inl ⟨rfl, by omega⟩
      · have e : hd1 2 = 1 := rfl
        omega
      · have e : hd1 3 = 3 := rfl
        exact .inr ⟨rfl, by omega⟩
    have Hlr := Lib.hid hlr
    clear hlr hshort hf
    rcases hf13 with ⟨rfl, hn⟩ | ⟨rfl, hn⟩
    all_goals
      go_enter Tryd.func106, Tryd.ntmps106
      go_wp2_with (go_at_call 92; (with_reducible refine (Heof.out _ _ (Keep.refl _ _)).mono ?_); rintro e w1 ⟨v, ⟨vt, vx, rfl⟩, rfl, hk1⟩)
      go_ret3
      exact ⟨hk1, fun h => by rw [Hlr.out] at h; omega, fun _ => ⟨_, _, rfl⟩⟩
  · obtain ⟨S, hS⟩ : ∃ S, S = raws ds f := ⟨_, rfl⟩
    obtain ⟨o1, ho1⟩ : ∃ x, x = hd1 f := ⟨_, rfl⟩
    have ho1N : o1 ≤ N := by rw [ho1]; exact Nat.le_of_not_lt hshort
    have hlr : litR ds k f = if 131072 < S then (0, [], 0) else if k = 1 then (if N < o1 + 1 then (2, [], 0) else (1, List.replicate S (ds.getD o1 0), o1 + 1)) else if N < o1 + S then (2, [], 0) else (1, (ds.drop o1).take S, o1 + S) := by
      unfold litR
      rw [← HN.out, if_neg hshort, ← hS, ← ho1]
    have Hlr := Lib.hid hlr
    obtain ⟨b0, hb0, _, hc0⟩ := Hbyte.out 0 (by rw [← HN.out]; omega)
    obtain rfl : b0 = h := Option.some.inj (hb0.symm.trans H0.out)
    have h4 : f = 0 ∨ f = 1 ∨ f = 2 ∨ f = 3 := by omega
    have hki : (b0 : Int) % 4 = (k : Int) := by omega
    clear hlr hf hk
    go_enter Tryd.func106, Tryd.ntmps106
    rcases h4 with rfl | rfl | rfl | rfl
    -- ARMS
    -- ARMS
    -- ARMS
    -- ARMS
    -- ARMS
    · have hSi : (b0 : Int) / 8 = (S : Int) := by
        have e : num (ds.take (hd1 0)) = b0 := num1 hb0
        have e2 : (2 : Nat) ^ sh1 0 = 8 := by decide
        have e3 : S = b0 / 8 := by rw [hS, raws, e, e2]
        omega
      have ho : o1 = 1 := ho1
      subst ho
      clear hS ho1 hb0 hshort
      go_upto_region 17 with (fail)
      by_cases hbig : 131072 < S
      · exfalso; omega
      have hk01 : k = 0 ∨ k = 1 := by omega
      rcases hk01 with rfl | rfl
      · have hr : ((b0 : Int) % 4 == 0) = true := by rw [hki]; rfl
        by_cases hfit : N < 1 + S
        · clear Hbyte
          go_wp2_with (go_at_call 93; (with_reducible refine (Herr.out _ _ _ (Keep.refl _ _)).mono ?_); rintro e w1 ⟨v, ⟨vt, vx, rfl⟩, rfl, hk1⟩)
          go_ret3
          rw [Hlr.out, if_neg hbig, if_neg (show ¬ (0 : Nat) = 1 by decide), if_pos hfit]
          exact ⟨hk1, fun h => (by cases h), fun _ => ⟨_, _, rfl⟩⟩
        · have hpart : Sl w R (if c = 1 then some (⟨g, o, none⟩ : Addr) else (some (⟨g, o, none⟩ : Addr)).map (·.add (1 * 1))) (u8s ((ds.drop 1).take S)) := (Hs.out.back (c := c) (k := 1) (by rw [← HN.out]; exact hc)).firsts S
          have hrun : ∀ w', Sem.run Tryd.prog (Instr.sliceAt 158 (.slice (some ⟨g, o, none⟩) N c) (some (.int .i64 1)) (some (.int .i64 ((1 : Int) + (S : Int)))) none) w' = .ok (.slice (if c = 1 then some (⟨g, o, none⟩ : Addr) else (some (⟨g, o, none⟩ : Addr)).map (·.add (1 * 1))) S (c - 1)) w' := fun w' => run_part (some ⟨g, o, none⟩) N c 1 S (by omega) hc w'
          generalize (if c = 1 then some (⟨g, o, none⟩ : Addr) else (some (⟨g, o, none⟩ : Addr)).map (·.add (1 * 1))) = E at hpart hrun
          have hpl : ((ds.drop 1).take S).length = S := by rw [List.length_take, List.length_drop, ← HN.out]; omega
          have Hpl := Lib.hid hpl
          have Hpart := Lib.hid hpart
          clear Hbyte hpl hpart
          go_wp2_with (at_builtin; refine wpList_append rfl _ _ rfl elByte (Keep.refl (fun _ => False) _) none 0 0 [] rfl (World.ownsRow_nil _ _ _ _) S (u8s ((ds.drop 1).take S)) _ rfl (src_sl Tryd.underlying158 (Hpart.out.kept (Keep.refl _ _)) S (c - 1) (by rw [u8s_length, Hpl.out, Nat.mul_one]) (u8s_one _)) (by omega) ?_; intro A2 c2 w2 ho2 hk2 hg2; simp only [Nat.zero_add, List.nil_append] at ho2)
          go_ret3
          rw [Hlr.out, if_neg hbig, if_neg (show ¬ (0 : Nat) = 1 by decide), if_neg hfit]
          exact ⟨hk2, fun _ => ⟨A2, S, c2, Hpl.out.symm, rfl, ho2⟩, fun h => (by cases h)⟩
      · have hr : ((b0 : Int) % 4 == 0) = false := by rw [hki]; rfl
        by_cases hfit : N < 1 + 1
        · clear Hbyte
          go_wp2_with (go_at_call 93; (with_reducible refine (Herr.out _ _ _ (Keep.refl _ _)).mono ?_); rintro e w1 ⟨v, ⟨vt, vx, rfl⟩, rfl, hk1⟩)
          go_ret3
          rw [Hlr.out, if_neg hbig, if_pos trivial, if_pos hfit]
          exact ⟨hk1, fun h => (by cases h), fun _ => ⟨_, _, rfl⟩⟩
        · obtain ⟨x, hx, hx256, hcx⟩ := Hbyte.out 1 (by rw [← HN.out]; omega)
          have hxd : ds.getD 1 0 = x := by rw [List.getD_eq_getElem?_getD, hx]; rfl
          have Hxd := Lib.hid hxd
          have hON : 1 < N := by omega
          clear Hbyte hxd hx
          go_wp2
          go_loopg [4, 16] (S + 1) (fun gg s4 s16 wr => ∃ (i : Nat) (A' : Option Addr) (c' : Nat), S - i < gg ∧ i ≤ S ∧ s16 = .int .i64 i ∧ s4 = .slice A' i c' ∧ wr.ownsRow w.heap.size 5 1 (.slice A' i c') i (u8s (List.replicate i x)) ∧ Kept w wr)
          case atStart => exact ⟨0, none, 0, by omega, by omega, rfl, rfl, World.ownsRow_nil _ _ _ _, (Keep.refl _ _)⟩
          case round =>
            obtain ⟨i, A', c', q1, q2, rfl, rfl, qo, qk⟩ := hrel
            by_cases hlt : i < S
            · go_wp2_with (at_builtin; refine wpList_push rfl _ _ rfl elByte qk A' i c' _ rfl qo [.int .u8 (x : Int)] rfl rfl (by simp [Value.oneCell']) (by omega) ?_; intro A2 c2 w2 ho2 hk2 hg2)
              go_roundg (S - i)
              case measure => exact q1
              case rel => exact ⟨i + 1, A2, c2, by omega, by omega, rfl, rfl, by rw [List.replicate_succ']; simpa [u8s] using ho2, hk2⟩
            · obtain rfl : S = i := by omega
              go_wp2
              go_ret3
              rw [Hlr.out, if_neg hbig, if_pos trivial, if_neg hfit, Hxd.out]
              exact ⟨qk, fun _ => ⟨A', S, c', (List.length_replicate ..).symm, rfl, qo⟩, fun h => (by cases h)⟩
    · have ho : o1 = 2 := ho1
      subst ho
      obtain ⟨b1, hb1', h1256, hc1⟩ := Hbyte.out 1 (by rw [← HN.out]; omega)
      have hSi : (b0 : Int) / 16 + (b1 : Int) * 16 = (S : Int) := by
        have e : num (ds.take (hd1 1)) = b0 + 256 * b1 := num2 hb0 hb1'
        have e2 : (2 : Nat) ^ sh1 1 = 16 := by decide
        have e3 : S = (b0 + 256 * b1) / 16 := by rw [hS, raws, e, e2]
        omega
      have hN1 : 1 < N := by omega
      have hSb : S ≤ 4096 := by omega
      clear hS ho1 hb0 hb1' hshort
      go_upto_region 17 with (fail)
      by_cases hbig : 131072 < S
      · exfalso; omega
      have hk01 : k = 0 ∨ k = 1 := by omega
      rcases hk01 with rfl | rfl
      · have hr : ((b0 : Int) % 4 == 0) = true := by rw [hki]; rfl
        by_cases hfit : N < 2 + S
        · clear Hbyte
          go_wp2_with (go_at_call 93; (with_reducible refine (Herr.out _ _ _ (Keep.refl _ _)).mono ?_); rintro e w1 ⟨v, ⟨vt, vx, rfl⟩, rfl, hk1⟩)
          go_ret3
          rw [Hlr.out, if_neg hbig, if_neg (show ¬ (0 : Nat) = 1 by decide), if_pos hfit]
          exact ⟨hk1, fun h => (by cases h), fun _ => ⟨_, _, rfl⟩⟩
        · have hpart : Sl w R (if c = 2 then some (⟨g, o, none⟩ : Addr) else (some (⟨g, o, none⟩ : Addr)).map (·.add (2 * 1))) (u8s ((ds.drop 2).take S)) := (Hs.out.back (c := c) (k := 2) (by rw [← HN.out]; exact hc)).firsts S
          have hrun : ∀ w', Sem.run Tryd.prog (Instr.sliceAt 158 (.slice (some ⟨g, o, none⟩) N c) (some (.int .i64 2)) (some (.int .i64 ((2 : Int) + (S : Int)))) none) w' = .ok (.slice (if c = 2 then some (⟨g, o, none⟩ : Addr) else (some (⟨g, o, none⟩ : Addr)).map (·.add (2 * 1))) S (c - 2)) w' := fun w' => run_part (some ⟨g, o, none⟩) N c 2 S (by omega) hc w'
          generalize (if c = 2 then some (⟨g, o, none⟩ : Addr) else (some (⟨g, o, none⟩ : Addr)).map (·.add (2 * 1))) = E at hpart hrun
          have hpl : ((ds.drop 2).take S).length = S := by rw [List.length_take, List.length_drop, ← HN.out]; omega
          have Hpl := Lib.hid hpl
          have Hpart := Lib.hid hpart
          clear Hbyte hpl hpart
          go_wp2_with (at_builtin; refine wpList_append rfl _ _ rfl elByte (Keep.refl (fun _ => False) _) none 0 0 [] rfl (World.ownsRow_nil _ _ _ _) S (u8s ((ds.drop 2).take S)) _ rfl (src_sl Tryd.underlying158 (Hpart.out.kept (Keep.refl _ _)) S (c - 2) (by rw [u8s_length, Hpl.out, Nat.mul_one]) (u8s_one _)) (by omega) ?_; intro A2 c2 w2 ho2 hk2 hg2; simp only [Nat.zero_add, List.nil_append] at ho2)
          go_ret3
          rw [Hlr.out, if_neg hbig, if_neg (show ¬ (0 : Nat) = 1 by decide), if_neg hfit]
          exact ⟨hk2, fun _ => ⟨A2, S, c2, Hpl.out.symm, rfl, ho2⟩, fun h => (by cases h)⟩
      · have hr : ((b0 : Int) % 4 == 0) = false := by rw [hki]; rfl
        by_cases hfit : N < 2 + 1
        · clear Hbyte
          go_wp2_with (go_at_call 93; (with_reducible refine (Herr.out _ _ _ (Keep.refl _ _)).mono ?_); rintro e w1 ⟨v, ⟨vt, vx, rfl⟩, rfl, hk1⟩)
          go_ret3
          rw [Hlr.out, if_neg hbig, if_pos trivial, if_pos hfit]
          exact ⟨hk1, fun h => (by cases h), fun _ => ⟨_, _, rfl⟩⟩
        · obtain ⟨x, hx, hx256, hcx⟩ := Hbyte.out 2 (by rw [← HN.out]; omega)
          have hxd : ds.getD 2 0 = x := by rw [List.getD_eq_getElem?_getD, hx]; rfl
          have Hxd := Lib.hid hxd
          have hON : 2 < N := by omega
          clear Hbyte hxd hx
          go_wp2
          go_loopg [4, 16] (S + 1) (fun gg s4 s16 wr => ∃ (i : Nat) (A' : Option Addr) (c' : Nat), S - i < gg ∧ i ≤ S ∧ s16 = .int .i64 i ∧ s4 = .slice A' i c' ∧ wr.ownsRow w.heap.size 5 1 (.slice A' i c') i (u8s (List.replicate i x)) ∧ Kept w wr)
          case atStart => exact ⟨0, none, 0, by omega, by omega, rfl, rfl, World.ownsRow_nil _ _ _ _, (Keep.refl _ _)⟩
          case round =>
            obtain ⟨i, A', c', q1, q2, rfl, rfl, qo, qk⟩ := hrel
            by_cases hlt : i < S
            · go_wp2_with (at_builtin; refine wpList_push rfl _ _ rfl elByte qk A' i c' _ rfl qo [.int .u8 (x : Int)] rfl rfl (by simp [Value.oneCell']) (by omega) ?_; intro A2 c2 w2 ho2 hk2 hg2)
              go_roundg (S - i)
              case measure => exact q1
              case rel => exact ⟨i + 1, A2, c2, by omega, by omega, rfl, rfl, by rw [List.replicate_succ']; simpa [u8s] using ho2, hk2⟩
            · obtain rfl : S = i := by omega
              go_wp2
              go_ret3
              rw [Hlr.out, if_neg hbig, if_pos trivial, if_neg hfit, Hxd.out]
              exact ⟨qk, fun _ => ⟨A', S, c', (List.length_replicate ..).symm, rfl, qo⟩, fun h => (by cases h)⟩
    · have hSi : (b0 : Int) / 8 = (S : Int) := by
        have e : num (ds.take (hd1 2)) = b0 := num1 hb0
        have e2 : (2 : Nat) ^ sh1 2 = 8 := by decide
        have e3 : S = b0 / 8 := by rw [hS, raws, e, e2]
        omega
      have ho : o1 = 1 := ho1
      subst ho
      clear hS ho1 hb0 hshort
      go_upto_region 17 with (fail)
      by_cases hbig : 131072 < S
      · exfalso; omega
      have hk01 : k = 0 ∨ k = 1 := by omega
      rcases hk01 with rfl | rfl
      · have hr : ((b0 : Int) % 4 == 0) = true := by rw [hki]; rfl
        by_cases hfit : N < 1 + S
        · clear Hbyte
          go_wp2_with (go_at_call 93; (with_reducible refine (Herr.out _ _ _ (Keep.refl _ _)).mono ?_); rintro e w1 ⟨v, ⟨vt, vx, rfl⟩, rfl, hk1⟩)
          go_ret3
          rw [Hlr.out, if_neg hbig, if_neg (show ¬ (0 : Nat) = 1 by decide), if_pos hfit]
          exact ⟨hk1, fun h => (by cases h), fun _ => ⟨_, _, rfl⟩⟩
        · have hpart : Sl w R (if c = 1 then some (⟨g, o, none⟩ : Addr) else (some (⟨g, o, none⟩ : Addr)).map (·.add (1 * 1))) (u8s ((ds.drop 1).take S)) := (Hs.out.back (c := c) (k := 1) (by rw [← HN.out]; exact hc)).firsts S
          have hrun : ∀ w', Sem.run Tryd.prog (Instr.sliceAt 158 (.slice (some ⟨g, o, none⟩) N c) (some (.int .i64 1)) (some (.int .i64 ((1 : Int) + (S : Int)))) none) w' = .ok (.slice (if c = 1 then some (⟨g, o, none⟩ : Addr) else (some (⟨g, o, none⟩ : Addr)).map (·.add (1 * 1))) S (c - 1)) w' := fun w' => run_part (some ⟨g, o, none⟩) N c 1 S (by omega) hc w'
          generalize (if c = 1 then some (⟨g, o, none⟩ : Addr) else (some (⟨g, o, none⟩ : Addr)).map (·.add (1 * 1))) = E at hpart hrun
          have hpl : ((ds.drop 1).take S).length = S := by rw [List.length_take, List.length_drop, ← HN.out]; omega
          have Hpl := Lib.hid hpl
          have Hpart := Lib.hid hpart
          clear Hbyte hpl hpart
          go_wp2_with (at_builtin; refine wpList_append rfl _ _ rfl elByte (Keep.refl (fun _ => False) _) none 0 0 [] rfl (World.ownsRow_nil _ _ _ _) S (u8s ((ds.drop 1).take S)) _ rfl (src_sl Tryd.underlying158 (Hpart.out.kept (Keep.refl _ _)) S (c - 1) (by rw [u8s_length, Hpl.out, Nat.mul_one]) (u8s_one _)) (by omega) ?_; intro A2 c2 w2 ho2 hk2 hg2; simp only [Nat.zero_add, List.nil_append] at ho2)
          go_ret3
          rw [Hlr.out, if_neg hbig, if_neg (show ¬ (0 : Nat) = 1 by decide), if_neg hfit]
          exact ⟨hk2, fun _ => ⟨A2, S, c2, Hpl.out.symm, rfl, ho2⟩, fun h => (by cases h)⟩
      · have hr : ((b0 : Int) % 4 == 0) = false := by rw [hki]; rfl
        by_cases hfit : N < 1 + 1
        · clear Hbyte
          go_wp2_with (go_at_call 93; (with_reducible refine (Herr.out _ _ _ (Keep.refl _ _)).mono ?_); rintro e w1 ⟨v, ⟨vt, vx, rfl⟩, rfl, hk1⟩)
          go_ret3
          rw [Hlr.out, if_neg hbig, if_pos trivial, if_pos hfit]
          exact ⟨hk1, fun h => (by cases h), fun _ => ⟨_, _, rfl⟩⟩
        · obtain ⟨x, hx, hx256, hcx⟩ := Hbyte.out 1 (by rw [← HN.out]; omega)
          have hxd : ds.getD 1 0 = x := by rw [List.getD_eq_getElem?_getD, hx]; rfl
          have Hxd := Lib.hid hxd
          have hON : 1 < N := by omega
          clear Hbyte hxd hx
          go_wp2
          go_loopg [4, 16] (S + 1) (fun gg s4 s16 wr => ∃ (i : Nat) (A' : Option Addr) (c' : Nat), S - i < gg ∧ i ≤ S ∧ s16 = .int .i64 i ∧ s4 = .slice A' i c' ∧ wr.ownsRow w.heap.size 5 1 (.slice A' i c') i (u8s (List.replicate i x)) ∧ Kept w wr)
          case atStart => exact ⟨0, none, 0, by omega, by omega, rfl, rfl, World.ownsRow_nil _ _ _ _, (Keep.refl _ _)⟩
          case round =>
            obtain ⟨i, A', c', q1, q2, rfl, rfl, qo, qk⟩ := hrel
            by_cases hlt : i < S
            · go_wp2_with (at_builtin; refine wpList_push rfl _ _ rfl elByte qk A' i c' _ rfl qo [.int .u8 (x : Int)] rfl rfl (by simp [Value.oneCell']) (by omega) ?_; intro A2 c2 w2 ho2 hk2 hg2)
              go_roundg (S - i)
              case measure => exact q1
              case rel => exact ⟨i + 1, A2, c2, by omega, by omega, rfl, rfl, by rw [List.replicate_succ']; simpa [u8s] using ho2, hk2⟩
            · obtain rfl : S = i := by omega
              go_wp2
              go_ret3
              rw [Hlr.out, if_neg hbig, if_pos trivial, if_neg hfit, Hxd.out]
              exact ⟨qk, fun _ => ⟨A', S, c', (List.length_replicate ..).symm, rfl, qo⟩, fun h => (by cases h)⟩
    · have ho : o1 = 3 := ho1
      subst ho
      obtain ⟨b1, hb1', h1256, hc1⟩ := Hbyte.out 1 (by rw [← HN.out]; omega)
      obtain ⟨b2, hb2', h2256, hc2⟩ := Hbyte.out 2 (by rw [← HN.out]; omega)
      have hSi : (b0 : Int) / 16 + (b1 : Int) * 16 + (b2 : Int) * 4096 = (S : Int) := by
        have e : num (ds.take (hd1 3)) = b0 + 256 * b1 + 65536 * b2 := num3 hb0 hb1' hb2'
        have e2 : (2 : Nat) ^ sh1 3 = 16 := by decide
        have e3 : S = (b0 + 256 * b1 + 65536 * b2) / 16 := by rw [hS, raws, e, e2]
        omega
      have hN1 : 1 < N := by omega
      have hN2 : 2 < N := by omega
      have v1 : IntKind.i64.wrap ((b1 : Int) * 16) = (b1 : Int) * 16 := by rw [IntKind.wrap_i64]; omega
      have v2 : IntKind.i64.wrap ((b2 : Int) * 4096) = (b2 : Int) * 4096 := by rw [IntKind.wrap_i64]; omega
      have v3 : IntKind.i64.wrap ((b0 : Int) / 16 + (b1 : Int) * 16) = (b0 : Int) / 16 + (b1 : Int) * 16 := by rw [IntKind.wrap_i64]; omega
      have v4 : IntKind.i64.wrap (S : Int) = (S : Int) := by rw [IntKind.wrap_i64]; omega
      clear hS ho1 hb0 hb1' hb2' hshort
      go_upto_region 15 with (fail)
      go_quiet (fail)
      obtain ⟨W, hW⟩ : ∃ x, x = w.drewN nq := ⟨_, rfl⟩
      have hkW : Kept w W := by rw [hW]; exact (Keep.refl _ _).drewN _
      rw [← hW]
      clear hW v1 v2 v3 v4 hSi
      go_upto_region 17 with (fail)
      by_cases hbig : 131072 < S
      · clear Hbyte
        go_wp2_with (go_at_call 93; (with_reducible refine (Herr.out _ _ _ hkW).mono ?_); rintro e w1 ⟨v, ⟨vt, vx, rfl⟩, rfl, hk1⟩)
        go_ret3
        rw [Hlr.out, if_pos hbig]
        exact ⟨hkW.trans hk1, fun h => (by cases h), fun h => (by cases h)⟩
      have hk01 : k = 0 ∨ k = 1 := by omega
      rcases hk01 with rfl | rfl
      · have hr : ((b0 : Int) % 4 == 0) = true := by rw [hki]; rfl
        by_cases hfit : N < 3 + S
        · clear Hbyte
          go_wp2_with (go_at_call 93; (with_reducible refine (Herr.out _ _ _ hkW).mono ?_); rintro e w1 ⟨v, ⟨vt, vx, rfl⟩, rfl, hk1⟩)
          go_ret3
          rw [Hlr.out, if_neg hbig, if_neg (show ¬ (0 : Nat) = 1 by decide), if_pos hfit]
          exact ⟨hkW.trans hk1, fun h => (by cases h), fun _ => ⟨_, _, rfl⟩⟩
        · have hpart : Sl w R (if c = 3 then some (⟨g, o, none⟩ : Addr) else (some (⟨g, o, none⟩ : Addr)).map (·.add (3 * 1))) (u8s ((ds.drop 3).take S)) := (Hs.out.back (c := c) (k := 3) (by rw [← HN.out]; exact hc)).firsts S
          have hrun : ∀ w', Sem.run Tryd.prog (Instr.sliceAt 158 (.slice (some ⟨g, o, none⟩) N c) (some (.int .i64 3)) (some (.int .i64 ((3 : Int) + (S : Int)))) none) w' = .ok (.slice (if c = 3 then some (⟨g, o, none⟩ : Addr) else (some (⟨g, o, none⟩ : Addr)).map (·.add (3 * 1))) S (c - 3)) w' := fun w' => run_part (some ⟨g, o, none⟩) N c 3 S (by omega) hc w'
          generalize (if c = 3 then some (⟨g, o, none⟩ : Addr) else (some (⟨g, o, none⟩ : Addr)).map (·.add (3 * 1))) = E at hpart hrun
          have hpl : ((ds.drop 3).take S).length = S := by rw [List.length_take, List.length_drop, ← HN.out]; omega
          have Hpl := Lib.hid hpl
          have Hpart := Lib.hid hpart
          clear Hbyte hpl hpart
          go_wp2_with (at_builtin; refine wpList_append rfl _ _ rfl elByte hkW none 0 0 [] rfl (World.ownsRow_nil _ _ _ _) S (u8s ((ds.drop 3).take S)) _ rfl (src_sl Tryd.underlying158 (Hpart.out.kept hkW) S (c - 3) (by rw [u8s_length, Hpl.out, Nat.mul_one]) (u8s_one _)) (by omega) ?_; intro A2 c2 w2 ho2 hk2 hg2; simp only [Nat.zero_add, List.nil_append] at ho2)
          go_ret3
          rw [Hlr.out, if_neg hbig, if_neg (show ¬ (0 : Nat) = 1 by decide), if_neg hfit]
          exact ⟨hk2, fun _ => ⟨A2, S, c2, Hpl.out.symm, rfl, ho2⟩, fun h => (by cases h)⟩
      · have hr : ((b0 : Int) % 4 == 0) = false := by rw [hki]; rfl
        by_cases hfit : N < 3 + 1
        · clear Hbyte
          go_wp2_with (go_at_call 93; (with_reducible refine (Herr.out _ _ _ hkW).mono ?_); rintro e w1 ⟨v, ⟨vt, vx, rfl⟩, rfl, hk1⟩)
          go_ret3
          rw [Hlr.out, if_neg hbig, if_pos trivial, if_pos hfit]
          exact ⟨hkW.trans hk1, fun h => (by cases h), fun _ => ⟨_, _, rfl⟩⟩
        · obtain ⟨x, hx, hx256, hcx⟩ := Hbyte.out 3 (by rw [← HN.out]; omega)
          have hxd : ds.getD 3 0 = x := by rw [List.getD_eq_getElem?_getD, hx]; rfl
          have Hxd := Lib.hid hxd
          have hON : 3 < N := by omega
          have hcx3 := hkW.cell hcx (fun h => h)
          clear Hbyte hxd hx
          go_wp2
          go_loopg [4, 16] (S + 1) (fun gg s4 s16 wr => ∃ (i : Nat) (A' : Option Addr) (c' : Nat), S - i < gg ∧ i ≤ S ∧ s16 = .int .i64 i ∧ s4 = .slice A' i c' ∧ wr.ownsRow w.heap.size 5 1 (.slice A' i c') i (u8s (List.replicate i x)) ∧ Kept w wr)
          case atStart => exact ⟨0, none, 0, by omega, by omega, rfl, rfl, World.ownsRow_nil _ _ _ _, hkW⟩
          case round =>
            obtain ⟨i, A', c', q1, q2, rfl, rfl, qo, qk⟩ := hrel
            by_cases hlt : i < S
            · go_wp2_with (at_builtin; refine wpList_push rfl _ _ rfl elByte qk A' i c' _ rfl qo [.int .u8 (x : Int)] rfl rfl (by simp [Value.oneCell']) (by omega) ?_; intro A2 c2 w2 ho2 hk2 hg2)
              go_roundg (S - i)
              case measure => exact q1
              case rel => exact ⟨i + 1, A2, c2, by omega, by omega, rfl, rfl, by rw [List.replicate_succ']; simpa [u8s] using ho2, hk2⟩
            · obtain rfl : S = i := by omega
              go_wp2
              go_ret3
              rw [Hlr.out, if_neg hbig, if_pos trivial, if_neg hfit, Hxd.out]
              exact ⟨qk, fun _ => ⟨A', S, c', (List.length_replicate ..).symm, rfl, qo⟩, fun h => (by cases h)⟩
end
end
end Go.Proofs.YtabaholflahepaaDoor
