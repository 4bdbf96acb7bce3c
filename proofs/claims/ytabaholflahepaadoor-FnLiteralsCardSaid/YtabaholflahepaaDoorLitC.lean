/-
  Contracts of the package's readers of literals: four streams that are wrong. And more of its kind (LitG, LitH).
-/
import Derived.Test.YtabaholflahepaaDoorLitF
namespace Go.Proofs.YtabaholflahepaaDoor
open Go.RowKit

section
set_option maxHeartbeats 8000000 in
set_option maxRecDepth 100000 in
theorem fourStreams_wrong {R : Nat → Prop} {B : Nat} (rb : Nat) (A : Option Addr) (c : Nat) (ds : List Nat) (o s n : Nat) (w : World) (hs : Sl w R A (u8s ds)) (he : Errs B w) (hr : RdOff w rb)
    (hd : Bytes ds) (hlen : ds.length < 2 ^ 24) (hc : ds.length ≤ c) (ho : 2 ≤ o) (hos : o + s ≤ ds.length) (hn : n ≤ 131072) (h : FourW ds o s) :
    Calls Tryd.prog 116 #[.pointer (some ⟨rb, 0, none⟩), .slice A ds.length c, .int .i64 o, .int .i64 s, .int .i64 n, .slice none 0 0] w (NoPost w) := by
  have heof := fun (x : Int) w' (hk : Kept w w') => makeEOFError (B := B) rb x w' (he.kept hk) (hr.kept hk)
  have herr := fun (x : Int) (t : ByteArray) w' (hk : Kept w w') => makeError (B := B) rb x t w' (he.kept hk) (hr.kept hk)
  have Heof := Lib.hid heof
  have Herr := Lib.hid herr
  clear heof herr
  obtain ⟨e, hec⟩ : ∃ x, x = (n + 3) / 4 := ⟨_, rfl⟩
  have heci : ((n : Int) + 3) / 4 = (e : Int) := by omega
  have Heci := Lib.hid heci
  have hed : e * 3 ≤ n ∨ n < e * 3 := by omega
  have hel : e ≤ 40000 := by omega
  clear heci hec
  by_cases h1 : ds.length ≤ o + 5
  · clear h hed hd hs
    go_enter Tryd.func116, Tryd.ntmps116
    go_wp2_with (go_at_call 92; (with_reducible refine (Heof.out _ _ (Keep.refl _ _)).mono ?_); rintro e w1 ⟨v, ⟨vt, vx, rfl⟩, rfl, hk1⟩)
    go_ret2
    exact ⟨hk1, _, _, rfl⟩
  by_cases h2 : s < 6
  · clear h hed hd hs
    go_enter Tryd.func116, Tryd.ntmps116
    go_wp2_with (go_at_call 93; (with_reducible refine (Herr.out _ _ _ (Keep.refl _ _)).mono ?_); rintro e w1 ⟨v, ⟨vt, vx, rfl⟩, rfl, hk1⟩)
    go_ret2
    exact ⟨hk1, _, _, rfl⟩
  rcases hed with hn3 | hn3
  rotate_left
  · have hn3i : (n : Int) < (e : Int) * 3 := by omega
    clear h hd hs hn3
    go_enter Tryd.func116, Tryd.ntmps116
    go_upto_region 6 with (fail)
    rw [Heci.out]
    go_wp2_with (go_at_call 93; (with_reducible refine (Herr.out _ _ _ (Keep.refl _ _)).mono ?_); rintro e w1 ⟨v, ⟨vt, vx, rfl⟩, rfl, hk1⟩)
    go_ret2
    exact ⟨hk1, _, _, rfl⟩
  obtain ⟨g, o0, hRg, hA, _⟩ := hs.get (by simp; omega)
  subst hA
  obtain ⟨N, hN⟩ : ∃ N, N = ds.length := ⟨_, rfl⟩
  have hl1 := fun w' hk => le16_at (c := c) N hN hs hd o (by omega) w' hk
  have hl2 := fun w' hk => le16_at (c := c) N hN hs hd (o + 2) (by omega) w' hk
  have hl3 := fun w' hk => le16_at (c := c) N hN hs hd (o + 4) (by omega) w' hk
  have hs1b := num_two_lt hd o
  have hs2b := num_two_lt hd (o + 2)
  have hs3b := num_two_lt hd (o + 4)
  rcases h with h | ⟨s1, s2, s3, hs1, hs2, hs3, h⟩
  · exact absurd h h2
  rw [← hs1] at hl1 hs1b
  rw [← hs2] at hl2 hs2b
  rw [← hs3] at hl3 hs3b
  have hco : ¬ c = o := by omega
  have hco2 : ¬ c = o + 2 := by omega
  have hco4 : ¬ c = o + 4 := by omega
  have Hl1 := Lib.hid hl1
  have Hl2 := Lib.hid hl2
  have Hl3 := Lib.hid hl3
  have Hs := Lib.hid hs
  have Hd := Lib.hid hd
  have Hh := Lib.hid h
  have hos' : o + s ≤ N := by omega
  have hlen' : N < 2 ^ 24 := by omega
  have hc' : N ≤ c := by omega
  have h1' : ¬ N ≤ o + 5 := by omega
  have HN := Lib.hid hN
  rw [← hN]
  clear hl1 hl2 hl3 hs hd h hN hs1 hs2 hs3 hlen hc hos h1
  go_enter Tryd.func116, Tryd.ntmps116
  go_upto_region 6 with (fail)
  rw [Heci.out]
  go_upto_region 11 with (first
    | (go_at_call 117; (with_reducible refine (Hl1.out _ (Keep.refl _ _)).mono ?_); rintro e1 w1 ⟨rfl, hk1⟩)
    | (go_at_call 117; (with_reducible refine (Hl2.out _ hk1).mono ?_); rintro e1 w2 ⟨rfl, hk2⟩; have hk2' := hk1.trans hk2)
    | (go_at_call 117; (with_reducible refine (Hl3.out _ hk2').mono ?_); rintro e1 w3 ⟨rfl, hk3⟩; have hk3' := hk2'.trans hk3))
  rcases Hh.out with h | ⟨s4, hss, h⟩
  · have hle : ¬ (s1 : Int) + (s2 : Int) + (s3 : Int) ≤ (s : Int) - 6 := by omega
    have hle2 : (s : Int) - 6 < (s1 : Int) + (s2 : Int) + (s3 : Int) := by omega
    clear Hl1 Hl2 Hl3 h
    go_wp2_with (go_at_call 92; (with_reducible refine (Heof.out _ _ hk3').mono ?_); rintro e w4 ⟨v, ⟨vt, vx, rfl⟩, rfl, hk4⟩)
    go_ret2
    exact ⟨hk3'.trans hk4, _, _, rfl⟩
  have hs4 : s4 ≤ s := by omega
  have Hss := Lib.hid hss
  have hsi : (s : Int) = 6 + (s1 : Int) + (s2 : Int) + (s3 : Int) + (s4 : Int) := by omega
  have Hsi := Lib.hid hsi
  have hle : (s1 : Int) + (s2 : Int) + (s3 : Int) ≤ (s : Int) - 6 := by omega
  clear hsi hss
  have Hw := Lib.hid h
  clear h Hh
  go_upto_region 25 with (fail)
  obtain ⟨oh1, hoh1⟩ : ∃ x, x = o + 6 + s1 - 1 := ⟨_, rfl⟩
  obtain ⟨oh2, hoh2⟩ : ∃ x, x = o + 6 + s1 + s2 - 1 := ⟨_, rfl⟩
  obtain ⟨oh3, hoh3⟩ : ∃ x, x = o + 6 + s1 + s2 + s3 - 1 := ⟨_, rfl⟩
  obtain ⟨oh4, hoh4⟩ : ∃ x, x = o + 6 + s1 + s2 + s3 + s4 - 1 := ⟨_, rfl⟩
  rw [show (o : Int) + 6 - 1 + (s1 : Int) + (s2 : Int) + (s3 : Int) + ((s : Int) - 6 - ((s1 : Int) + (s2 : Int) + (s3 : Int))) = (oh4 : Int) by have := Hsi.out; omega,
    show (o : Int) + 6 - 1 + (s1 : Int) + (s2 : Int) + (s3 : Int) = (oh3 : Int) by omega, show (o : Int) + 6 - 1 + (s1 : Int) + (s2 : Int) = (oh2 : Int) by omega, show (o : Int) + 6 - 1 + (s1 : Int) = (oh1 : Int) by omega]
  obtain ⟨st1, hst1⟩ : ∃ x, x = o + 4 := ⟨_, rfl⟩
  obtain ⟨st2, hst2⟩ : ∃ x, x = o + 4 + s1 := ⟨_, rfl⟩
  obtain ⟨st3, hst3⟩ : ∃ x, x = o + 4 + s1 + s2 := ⟨_, rfl⟩
  obtain ⟨st4, hst4⟩ : ∃ x, x = o + 4 + s1 + s2 + s3 := ⟨_, rfl⟩
  have hi1 : (o : Int) + 6 - 2 = (st1 : Int) := by omega
  have hi2 : (oh1 : Int) + 1 - 2 = (st2 : Int) := by omega
  have hi3 : (oh2 : Int) + 1 - 2 = (st3 : Int) := by omega
  have hi4 : (oh3 : Int) + 1 - 2 = (st4 : Int) := by omega
  have hb1 : st1 ≤ 16777216 := by omega
  have hb2 : st2 ≤ 16777216 := by omega
  have hb3 : st3 ≤ 16777216 := by omega
  have hb4 : st4 ≤ 16777216 := by omega
  have hh1 : oh1 ≤ 16777216 := by omega
  have hh2 : oh2 ≤ 16777216 := by omega
  have hh3 : oh3 ≤ 16777216 := by omega
  have hh4 : oh4 ≤ 16777216 := by have := Hss.out; omega
  have hmk : ∀ (oh st k x : Nat), ds[oh]? = some x → 2 ^ k ≤ x → x < 2 ^ (k + 1) → st ≤ oh → ∀ w', Kept w w' → Calls Tryd.prog 72 #[.pointer (some ⟨rb, 0, none⟩), .slice (some ⟨g, o0, none⟩) N c, .int .i64 (oh : Int), .int .i64 (st : Int)] w' fun e w'' =>
      e = .returned (.tuple #[.agg #[.pointer (some ⟨rb, 0, none⟩), .slice (some ⟨g, o0, none⟩) N c, .int .u32 (oh : Int), .int .u32 (st : Int), .int .u32 (x : Int), .int .u32 (k : Int)], .nilIface]) ∧ Kept w' w'' := by
    intro oh st k x hx h1 h2 h3 w' hk
    have := makeRev_ok rb (some ⟨g, o0, none⟩) c ds oh st k x w' (Hs.out.kept hk) Hd.out (by rw [← HN.out]; omega) hx h1 h2 h3
    rw [← HN.out] at this
    exact this.mono fun _ _ h => ⟨h.1, h.2.2⟩
  have hno : ∀ (oh st : Nat), ds[oh]? = some 0 → ∀ w', Kept w w' → Calls Tryd.prog 72 #[.pointer (some ⟨rb, 0, none⟩), .slice (some ⟨g, o0, none⟩) N c, .int .i64 (oh : Int), .int .i64 (st : Int)] w' fun e w'' =>
      ∃ v, IsErr v ∧ e = .returned (.tuple #[.agg #[.pointer none, .slice none 0 0, .int .u32 0, .int .u32 0, .int .u32 0, .int .u32 0], v]) ∧ Kept w' w'' := by
    intro oh st hx w' hk
    have := makeRev_bad (B := B) rb (some ⟨g, o0, none⟩) c ds oh st w' (Hs.out.kept hk) hx (he.kept hk) (hr.kept hk)
    rw [← HN.out] at this
    exact this
  have Hmk := Lib.hid hmk
  have Hno := Lib.hid hno
  clear hmk hno
  have hw := Hw.out
  clear Hw he hr
  rcases hw with ⟨_, hx1⟩ | ⟨⟨h11, x1, k1, hx1, ha1, hc1⟩, hw⟩
  · rw [← hoh1] at hx1
    have Hx := Lib.hid hx1
    clear hx1 Hl1 Hl2 Hl3 hoh1 hoh2 hoh3 hoh4 hst1 hst2 hst3 hst4
    go_wp2_with (go_at_call 72; (with_reducible refine (Hno.out _ _ Hx.out _ hk3').mono ?_); rintro e1 w4 ⟨v, ⟨vt, vx, rfl⟩, rfl, hk4⟩)
    go_ret2
    exact ⟨(hk3'.trans hk4).alloc _, _, _, rfl⟩
  rw [← hoh1] at hx1
  have hm1 := Hmk.out oh1 st1 k1 x1 hx1 ha1 hc1 (by omega)
  have Hm1 := Lib.hid hm1
  clear hm1 hx1 ha1 hc1
  rcases hw with ⟨_, hx2⟩ | ⟨⟨h12, x2, k2, hx2, ha2, hc2⟩, hw⟩
  · rw [← hoh2] at hx2
    have Hx := Lib.hid hx2
    clear hx2 Hl1 Hl2 Hl3 hoh1 hoh2 hoh3 hoh4 hst1 hst2 hst3 hst4
    go_wp2_with (first
      | (go_at_call 72; (with_reducible refine (Hm1.out _ hk3').mono ?_); rintro e1 w4 ⟨rfl, hk4⟩; have hq4 := (hk3'.trans hk4).alloc (.cells #[.pointer (some ⟨rb, 0, none⟩), .slice (some ⟨g, o0, none⟩) N c, .int .u32 (oh1 : Int), .int .u32 (st1 : Int), .int .u32 (x1 : Int), .int .u32 (k1 : Int)] 167))
      | (go_at_call 72; (with_reducible refine (Hno.out _ _ Hx.out _ hq4).mono ?_); rintro e1 w5 ⟨v, ⟨vt, vx, rfl⟩, rfl, hk5⟩))
    go_ret2
    exact ⟨(hq4.trans hk5).alloc _, _, _, rfl⟩
  rw [← hoh2] at hx2
  have hm2 := Hmk.out oh2 st2 k2 x2 hx2 ha2 hc2 (by omega)
  have Hm2 := Lib.hid hm2
  clear hm2 hx2 ha2 hc2
  rcases hw with ⟨_, hx3⟩ | ⟨⟨h13, x3, k3, hx3, ha3, hc3⟩, _, hx4⟩
  · rw [← hoh3] at hx3
    have Hx := Lib.hid hx3
    clear hx3 Hl1 Hl2 Hl3 hoh1 hoh2 hoh3 hoh4 hst1 hst2 hst3 hst4
    go_wp2_with (first
      | (go_at_call 72; (with_reducible refine (Hm1.out _ hk3').mono ?_); rintro e1 w4 ⟨rfl, hk4⟩; have hq4 := (hk3'.trans hk4).alloc (.cells #[.pointer (some ⟨rb, 0, none⟩), .slice (some ⟨g, o0, none⟩) N c, .int .u32 (oh1 : Int), .int .u32 (st1 : Int), .int .u32 (x1 : Int), .int .u32 (k1 : Int)] 167))
      | (go_at_call 72; (with_reducible refine (Hm2.out _ hq4).mono ?_); rintro e1 w5 ⟨rfl, hk5⟩; have hq5 := (hq4.trans hk5).alloc (.cells #[.pointer (some ⟨rb, 0, none⟩), .slice (some ⟨g, o0, none⟩) N c, .int .u32 (oh2 : Int), .int .u32 (st2 : Int), .int .u32 (x2 : Int), .int .u32 (k2 : Int)] 167))
      | (go_at_call 72; (with_reducible refine (Hno.out _ _ Hx.out _ hq5).mono ?_); rintro e1 w6 ⟨v, ⟨vt, vx, rfl⟩, rfl, hk6⟩))
    go_ret2
    exact ⟨(hq5.trans hk6).alloc _, _, _, rfl⟩
  rw [← hoh3] at hx3
  rw [← hoh4] at hx4
  have hm3 := Hmk.out oh3 st3 k3 x3 hx3 ha3 hc3 (by omega)
  have Hm3 := Lib.hid hm3
  have Hx := Lib.hid hx4
  clear hm3 hx3 ha3 hc3 hx4 Hl1 Hl2 Hl3 hoh1 hoh2 hoh3 hoh4 hst1 hst2 hst3 hst4
  go_wp2_with (first
    | (go_at_call 72; (with_reducible refine (Hm1.out _ hk3').mono ?_); rintro e1 w4 ⟨rfl, hk4⟩; have hq4 := (hk3'.trans hk4).alloc (.cells #[.pointer (some ⟨rb, 0, none⟩), .slice (some ⟨g, o0, none⟩) N c, .int .u32 (oh1 : Int), .int .u32 (st1 : Int), .int .u32 (x1 : Int), .int .u32 (k1 : Int)] 167))
    | (go_at_call 72; (with_reducible refine (Hm2.out _ hq4).mono ?_); rintro e1 w5 ⟨rfl, hk5⟩; have hq5 := (hq4.trans hk5).alloc (.cells #[.pointer (some ⟨rb, 0, none⟩), .slice (some ⟨g, o0, none⟩) N c, .int .u32 (oh2 : Int), .int .u32 (st2 : Int), .int .u32 (x2 : Int), .int .u32 (k2 : Int)] 167))
    | (go_at_call 72; (with_reducible refine (Hm3.out _ hq5).mono ?_); rintro e1 w6 ⟨rfl, hk6⟩; have hq6 := (hq5.trans hk6).alloc (.cells #[.pointer (some ⟨rb, 0, none⟩), .slice (some ⟨g, o0, none⟩) N c, .int .u32 (oh3 : Int), .int .u32 (st3 : Int), .int .u32 (x3 : Int), .int .u32 (k3 : Int)] 167))
    | (go_at_call 72; (with_reducible refine (Hno.out _ _ Hx.out _ hq6).mono ?_); rintro e1 w7 ⟨v, ⟨vt, vx, rfl⟩, rfl, hk7⟩))
  go_ret2
  exact ⟨(hq6.trans hk7).alloc _, _, _, rfl⟩
end

section
theorem num1 {ds : List Nat} {a : Nat} (h0 : ds[0]? = some a) : num (ds.take 1) = a := by rw [num_push h0]; simp [num]
theorem num2 {ds : List Nat} {a b : Nat} (h0 : ds[0]? = some a) (h1 : ds[1]? = some b) : num (ds.take 2) = a + 256 * b := by rw [num_push h1, num1 h0]; omega
theorem num3 {ds : List Nat} {a b c : Nat} (h0 : ds[0]? = some a) (h1 : ds[1]? = some b) (h2 : ds[2]? = some c) : num (ds.take 3) = a + 256 * b + 65536 * c := by rw [num_push h2, num2 h0 h1]; omega
theorem num4 {ds : List Nat} {a b c d : Nat} (h0 : ds[0]? = some a) (h1 : ds[1]? = some b) (h2 : ds[2]? = some c) (h3 : ds[3]? = some d) : num (ds.take 4) = a + 256 * b + 65536 * c + 16777216 * d := by rw [num_push h3, num3 h0 h1 h2]; omega
theorem num5 {ds : List Nat} {a b c d e : Nat} (h0 : ds[0]? = some a) (h1 : ds[1]? = some b) (h2 : ds[2]? = some c) (h3 : ds[3]? = some d) (h4 : ds[4]? = some e) : num (ds.take 5) = a + 256 * b + 65536 * c + 16777216 * d + 4294967296 * e := by
  rw [num_push h4, num4 h0 h1 h2 h3]
  have : (2 : Nat) ^ (8 * 4) = 4294967296 := by decide
  omega

/-- What readers of literals hand back. -/
def LitPost (S : Nat → Prop) (w : World) (v : Nat × List Nat × Nat) (e : Ending) (w' : World) : Prop :=
  Keep S w w' ∧ (v.1 = 1 → ∃ A' n c', Hid (n = v.2.1.length) ∧ e = .returned (.tuple #[.int .i64 ((v.2.2 : Nat) : Int), .slice A' n c', .nilIface]) ∧ w'.ownsRow w.heap.size 5 1 (.slice A' n c') n (u8s v.2.1)) ∧
    (v.1 = 2 → ∃ t x, e = .returned (.tuple #[.int .i64 0, .slice none 0 0, .iface t x]))

theorem and_u8_3 {a : Nat} (h : a < 256) : Go.bits .and .u8 (a : Int) 3 = ((a % 4 : Nat) : Int) := by
  have e : Go.bits .and .u8 (a : Int) ((3 : Nat) : Int) = ((a &&& 3 : Nat) : Int) := u8_and_nat a 3 h (by decide)
  have e2 : a &&& 3 = a % 2 ^ 2 := and_mask a 2
  rw [e2] at e
  exact e

theorem size158 (w : World) : (sizeOf (Tryd.prog.elem 158)).run Tryd.prog w = .ok 1 w := by kernel_rfl
theorem run_part (A : Option Addr) (n c k s : Nat) (hk : k + s ≤ n) (hc : n ≤ c) (w : World) :
    Sem.run Tryd.prog (Instr.sliceAt 158 (.slice A n c) (some (.int .i64 (k : Int))) (some (.int .i64 ((k : Int) + (s : Int)))) none) w = .ok (.slice (if c = k then A else A.map (·.add (k * 1))) s (c - k)) w := by
  have ht : Tryd.prog.underlying 158 = some (.slice (Tryd.prog.elem 158)) := by kernel_rfl
  rw [run_sliceAt_slice w 158 _ _ _ _ ht, run_slice_lh w 158 A n c ht .i64 .i64 k (k + s) (by omega) (by omega) (by omega), size158]
  simp [Result.andThen, sliced]
  omega

set_option maxHeartbeats 4000000 in
set_option maxRecDepth 4000 in
theorem rawLit_any {R : Nat → Prop} {B : Nat} (rb : Nat) (A : Option Addr) (c : Nat) (ds : List Nat) (h : Nat) (w : World) (hs : Sl w R A (u8s ds)) (hRw : ∀ k, R k → k < w.heap.size) (he : Errs B w) (hr : RdOff w rb) (hd : Bytes ds) (hlen : ds.length < 2 ^ 24) (hc : ds.length ≤ c)
    (h0 : ds[0]? = some h) (hk2 : h % 4 < 2) :
    Calls Tryd.prog 106 #[.pointer (some ⟨rb, 0, none⟩), .slice A ds.length c, .int .i64 1, .int .u8 (h : Int), .slice none 0 0] w (LitPost (fun _ => False) w (litR ds (h % 4) (h / 4 % 4))) := by
  have h256 := hd h (List.mem_of_getElem? h0)
  have hl0 := (List.getElem?_eq_some_iff.1 h0).1
  obtain ⟨g, o, hRg, rfl, hcell⟩ := hs.get (by simp; omega)
  have heof := fun (x : Int) w' (hk : Kept w w') => makeEOFError (B := B) rb x w' (he.kept hk) (hr.kept hk)
  have herr := fun (x : Int) (t : ByteArray) w' (hk : Kept w w') => makeError (B := B) rb x t w' (he.kept hk) (hr.kept hk)
  have Heof := Lib.hid heof
  have Herr := Lib.hid herr
  obtain ⟨k, hk⟩ : ∃ k, k = h % 4 := ⟨_, rfl⟩
  obtain ⟨f, hf⟩ : ∃ f, f = h / 4 % 4 := ⟨_, rfl⟩
  have hb1 : Go.bits .and .u8 (h : Int) 3 = (k : Int) := by rw [hk]; exact and_u8_3 h256
  have hb2 : Go.bits .and .u8 ((h : Int) / 4) 3 = (f : Int) := by
    have := and_u8_3 (a := h / 4) (by omega)
    rw [← hf] at this
    have e : ((h / 4 : Nat) : Int) = (h : Int) / 4 := by omega
    rw [e] at this
    exact this
  have hbyte : ∀ j, j < ds.length → ∃ x, ds[j]? = some x ∧ x < 256 ∧ w.cell? ⟨g, o + j, none⟩ = some (.int .u8 (x : Int)) := fun j hj =>
    ⟨ds.getD j 0, by rw [List.getD_eq_getElem?_getD, List.getElem?_eq_getElem hj]; rfl, hd.getD j, hcell j _ (u8s_at hj)⟩
  obtain ⟨N, hN⟩ : ∃ N, N = ds.length := ⟨_, rfl⟩
  have Hbyte := Lib.hid hbyte
  have Hs := Lib.hid hs
  have Hd := Lib.hid hd
  have HRw := Lib.hid hRw
  have H0 := Lib.hid h0
  have hk1 : k ≤ 1 := by omega
  have hf4 : f < 4 := by omega
  rw [← hk, ← hf]
  rw [← hN] at hlen hc hl0 ⊢
  have HN := Lib.hid hN
  clear heof herr hbyte hs hd hRw h0 he hr hcell hN
  have hh8 : (h : Int) / 8 ≤ 31 := by omega
  by_cases hshort : N < hd1 f
  · have hlr : (litR ds k f).1 = 2 := by unfold litR; rw [if_pos (by rw [← HN.out]; exact hshort)]
    have hf13 : (f = 1 ∧ N ≤ 1) ∨ (f = 3 ∧ N ≤ 2) := by
      have h4 : f = 0 ∨ f = 1 ∨ f = 2 ∨ f = 3 := by omega
      rcases h4 with rfl | rfl | rfl | rfl
      · have e : hd1 0 = 1 := rfl
        omega
      · have e : hd1 1 = 2 := rfl
        exact .inl ⟨rfl, by omega⟩
      · have e : hd1 2 = 1 := rfl
        omega
      · have e : hd1 3 = 3 := rfl
        exact .inr ⟨rfl, by omega⟩
    have Hlr := Lib.hid hlr
    clear hlr hshort hf
    rcases hf13 with ⟨rfl, hn⟩ | ⟨rfl, hn⟩
    all_goals
      go_enter Tryd.func106, Tryd.ntmps106
      go_wp2_with (go_at_call 92; (with_reducible refine (Heof.out _ _ (Keep.refl _ _)).mono ?_); rintro e w1 ⟨v, ⟨vt, vx, rfl⟩, rfl, hk1⟩)
      go_ret3
      exact ⟨hk1, fun h => by rw [Hlr.out] at h; omega, fun _ => ⟨_, _, rfl⟩⟩
  · obtain ⟨S, hS⟩ : ∃ S, S = raws ds f := ⟨_, rfl⟩
    obtain ⟨o1, ho1⟩ : ∃ x, x = hd1 f := ⟨_, rfl⟩
    have ho1N : o1 ≤ N := by rw [ho1]; exact Nat.le_of_not_lt hshort
    have hlr : litR ds k f = if 131072 < S then (0, [], 0) else if k = 1 then (if N < o1 + 1 then (2, [], 0) else (1, List.replicate S (ds.getD o1 0), o1 + 1)) else if N < o1 + S then (2, [], 0) else (1, (ds.drop o1).take S, o1 + S) := by
      unfold litR
      rw [← HN.out, if_neg hshort, ← hS, ← ho1]
    have Hlr := Lib.hid hlr
    obtain ⟨b0, hb0, _, hc0⟩ := Hbyte.out 0 (by rw [← HN.out]; omega)
    obtain rfl : b0 = h := Option.some.inj (hb0.symm.trans H0.out)
    have h4 : f = 0 ∨ f = 1 ∨ f = 2 ∨ f = 3 := by omega
    have hki : (b0 : Int) % 4 = (k : Int) := by omega
    clear hlr hf hk
    go_enter Tryd.func106, Tryd.ntmps106
    rcases h4 with rfl | rfl | rfl | rfl
    -- ARMS
    -- ARMS
    -- ARMS
    -- ARMS
    -- ARMS
    · have hSi : (b0 : Int) / 8 = (S : Int) := by
        have e : num (ds.take (hd1 0)) = b0 := num1 hb0
        have e2 : (2 : Nat) ^ sh1 0 = 8 := by decide
        have e3 : S = b0 / 8 := by rw [hS, raws, e, e2]
        omega
      have ho : o1 = 1 := ho1
      subst ho
      clear hS ho1 hb0 hshort
      go_upto_region 17 with (fail)
      by_cases hbig : 131072 < S
      · exfalso; omega
      have hk01 : k = 0 ∨ k = 1 := by omega
      rcases hk01 with rfl | rfl
      · have hr : ((b0 : Int) % 4 == 0) = true := by rw [hki]; rfl
        by_cases hfit : N < 1 + S
        · clear Hbyte
          go_wp2_with (go_at_call 93; (with_reducible refine (Herr.out _ _ _ (Keep.refl _ _)).mono ?_); rintro e w1 ⟨v, ⟨vt, vx, rfl⟩, rfl, hk1⟩)
          go_ret3
          rw [Hlr.out, if_neg hbig, if_neg (show ¬ (0 : Nat) = 1 by decide), if_pos hfit]
          exact ⟨hk1, fun h => (by cases h), fun _ => ⟨_, _, rfl⟩⟩
        · have hpart : Sl w R (if c = 1 then some (⟨g, o, none⟩ : Addr) else (some (⟨g, o, none⟩ : Addr)).map (·.add (1 * 1))) (u8s ((ds.drop 1).take S)) := (Hs.out.back (c := c) (k := 1) (by rw [← HN.out]; exact hc)).firsts S
          have hrun : ∀ w', Sem.run Tryd.prog (Instr.sliceAt 158 (.slice (some ⟨g, o, none⟩) N c) (some (.int .i64 1)) (some (.int .i64 ((1 : Int) + (S : Int)))) none) w' = .ok (.slice (if c = 1 then some (⟨g, o, none⟩ : Addr) else (some (⟨g, o, none⟩ : Addr)).map (·.add (1 * 1))) S (c - 1)) w' := fun w' => run_part (some ⟨g, o, none⟩) N c 1 S (by omega) hc w'
          generalize (if c = 1 then some (⟨g, o, none⟩ : Addr) else (some (⟨g, o, none⟩ : Addr)).map (·.add (1 * 1))) = E at hpart hrun
          have hpl : ((ds.drop 1).take S).length = S := by rw [List.length_take, List.length_drop, ← HN.out]; omega
          have Hpl := Lib.hid hpl
          have Hpart := Lib.hid hpart
          clear Hbyte hpl hpart
          go_wp2_with (at_builtin; refine wpList_append rfl _ _ rfl elByte (Keep.refl (fun _ => False) _) none 0 0 [] rfl (World.ownsRow_nil _ _ _ _) S (u8s ((ds.drop 1).take S)) _ rfl (src_sl Tryd.underlying158 (Hpart.out.kept (Keep.refl _ _)) S (c - 1) (by rw [u8s_length, Hpl.out, Nat.mul_one]) (u8s_one _)) (by omega) ?_; intro A2 c2 w2 ho2 hk2 hg2; simp only [Nat.zero_add, List.nil_append] at ho2)
          go_ret3
          rw [Hlr.out, if_neg hbig, if_neg (show ¬ (0 : Nat) = 1 by decide), if_neg hfit]
          exact ⟨hk2, fun _ => ⟨A2, S, c2, Hpl.out.symm, rfl, ho2⟩, fun h => (by cases h)⟩
      · have hr : ((b0 : Int) % 4 == 0) = false := by rw [hki]; rfl
        by_cases hfit : N < 1 + 1
        · clear Hbyte
          go_wp2_with (go_at_call 93; (with_reducible refine (Herr.out _ _ _ (Keep.refl _ _)).mono ?_); rintro e w1 ⟨v, ⟨vt, vx, rfl⟩, rfl, hk1⟩)
          go_ret3
          rw [Hlr.out, if_neg hbig, if_pos trivial, if_pos hfit]
          exact ⟨hk1, fun h => (by cases h), fun _ => ⟨_, _, rfl⟩⟩
        · obtain ⟨x, hx, hx256, hcx⟩ := Hbyte.out 1 (by rw [← HN.out]; omega)
          have hxd : ds.getD 1 0 = x := by rw [List.getD_eq_getElem?_getD, hx]; rfl
          have Hxd := Lib.hid hxd
          have hON : 1 < N := by omega
          clear Hbyte hxd hx
          go_wp2
          go_loopg [4, 16] (S + 1) (fun gg s4 s16 wr => ∃ (i : Nat) (A' : Option Addr) (c' : Nat), S - i < gg ∧ i ≤ S ∧ s16 = .int .i64 i ∧ s4 = .slice A' i c' ∧ wr.ownsRow w.heap.size 5 1 (.slice A' i c') i (u8s (List.replicate i x)) ∧ Kept w wr)
          case atStart => exact ⟨0, none, 0, by omega, by omega, rfl, rfl, World.ownsRow_nil _ _ _ _, (Keep.refl _ _)⟩
          case round =>
            obtain ⟨i, A', c', q1, q2, rfl, rfl, qo, qk⟩ := hrel
            by_cases hlt : i < S
            · go_wp2_with (at_builtin; refine wpList_push rfl _ _ rfl elByte qk A' i c' _ rfl qo [.int .u8 (x : Int)] rfl rfl (by simp [Value.oneCell']) (by omega) ?_; intro A2 c2 w2 ho2 hk2 hg2)
              go_roundg (S - i)
              case measure => exact q1
              case rel => exact ⟨i + 1, A2, c2, by omega, by omega, rfl, rfl, by rw [List.replicate_succ']; simpa [u8s] using ho2, hk2⟩
            · obtain rfl : S = i := by omega
              go_wp2
              go_ret3
              rw [Hlr.out, if_neg hbig, if_pos trivial, if_neg hfit, Hxd.out]
              exact ⟨qk, fun _ => ⟨A', S, c', (List.length_replicate ..).symm, rfl, qo⟩, fun h => (by cases h)⟩
    · have ho : o1 = 2 := ho1
      subst ho
      obtain ⟨b1, hb1', h1256, hc1⟩ := Hbyte.out 1 (by rw [← HN.out]; omega)
      have hSi : (b0 : Int) / 16 + (b1 : Int) * 16 = (S : Int) := by
        have e : num (ds.take (hd1 1)) = b0 + 256 * b1 := num2 hb0 hb1'
        have e2 : (2 : Nat) ^ sh1 1 = 16 := by decide
        have e3 : S = (b0 + 256 * b1) / 16 := by rw [hS, raws, e, e2]
        omega
      have hN1 : 1 < N := by omega
      have hSb : S ≤ 4096 := by omega
      clear hS ho1 hb0 hb1' hshort
      go_upto_region 17 with (fail)
      by_cases hbig : 131072 < S
      · exfalso; omega
      have hk01 : k = 0 ∨ k = 1 := by omega
      rcases hk01 with rfl | rfl
      · have hr : ((b0 : Int) % 4 == 0) = true := by rw [hki]; rfl
        by_cases hfit : N < 2 + S
        · clear Hbyte
          go_wp2_with (go_at_call 93; (with_reducible refine (Herr.out _ _ _ (Keep.refl _ _)).mono ?_); rintro e w1 ⟨v, ⟨vt, vx, rfl⟩, rfl, hk1⟩)
          go_ret3
          rw [Hlr.out, if_neg hbig, if_neg (show ¬ (0 : Nat) = 1 by decide), if_pos hfit]
          exact ⟨hk1, fun h => (by cases h), fun _ => ⟨_, _, rfl⟩⟩
        · have hpart : Sl w R (if c = 2 then some (⟨g, o, none⟩ : Addr) else (some (⟨g, o, none⟩ : Addr)).map (·.add (2 * 1))) (u8s ((ds.drop 2).take S)) := (Hs.out.back (c := c) (k := 2) (by rw [← HN.out]; exact hc)).firsts S
          have hrun : ∀ w', Sem.run Tryd.prog (Instr.sliceAt 158 (.slice (some ⟨g, o, none⟩) N c) (some (.int .i64 2)) (some (.int .i64 ((2 : Int) + (S : Int)))) none) w' = .ok (.slice (if c = 2 then some (⟨g, o, none⟩ : Addr) else (some (⟨g, o, none⟩ : Addr)).map (·.add (2 * 1))) S (c - 2)) w' := fun w' => run_part (some ⟨g, o, none⟩) N c 2 S (by omega) hc w'
          generalize (if c = 2 then some (⟨g, o, none⟩ : Addr) else (some (⟨g, o, none⟩ : Addr)).map (·.add (2 * 1))) = E at hpart hrun
          have hpl : ((ds.drop 2).take S).length = S := by rw [List.length_take, List.length_drop, ← HN.out]; omega
          have Hpl := Lib.hid hpl
          have Hpart := Lib.hid hpart
          clear Hbyte hpl hpart
          go_wp2_with (at_builtin; refine wpList_append rfl _ _ rfl elByte (Keep.refl (fun _ => False) _) none 0 0 [] rfl (World.ownsRow_nil _ _ _ _) S (u8s ((ds.drop 2).take S)) _ rfl (src_sl Tryd.underlying158 (Hpart.out.kept (Keep.refl _ _)) S (c - 2) (by rw [u8s_length, Hpl.out, Nat.mul_one]) (u8s_one _)) (by omega) ?_; intro A2 c2 w2 ho2 hk2 hg2; simp only [Nat.zero_add, List.nil_append] at ho2)
          go_ret3
          rw [Hlr.out, if_neg hbig, if_neg (show ¬ (0 : Nat) = 1 by decide), if_neg hfit]
          exact ⟨hk2, fun _ => ⟨A2, S, c2, Hpl.out.symm, rfl, ho2⟩, fun h => (by cases h)⟩
      · have hr : ((b0 : Int) % 4 == 0) = false := by rw [hki]; rfl
        by_cases hfit : N < 2 + 1
        · clear Hbyte
          go_wp2_with (go_at_call 93; (with_reducible refine (Herr.out _ _ _ (Keep.refl _ _)).mono ?_); rintro e w1 ⟨v, ⟨vt, vx, rfl⟩, rfl, hk1⟩)
          go_ret3
          rw [Hlr.out, if_neg hbig, if_pos trivial, if_pos hfit]
          exact ⟨hk1, fun h => (by cases h), fun _ => ⟨_, _, rfl⟩⟩
        · obtain ⟨x, hx, hx256, hcx⟩ := Hbyte.out 2 (by rw [← HN.out]; omega)
          have hxd : ds.getD 2 0 = x := by rw [List.getD_eq_getElem?_getD, hx]; rfl
          have Hxd := Lib.hid hxd
          have hON : 2 < N := by omega
          clear Hbyte hxd hx
          go_wp2
          go_loopg [4, 16] (S + 1) (fun gg s4 s16 wr => ∃ (i : Nat) (A' : Option Addr) (c' : Nat), S - i < gg ∧ i ≤ S ∧ s16 = .int .i64 i ∧ s4 = .slice A' i c' ∧ wr.ownsRow w.heap.size 5 1 (.slice A' i c') i (u8s (List.replicate i x)) ∧ Kept w wr)
          case atStart => exact ⟨0, none, 0, by omega, by omega, rfl, rfl, World.ownsRow_nil _ _ _ _, (Keep.refl _ _)⟩
          case round =>
            obtain ⟨i, A', c', q1, q2, rfl, rfl, qo, qk⟩ := hrel
            by_cases hlt : i < S
            · go_wp2_with (at_builtin; refine wpList_push rfl _ _ rfl elByte qk A' i c' _ rfl qo [.int .u8 (x : Int)] rfl rfl (by simp [Value.oneCell']) (by omega) ?_; intro A2 c2 w2 ho2 hk2 hg2)
              go_roundg (S - i)
              case measure => exact q1
              case rel => exact ⟨i + 1, A2, c2, by omega, by omega, rfl, rfl, by rw [List.replicate_succ']; simpa [u8s] using ho2, hk2⟩
            · obtain rfl : S = i := by omega
              go_wp2
              go_ret3
              rw [Hlr.out, if_neg hbig, if_pos trivial, if_neg hfit, Hxd.out]
              exact ⟨qk, fun _ => ⟨A', S, c', (List.length_replicate ..).symm, rfl, qo⟩, fun h => (by cases h)⟩
    · have hSi : (b0 : Int) / 8 = (S : Int) := by
        have e : num (ds.take (hd1 2)) = b0 := num1 hb0
        have e2 : (2 : Nat) ^ sh1 2 = 8 := by decide
        have e3 : S = b0 / 8 := by rw [hS, raws, e, e2]
        omega
      have ho : o1 = 1 := ho1
      subst ho
      clear hS ho1 hb0 hshort
      go_upto_region 17 with (fail)
      by_cases hbig : 131072 < S
      · exfalso; omega
      have hk01 : k = 0 ∨ k = 1 := by omega
      rcases hk01 with rfl | rfl
      · have hr : ((b0 : Int) % 4 == 0) = true := by rw [hki]; rfl
        by_cases hfit : N < 1 + S
        · clear Hbyte
          go_wp2_with (go_at_call 93; (with_reducible refine (Herr.out _ _ _ (Keep.refl _ _)).mono ?_); rintro e w1 ⟨v, ⟨vt, vx, rfl⟩, rfl, hk1⟩)
          go_ret3
          rw [Hlr.out, if_neg hbig, if_neg (show ¬ (0 : Nat) = 1 by decide), if_pos hfit]
          exact ⟨hk1, fun h => (by cases h), fun _ => ⟨_, _, rfl⟩⟩
        · have hpart : Sl w R (if c = 1 then some (⟨g, o, none⟩ : Addr) else (some (⟨g, o, none⟩ : Addr)).map (·.add (1 * 1))) (u8s ((ds.drop 1).take S)) := (Hs.out.back (c := c) (k := 1) (by rw [← HN.out]; exact hc)).firsts S
          have hrun : ∀ w', Sem.run Tryd.prog (Instr.sliceAt 158 (.slice (some ⟨g, o, none⟩) N c) (some (.int .i64 1)) (some (.int .i64 ((1 : Int) + (S : Int)))) none) w' = .ok (.slice (if c = 1 then some (⟨g, o, none⟩ : Addr) else (some (⟨g, o, none⟩ : Addr)).map (·.add (1 * 1))) S (c - 1)) w' := fun w' => run_part (some ⟨g, o, none⟩) N c 1 S (by omega) hc w'
          generalize (if c = 1 then some (⟨g, o, none⟩ : Addr) else (some (⟨g, o, none⟩ : Addr)).map (·.add (1 * 1))) = E at hpart hrun
          have hpl : ((ds.drop 1).take S).length = S := by rw [List.length_take, List.length_drop, ← HN.out]; omega
          have Hpl := Lib.hid hpl
          have Hpart := Lib.hid hpart
          clear Hbyte hpl hpart
          go_wp2_with (at_builtin; refine wpList_append rfl _ _ rfl elByte (Keep.refl (fun _ => False) _) none 0 0 [] rfl (World.ownsRow_nil _ _ _ _) S (u8s ((ds.drop 1).take S)) _ rfl (src_sl Tryd.underlying158 (Hpart.out.kept (Keep.refl _ _)) S (c - 1) (by rw [u8s_length, Hpl.out, Nat.mul_one]) (u8s_one _)) (by omega) ?_; intro A2 c2 w2 ho2 hk2 hg2; simp only [Nat.zero_add, List.nil_append] at ho2)
          go_ret3
          rw [Hlr.out, if_neg hbig, if_neg (show ¬ (0 : Nat) = 1 by decide), if_neg hfit]
          exact ⟨hk2, fun _ => ⟨A2, S, c2, Hpl.out.symm, rfl, ho2⟩, fun h => (by cases h)⟩
      · have hr : ((b0 : Int) % 4 == 0) = false := by rw [hki]; rfl
        by_cases hfit : N < 1 + 1
        · clear Hbyte
          go_wp2_with (go_at_call 93; (with_reducible refine (Herr.out _ _ _ (Keep.refl _ _)).mono ?_); rintro e w1 ⟨v, ⟨vt, vx, rfl⟩, rfl, hk1⟩)
          go_ret3
          rw [Hlr.out, if_neg hbig, if_pos trivial, if_pos hfit]
          exact ⟨hk1, fun h => (by cases h), fun _ => ⟨_, _, rfl⟩⟩
        · obtain ⟨x, hx, hx256, hcx⟩ := Hbyte.out 1 (by rw [← HN.out]; omega)
          have hxd : ds.getD 1 0 = x := by rw [List.getD_eq_getElem?_getD, hx]; rfl
          have Hxd := Lib.hid hxd
          have hON : 1 < N := by omega
          clear Hbyte hxd hx
          go_wp2
          go_loopg [4, 16] (S + 1) (fun gg s4 s16 wr => ∃ (i : Nat) (A' : Option Addr) (c' : Nat), S - i < gg ∧ i ≤ S ∧ s16 = .int .i64 i ∧ s4 = .slice A' i c' ∧ wr.ownsRow w.heap.size 5 1 (.slice A' i c') i (u8s (List.replicate i x)) ∧ Kept w wr)
          case atStart => exact ⟨0, none, 0, by omega, by omega, rfl, rfl, World.ownsRow_nil _ _ _ _, (Keep.refl _ _)⟩
          case round =>
            obtain ⟨i, A', c', q1, q2, rfl, rfl, qo, qk⟩ := hrel
            by_cases hlt : i < S
            · go_wp2_with (at_builtin; refine wpList_push rfl _ _ rfl elByte qk A' i c' _ rfl qo [.int .u8 (x : Int)] rfl rfl (by simp [Value.oneCell']) (by omega) ?_; intro A2 c2 w2 ho2 hk2 hg2)
              go_roundg (S - i)
              case measure => exact q1
              case rel => exact ⟨i + 1, A2, c2, by omega, by omega, rfl, rfl, by rw [List.replicate_succ']; simpa [u8s] using ho2, hk2⟩
            · obtain rfl : S = i := by omega
              go_wp2
              go_ret3
              rw [Hlr.out, if_neg hbig, if_pos trivial, if_neg hfit, Hxd.out]
              exact ⟨qk, fun _ => ⟨A', S, c', (List.length_replicate ..).symm, rfl, qo⟩, fun h => (by cases h)⟩
    · have ho : o1 = 3 := ho1
      subst ho
      obtain ⟨b1, hb1', h1256, hc1⟩ := Hbyte.out 1 (by rw [← HN.out]; omega)
      obtain ⟨b2, hb2', h2256, hc2⟩ := Hbyte.out 2 (by rw [← HN.out]; omega)
      have hSi : (b0 : Int) / 16 + (b1 : Int) * 16 + (b2 : Int) * 4096 = (S : Int) := by
        have e : num (ds.take (hd1 3)) = b0 + 256 * b1 + 65536 * b2 := num3 hb0 hb1' hb2'
        have e2 : (2 : Nat) ^ sh1 3 = 16 := by decide
        have e3 : S = (b0 + 256 * b1 + 65536 * b2) / 16 := by rw [hS, raws, e, e2]
        omega
      have hN1 : 1 < N := by omega
      have hN2 : 2 < N := by omega
      have v1 : IntKind.i64.wrap ((b1 : Int) * 16) = (b1 : Int) * 16 := by rw [IntKind.wrap_i64]; omega
      have v2 : IntKind.i64.wrap ((b2 : Int) * 4096) = (b2 : Int) * 4096 := by rw [IntKind.wrap_i64]; omega
      have v3 : IntKind.i64.wrap ((b0 : Int) / 16 + (b1 : Int) * 16) = (b0 : Int) / 16 + (b1 : Int) * 16 := by rw [IntKind.wrap_i64]; omega
      have v4 : IntKind.i64.wrap (S : Int) = (S : Int) := by rw [IntKind.wrap_i64]; omega
      clear hS ho1 hb0 hb1' hb2' hshort
      go_upto_region 15 with (fail)
      go_quiet (fail)
      obtain ⟨W, hW⟩ : ∃ x, x = w.drewN nq := ⟨_, rfl⟩
      have hkW : Kept w W := by rw [hW]; exact (Keep.refl _ _).drewN _
      rw [← hW]
      clear hW v1 v2 v3 v4 hSi
      go_upto_region 17 with (fail)
      by_cases hbig : 131072 < S
      · clear Hbyte
        go_wp2_with (go_at_call 93; (with_reducible refine (Herr.out _ _ _ hkW).mono ?_); rintro e w1 ⟨v, ⟨vt, vx, rfl⟩, rfl, hk1⟩)
        go_ret3
        rw [Hlr.out, if_pos hbig]
        exact ⟨hkW.trans hk1, fun h => (by cases h), fun h => (by cases h)⟩
      have hk01 : k = 0 ∨ k = 1 := by omega
      rcases hk01 with rfl | rfl
      · have hr : ((b0 : Int) % 4 == 0) = true := by rw [hki]; rfl
        by_cases hfit : N < 3 + S
        · clear Hbyte
          go_wp2_with (go_at_call 93; (with_reducible refine (Herr.out _ _ _ hkW).mono ?_); rintro e w1 ⟨v, ⟨vt, vx, rfl⟩, rfl, hk1⟩)
          go_ret3
          rw [Hlr.out, if_neg hbig, if_neg (show ¬ (0 : Nat) = 1 by decide), if_pos hfit]
          exact ⟨hkW.trans hk1, fun h => (by cases h), fun _ => ⟨_, _, rfl⟩⟩
        · have hpart : Sl w R (if c = 3 then some (⟨g, o, none⟩ : Addr) else (some (⟨g, o, none⟩ : Addr)).map (·.add (3 * 1))) (u8s ((ds.drop 3).take S)) := (Hs.out.back (c := c) (k := 3) (by rw [← HN.out]; exact hc)).firsts S
          have hrun : ∀ w', Sem.run Tryd.prog (Instr.sliceAt 158 (.slice (some ⟨g, o, none⟩) N c) (some (.int .i64 3)) (some (.int .i64 ((3 : Int) + (S : Int)))) none) w' = .ok (.slice (if c = 3 then some (⟨g, o, none⟩ : Addr) else (some (⟨g, o, none⟩ : Addr)).map (·.add (3 * 1))) S (c - 3)) w' := fun w' => run_part (some ⟨g, o, none⟩) N c 3 S (by omega) hc w'
          generalize (if c = 3 then some (⟨g, o, none⟩ : Addr) else (some (⟨g, o, none⟩ : Addr)).map (·.add (3 * 1))) = E at hpart hrun
          have hpl : ((ds.drop 3).take S).length = S := by rw [List.length_take, List.length_drop, ← HN.out]; omega
          have Hpl := Lib.hid hpl
          have Hpart := Lib.hid hpart
          clear Hbyte hpl hpart
          go_wp2_with (at_builtin; refine wpList_append rfl _ _ rfl elByte hkW none 0 0 [] rfl (World.ownsRow_nil _ _ _ _) S (u8s ((ds.drop 3).take S)) _ rfl (src_sl Tryd.underlying158 (Hpart.out.kept hkW) S (c - 3) (by rw [u8s_length, Hpl.out, Nat.mul_one]) (u8s_one _)) (by omega) ?_; intro A2 c2 w2 ho2 hk2 hg2; simp only [Nat.zero_add, List.nil_append] at ho2)
          go_ret3
          rw [Hlr.out, if_neg hbig, if_neg (show ¬ (0 : Nat) = 1 by decide), if_neg hfit]
          exact ⟨hk2, fun _ => ⟨A2, S, c2, Hpl.out.symm, rfl, ho2⟩, fun h => (by cases h)⟩
      · have hr : ((b0 : Int) % 4 == 0) = false := by rw [hki]; rfl
        by_cases hfit : N < 3 + 1
        · clear Hbyte
          go_wp2_with (go_at_call 93; (with_reducible refine (Herr.out _ _ _ hkW).mono ?_); rintro e w1 ⟨v, ⟨vt, vx, rfl⟩, rfl, hk1⟩)
          go_ret3
          rw [Hlr.out, if_neg hbig, if_pos trivial, if_pos hfit]
          exact ⟨hkW.trans hk1, fun h => (by cases h), fun _ => ⟨_, _, rfl⟩⟩
        · obtain ⟨x, hx, hx256, hcx⟩ := Hbyte.out 3 (by rw [← HN.out]; omega)
          have hxd : ds.getD 3 0 = x := by rw [List.getD_eq_getElem?_getD, hx]; rfl
          have Hxd := Lib.hid hxd
          have hON : 3 < N := by omega
          have hcx3 := hkW.cell hcx (fun h => h)
          clear Hbyte hxd hx
          go_wp2
          go_loopg [4, 16] (S + 1) (fun gg s4 s16 wr => ∃ (i : Nat) (A' : Option Addr) (c' : Nat), S - i < gg ∧ i ≤ S ∧ s16 = .int .i64 i ∧ s4 = .slice A' i c' ∧ wr.ownsRow w.heap.size 5 1 (.slice A' i c') i (u8s (List.replicate i x)) ∧ Kept w wr)
          case atStart => exact ⟨0, none, 0, by omega, by omega, rfl, rfl, World.ownsRow_nil _ _ _ _, hkW⟩
          case round =>
            obtain ⟨i, A', c', q1, q2, rfl, rfl, qo, qk⟩ := hrel
            by_cases hlt : i < S
            · go_wp2_with (at_builtin; refine wpList_push rfl _ _ rfl elByte qk A' i c' _ rfl qo [.int .u8 (x : Int)] rfl rfl (by simp [Value.oneCell']) (by omega) ?_; intro A2 c2 w2 ho2 hk2 hg2)
              go_roundg (S - i)
              case measure => exact q1
              case rel => exact ⟨i + 1, A2, c2, by omega, by omega, rfl, rfl, by rw [List.replicate_succ']; simpa [u8s] using ho2, hk2⟩
            · obtain rfl : S = i := by omega
              go_wp2
              go_ret3
              rw [Hlr.out, if_neg hbig, if_pos trivial, if_neg hfit, Hxd.out]
              exact ⟨qk, fun _ => ⟨A', S, c', (List.length_replicate ..).symm, rfl, qo⟩, fun h => (by cases h)⟩
end
end Go.Proofs.YtabaholflahepaaDoor
