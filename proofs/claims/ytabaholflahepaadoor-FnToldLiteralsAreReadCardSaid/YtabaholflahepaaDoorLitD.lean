/-
  Contract of readHuffLiterals where the literals are right. And more of its kind (LitU, LitV, LitW).
-/
import Derived.Test.YtabaholflahepaaDoorLitE
import Derived.Test.YtabaholflahepaaDoorQt
namespace Go.Proofs.YtabaholflahepaaDoor
open Go.RowKit

section
theorem or_at {a b p s : Nat} (hp : p = 2 ^ s) (hp2 : p ≤ 262144) (ha : a < p) (hb : b * p < 4294967296) : Go.bits .or .i64 (a : Int) ((b : Int) * (p : Int)) = ((a + b * p : Nat) : Int) := by
  rw [← Int.natCast_mul, i64_or_nat a (b * p) (by omega) (by omega)]
  subst hp
  rw [or_shift ha]
theorem and_i64_63 {a : Nat} (h : a < 256) : Go.bits .and .i64 (a : Int) 63 = ((a % 64 : Nat) : Int) := by
  have e : Go.bits .and .i64 (a : Int) ((63 : Nat) : Int) = ((a &&& 63 : Nat) : Int) := i64_and_nat a 63 (by omega) (by decide)
  have e2 : a &&& 63 = a % 2 ^ 6 := and_mask a 6
  rw [e2] at e
  exact e
theorem and_i64_3 {a : Nat} (h : a < 256) : Go.bits .and .i64 (a : Int) 3 = ((a % 4 : Nat) : Int) := by
  have e : Go.bits .and .i64 (a : Int) ((3 : Nat) : Int) = ((a &&& 3 : Nat) : Int) := i64_and_nat a 3 (by omega) (by decide)
  have e2 : a &&& 3 = a % 2 ^ 2 := and_mask a 2
  rw [e2] at e
  exact e

/-- A new Reader: its cells. -/
structure Fresh (w : World) (rb : Nat) (rc : List Value) : Prop where
  rd : Blk w rb 157 rc
  off : ∃ x : Int, rc[6]? = some (.int .i64 x)
  tab : rc[12]? = some (.slice none 0 0)
  log : rc[13]? = some (.int .i64 0)
  scr : rc[44]? = some (.slice none 0 0)
theorem Fresh.rdOff {w : World} {rb : Nat} {rc : List Value} (h : Fresh w rb rc) : RdOff w rb := by
  obtain ⟨x, hx⟩ := h.off
  exact ⟨x, by rw [h.rd.cell]; exact hx⟩

set_option maxHeartbeats 8000000 in
set_option maxRecDepth 4000 in
theorem hufLit_right0 {R : Nat → Prop} {B : Nat} (rb : Nat) (A : Option Addr) (c : Nat) (ds t : List Nat) (rc : List Value) (b0 zz : Nat) (w : World) (hs : Sl w R A (u8s ds)) (hRw : ∀ k, R k → k < w.heap.size) (hRr : ¬ R rb) (hBr : B ≤ rb) (he : Errs B w) (hfr : Fresh w rb rc) (hd : Bytes ds) (hlen : ds.length < 2 ^ 24) (_hc : ds.length ≤ c)
    (hb0 : ds[0]? = some b0) (hk2 : b0 % 4 = 2) (hf : b0 / 4 % 4 = 0) (h : HufR ds 0 t zz) :
    Calls Tryd.prog 107 #[.pointer (some ⟨rb, 0, none⟩), .slice A ds.length c, .int .i64 1, .int .u8 (b0 : Int), .slice none 0 0] w (LitPost (· = rb) w (1, t, zz)) := by
  have h256 := hd b0 (List.mem_of_getElem? hb0)
  obtain ⟨hfit, hzz, hn0, hn1, al, m, q, htree, h1al, hq, hstr⟩ := h
  have hl0 : 0 < ds.length := (List.getElem?_eq_some_iff.1 hb0).1
  obtain ⟨g, o, hRg, rfl, hcell⟩ := hs.get (by simp; omega)
  have hbyte : ∀ j, j < ds.length → ∃ x, ds[j]? = some x ∧ x < 256 ∧ w.cell? ⟨g, o + j, none⟩ = some (.int .u8 (x : Int)) := fun j hj =>
    ⟨ds.getD j 0, by rw [List.getD_eq_getElem?_getD, List.getElem?_eq_getElem hj]; rfl, hd.getD j, hcell j _ (u8s_at hj)⟩
  obtain ⟨b9, hb0y, _, hc0⟩ := hbyte 0 hl0
  obtain rfl : b0 = b9 := Option.some.inj (hb0.symm.trans hb0y)
  have hO : hd2 0 = 3 := rfl
  obtain ⟨n, hn⟩ : ∃ x, x = lmany ds 0 := ⟨_, rfl⟩
  obtain ⟨z, hz⟩ : ∃ x, x = lsize ds 0 := ⟨_, rfl⟩
  rw [hO, ← hz] at hfit hzz hstr
  rw [← hn] at hn0 hn1 hstr
  rw [← hz] at hq
  rw [hO] at htree
  obtain ⟨N, hN⟩ : ∃ N, N = ds.length := ⟨_, rfl⟩
  have hki : (b0 : Int) % 4 = 2 := by omega
  have hfi : (b0 : Int) / 4 % 4 = 0 := by omega
  have hbk : Go.bits .and .u8 (b0 : Int) 3 = 2 := by rw [and_u8_3 h256, hk2]; rfl
  have hbf : Go.bits .and .u8 ((b0 : Int) / 4) 3 = 0 := by
    have h := and_u8_3 (a := b0 / 4) (by omega)
    rw [hf, show ((b0 / 4 : Nat) : Int) = (b0 : Int) / 4 by omega] at h
    exact h
  have hq24 : z < 16777216 := by omega
  have Hbyte := Lib.hid hbyte
  have Hs := Lib.hid hs
  have Hd := Lib.hid hd
  have HRw := Lib.hid hRw
  have Hfr := Lib.hid hfr
  have Htree := Lib.hid htree
  have Hstr := Lib.hid hstr
  have He := Lib.hid he
  have d12 : w.cell? ⟨rb, 12, none⟩ = some (.slice none 0 0) := by rw [hfr.rd.cell]; exact hfr.tab
  have f12 := hfr.rd.frozen 12
  have hrbl := hfr.rd.lt
  rw [← hN] at hlen hl0 hfit ⊢
  have HN := Lib.hid hN
  clear hbyte hs hd hRw hfr htree hstr he hcell hN hO hb0y hk2 hf
  go_enter Tryd.func107, Tryd.ntmps107
  obtain ⟨b1, hb1', h1256, hc1⟩ := Hbyte.out 1 (by rw [← HN.out]; omega)
  obtain ⟨b2, hb2', h2256, hc2⟩ := Hbyte.out 2 (by rw [← HN.out]; omega)
  have hz3 : num (ds.take (hd2 0)) = b0 + 256 * b1 + 65536 * b2 := num3 hb0 hb1' hb2'
  have hw2 : (2 : Nat) ^ wd2 0 = 1024 := by decide
  have hn3 : n = b0 / 16 + b1 % 64 * 16 := by rw [hn, lmany, hz3, hw2]; omega
  have hq3 : z = b1 / 64 + b2 * 4 := by rw [hz, lsize, hz3, hw2]; omega
  have hor1 : Go.bits .or .i64 ((b0 : Int) / 16) ((b1 : Int) % 64 * 16) = (n : Int) := by
    have h := or_at (a := b0 / 16) (b := b1 % 64) (p := 16) (s := 4) rfl (by decide) (by omega) (by omega)
    rw [← hn3, show ((b0 / 16 : Nat) : Int) = (b0 : Int) / 16 by omega, show ((b1 % 64 : Nat) : Int) = (b1 : Int) % 64 by omega] at h
    exact h
  have hor2 : Go.bits .or .i64 ((b1 : Int) / 64) ((b2 : Int) * 4) = (z : Int) := by
    have h := or_at (a := b1 / 64) (b := b2) (p := 4) (s := 2) rfl (by decide) (by omega) (by omega)
    rw [← hq3, show ((b1 / 64 : Nat) : Int) = (b1 : Int) / 64 by omega] at h
    exact h
  have ha1 : Go.bits .and .i64 (b1 : Int) 63 = (b1 : Int) % 64 := by rw [and_i64_63 h1256]; omega
  have v1 : IntKind.i64.wrap ((b2 : Int) * 4) = (b2 : Int) * 4 := by rw [IntKind.wrap_i64]; omega
  have hNO : 2 < N := by omega
  have hN1 : 1 < N := by omega
  clear hz3 hw2 hn3 hq3 hb0 hb1' hb2' hn hz
  go_upto_region 10 with (fail)
  go_quiet (fail)
  go_upto_region 29 with (fail)
  go_upto_region 38 with (at_make; refine wpList_make rfl _ _ rfl elU16 .i64 .i64 2048 2048 rfl rfl (Nat.le_refl _) (by omega) ?_; intro w1 hk1 hg1; have hkw1 : Kept w w1 := ((Keep.refl (fun _ => False) w).drewN _).trans hk1; have hrb1 := Hfr.out.rd.kept hkw1; have e12 : w1.cell? ⟨rb, 12, none⟩ = some (.slice none 0 0) := hkw1.cell d12 (fun h => h); have g12 := hrb1.frozen 12)
  obtain ⟨tb, htb⟩ : ∃ x, x = w.heap.size := ⟨_, rfl⟩
  have hg2 : Blk w1 tb 179 (u16s (List.replicate 2048 0)) := by
    rw [htb]
    exact Blk.cast hg1 (by rw [Nat.mul_one, ← made_u16]; exact made_list (.int .u16 0) rfl 2048)
  obtain ⟨W2, hW2⟩ : ∃ x, x = w1.setCell ⟨rb, 12, none⟩ (.slice (some ⟨tb, 0, none⟩) 2048 2048) := ⟨_, rfl⟩
  rw [← htb, ← hW2]
  have hrtb : tb ≠ rb := by omega
  have hk2 : Keep (· = rb) w W2 := by rw [hW2]; exact (Kept.any hkw1 (· = rb)).set (p := ⟨rb, 12, none⟩) (.inl rfl) _
  have hr2 : Blk W2 rb 157 (rc.set 12 (.slice (some ⟨tb, 0, none⟩) 2048 2048)) := by rw [hW2]; exact hrb1.set 12 _
  have ht2 : Blk W2 tb 179 (u16s (List.replicate 2048 0)) := by rw [hW2]; exact hg2.far (p := ⟨rb, 12, none⟩) hrtb _
  have hBw : B ≤ w.heap.size := by obtain ⟨_, _, _, _, _, _, _, _, _, _, _, _, _, _, h9⟩ := He.out; exact h9
  have hW2s : w.heap.size ≤ W2.heap.size := hk2.size
  have h44 : (rc.set 12 (.slice (some ⟨tb, 0, none⟩) 2048 2048))[44]? = some (.slice none 0 0) := by rw [List.getElem?_set_ne (by decide)]; exact Hfr.out.scr
  have h66 : ∃ x : Int, (rc.set 12 (.slice (some ⟨tb, 0, none⟩) 2048 2048))[6]? = some (.int .i64 x) := by
    obtain ⟨x, hx⟩ := Hfr.out.off
    exact ⟨x, by rw [List.getElem?_set_ne (by decide)]; exact hx⟩
  have hread := readHuff_any (R := R) (B := B) rb tb (some ⟨g, o, none⟩) c 3 ds _ W2 (Hs.out.keep hk2 (fun j _ h1 h2 => hRr (h2 ▸ h1))) (fun j hj => by have := HRw.out j hj; omega) hRr (fun h => by have := HRw.out tb h; omega) hr2 h66 h44 ht2 hBr (by omega) (He.out.keep hk2 (fun j hj => by rw [hj]; exact hBr)) Hd.out (by rw [← HN.out]; exact hlen)
  rw [← HN.out] at hread
  replace hread : Calls Tryd.prog 84 #[.pointer (some ⟨rb, 0, none⟩), .slice (some ⟨g, o, none⟩) N c, .int .i64 3, .slice (some ⟨tb, 0, none⟩) 2048 2048] W2 _ := hread
  have Hread := Lib.hid hread
  have e12' : W2.cell? ⟨rb, 12, none⟩ = some (.slice (some ⟨tb, 0, none⟩) 2048 2048) := by
    rw [hr2.cell, List.getElem?_set_self (by have := (List.getElem?_eq_some_iff.1 Hfr.out.tab).1; exact this)]
  have hqz : q < z := by
    have := Hstr.out
    obtain ⟨h, _⟩ := (show OneR ds m (rowsTo al m m) (3 + q) (z - q) n t from this); omega
  have Htb := Lib.hid htb
  have htbw : w.heap.size ≤ tb := by omega
  have hbgt : B ≤ tb := by omega
  clear hread htb hW2 hg1 hg2 hk1 e12 g12 d12 f12 hkw1 hrb1 ht2
  go_upto_region 41 with (go_at_call 84; (with_reducible refine Hread.out.mono ?_); rintro e w3 ⟨hk3, ⟨v44, hr3⟩, ⟨al', m', q', ht', h1', rfl, hb3⟩ | ⟨ev, _, rfl, hno⟩⟩)
  rotate_left
  · have := hno al m q Htree.out h1al
    rw [← HN.out] at this
    omega
  have heq := Htree.out.symm.trans ht'
  simp only [Option.some.injEq, Prod.mk.injEq] at heq
  obtain ⟨rfl, rfl, rfl⟩ := heq
  have hts := tree_facts Htree.out
  obtain ⟨oq, hoq⟩ : ∃ x, x = 3 + q := ⟨_, rfl⟩
  obtain ⟨sq, hsq⟩ : ∃ x, x = z - q := ⟨_, rfl⟩
  obtain ⟨rs, hrs⟩ : ∃ x, x = rowsTo al m m := ⟨_, rfl⟩
  have hoqi : (3 : Int) + (q : Int) = (oq : Int) := by omega
  rw [hoqi]
  clear hoqi
  rw [← hrs] at hb3
  have hqi : (oq : Int) - 3 = (q : Int) := by omega
  have hsi : (z : Int) - (q : Int) = (sq : Int) := by omega
  have hq0 : q ≤ z := hq
  have g13 := hr3.frozen 13
  have e13 : w3.cell? ⟨rb, 13, none⟩ = some (.int .i64 0) := by
    rw [hr3.cell, List.getElem?_set_ne (by decide), List.getElem?_set_ne (by decide)]; exact Hfr.out.log
  have hm11 := hts.2.1
  have hm1 := hts.2.2.1
  have hstr2 := Hstr.out
  rw [← hrs, ← hoq, ← hsq] at hstr2
  have Hstr2 := Lib.hid hstr2
  have hrow : ∀ x ∈ rs, x.1 < 256 ∧ x.2 ≤ m := fun x hx => by
    rw [hrs] at hx
    obtain ⟨v, h2, h3, h4, h5⟩ := rowsTo_mem hx
    obtain ⟨ws, hws, htp⟩ := (treeS_some Htree.out).2.2.2
    have hwl := (wtsIn_fine (fun y hy => Hd.out y (List.mem_of_mem_drop hy)) hws).2
    have hal : al.length ≤ 256 := by rw [(treeP_some htp).2.2.2.2.1, List.length_append]; simp; omega
    have := (List.getElem?_eq_some_iff.1 h4).1
    omega
  have hrlen : rs.length = 2 ^ m := by rw [hrs, rows_length hts.2.2.2.1, hts.2.2.2.2]
  have Hrow := Lib.hid hrow
  have Hrlen := Lib.hid hrlen
  have Hts := Lib.hid hts
  have hoqN : oq + sq ≤ N := by omega
  have hoq2 : 2 ≤ oq := by omega
  have Hoq := Lib.hid hoq
  have Hsq := Lib.hid hsq
  clear ht' h1' hts hoq hsq hstr2 hrow hrlen Hread Hstr hrs e12'
  go_upto_region 50 with (fail)
  obtain ⟨W4, hW4⟩ : ∃ x, x = w3.setCell ⟨rb, 13, none⟩ (.int .i64 (m : Int)) := ⟨_, rfl⟩
  rw [← hW4]
  have hr4 : Blk W4 rb 157 (((rc.set 12 (.slice (some ⟨tb, 0, none⟩) 2048 2048)).set 44 v44).set 13 (.int .i64 (m : Int))) := by rw [hW4]; exact hr3.set 13 _
  have hb4 : Blk W4 tb 179 (u16s (rs.map enc ++ List.replicate (2048 - 2 ^ m) 0)) := by rw [hW4]; exact hb3.far (p := ⟨rb, 13, none⟩) hrtb _
  have hk24 : Keep (fun j => j = rb ∨ j = tb) W2 W4 := by rw [hW4]; exact hk3.set (p := ⟨rb, 13, none⟩) (.inl (.inl rfl)) _
  have hk4 : Keep (· = rb) w W4 := hk2.then hk24 (fun j hj h => by omega)
  have h12l : 13 < rc.length := (List.getElem?_eq_some_iff.1 Hfr.out.log).1
  have hT : TabAt W4 rb tb (((rc.set 12 (.slice (some ⟨tb, 0, none⟩) 2048 2048)).set 44 v44).set 13 (.int .i64 (m : Int))) m rs := by
    refine ⟨hr4, ?_, ?_, ?_, ⟨_, hb4⟩, hm1, hm11, Hrlen.out, Hrow.out⟩
    · obtain ⟨x, hx⟩ := Hfr.out.off
      exact ⟨x, by rw [List.getElem?_set_ne (by decide), List.getElem?_set_ne (by decide), List.getElem?_set_ne (by decide)]; exact hx⟩
    · rw [List.getElem?_set_ne (by decide), List.getElem?_set_ne (by decide), List.getElem?_set_self (by omega)]
    · rw [List.getElem?_set_self (by rw [List.length_set, List.length_set]; exact h12l)]
  have hW4s := hk4.size
  have hdec := oneStream_right (R := R) rb tb (some ⟨g, o, none⟩) c ds _ oq sq n m rs t W4 (Hs.out.keep hk4 (fun j _ h1 h2 => hRr (h2 ▸ h1))) (fun j hj => by have := HRw.out j hj; omega) hT Hd.out (by rw [← HN.out]; exact hlen) hoq2 (by rw [← HN.out]; exact hoqN) hn1 (show OneR ds m rs oq sq n t from Hstr2.out)
  rw [← HN.out] at hdec
  have Hdec := Lib.hid hdec
  clear hdec hT hr4 hb4 hW4 hk24 hk3 hr3 hb3 e13 g13
  go_wp2_with (go_at_call 115; (with_reducible refine Hdec.out.mono ?_); rintro e w5 ⟨hk5, A5, c5, rfl, ho5⟩)
  go_ret3
  refine ⟨hk4.kept hk5, fun _ => ⟨A5, n, c5, ?_, ?_, own_mono ho5 hW4s⟩, fun h => (by cases h)⟩
  · show _ = _
    have := ho5.1
    simpa using this.symm
  · show _ = Ending.returned (.tuple #[.int .i64 ((zz : Nat) : Int), .slice A5 n c5, .nilIface])
    rw [hzz]
    rfl

set_option maxHeartbeats 8000000 in
set_option maxRecDepth 4000 in
theorem hufLit_right1 {R : Nat → Prop} {B : Nat} (rb : Nat) (A : Option Addr) (c : Nat) (ds t : List Nat) (rc : List Value) (b0 zz : Nat) (w : World) (hs : Sl w R A (u8s ds)) (hRw : ∀ k, R k → k < w.heap.size) (hRr : ¬ R rb) (hBr : B ≤ rb) (he : Errs B w) (hfr : Fresh w rb rc) (hd : Bytes ds) (hlen : ds.length < 2 ^ 24) (hc : ds.length ≤ c)
    (hb0 : ds[0]? = some b0) (hk2 : b0 % 4 = 2) (hf : b0 / 4 % 4 = 1) (h : HufR ds 1 t zz) :
    Calls Tryd.prog 107 #[.pointer (some ⟨rb, 0, none⟩), .slice A ds.length c, .int .i64 1, .int .u8 (b0 : Int), .slice none 0 0] w (LitPost (· = rb) w (1, t, zz)) := by
  have h256 := hd b0 (List.mem_of_getElem? hb0)
  obtain ⟨hfit, hzz, hn0, hn1, al, m, q, htree, h1al, hq, hstr⟩ := h
  have hl0 : 0 < ds.length := (List.getElem?_eq_some_iff.1 hb0).1
  obtain ⟨g, o, hRg, rfl, hcell⟩ := hs.get (by simp; omega)
  have hbyte : ∀ j, j < ds.length → ∃ x, ds[j]? = some x ∧ x < 256 ∧ w.cell? ⟨g, o + j, none⟩ = some (.int .u8 (x : Int)) := fun j hj =>
    ⟨ds.getD j 0, by rw [List.getD_eq_getElem?_getD, List.getElem?_eq_getElem hj]; rfl, hd.getD j, hcell j _ (u8s_at hj)⟩
  obtain ⟨b9, hb0y, _, hc0⟩ := hbyte 0 hl0
  obtain rfl : b0 = b9 := Option.some.inj (hb0.symm.trans hb0y)
  have hO : hd2 1 = 3 := rfl
  obtain ⟨n, hn⟩ : ∃ x, x = lmany ds 1 := ⟨_, rfl⟩
  obtain ⟨z, hz⟩ : ∃ x, x = lsize ds 1 := ⟨_, rfl⟩
  rw [hO, ← hz] at hfit hzz hstr
  rw [← hn] at hn0 hn1 hstr
  rw [← hz] at hq
  rw [hO] at htree
  obtain ⟨N, hN⟩ : ∃ N, N = ds.length := ⟨_, rfl⟩
  have hki : (b0 : Int) % 4 = 2 := by omega
  have hfi : (b0 : Int) / 4 % 4 = 1 := by omega
  have hbk : Go.bits .and .u8 (b0 : Int) 3 = 2 := by rw [and_u8_3 h256, hk2]; rfl
  have hbf : Go.bits .and .u8 ((b0 : Int) / 4) 3 = 1 := by
    have h := and_u8_3 (a := b0 / 4) (by omega)
    rw [hf, show ((b0 / 4 : Nat) : Int) = (b0 : Int) / 4 by omega] at h
    exact h
  have hq24 : z < 16777216 := by omega
  have Hbyte := Lib.hid hbyte
  have Hs := Lib.hid hs
  have Hd := Lib.hid hd
  have HRw := Lib.hid hRw
  have Hfr := Lib.hid hfr
  have Htree := Lib.hid htree
  have Hstr := Lib.hid hstr
  have He := Lib.hid he
  have d12 : w.cell? ⟨rb, 12, none⟩ = some (.slice none 0 0) := by rw [hfr.rd.cell]; exact hfr.tab
  have f12 := hfr.rd.frozen 12
  have hrbl := hfr.rd.lt
  rw [← hN] at hlen hc hl0 hfit ⊢
  have HN := Lib.hid hN
  clear hbyte hs hd hRw hfr htree hstr he hcell hN hO hb0y hk2 hf
  go_enter Tryd.func107, Tryd.ntmps107
  obtain ⟨b1, hb1', h1256, hc1⟩ := Hbyte.out 1 (by rw [← HN.out]; omega)
  obtain ⟨b2, hb2', h2256, hc2⟩ := Hbyte.out 2 (by rw [← HN.out]; omega)
  have hz3 : num (ds.take (hd2 1)) = b0 + 256 * b1 + 65536 * b2 := num3 hb0 hb1' hb2'
  have hw2 : (2 : Nat) ^ wd2 1 = 1024 := by decide
  have hn3 : n = b0 / 16 + b1 % 64 * 16 := by rw [hn, lmany, hz3, hw2]; omega
  have hq3 : z = b1 / 64 + b2 * 4 := by rw [hz, lsize, hz3, hw2]; omega
  have hor1 : Go.bits .or .i64 ((b0 : Int) / 16) ((b1 : Int) % 64 * 16) = (n : Int) := by
    have h := or_at (a := b0 / 16) (b := b1 % 64) (p := 16) (s := 4) rfl (by decide) (by omega) (by omega)
    rw [← hn3, show ((b0 / 16 : Nat) : Int) = (b0 : Int) / 16 by omega, show ((b1 % 64 : Nat) : Int) = (b1 : Int) % 64 by omega] at h
    exact h
  have hor2 : Go.bits .or .i64 ((b1 : Int) / 64) ((b2 : Int) * 4) = (z : Int) := by
    have h := or_at (a := b1 / 64) (b := b2) (p := 4) (s := 2) rfl (by decide) (by omega) (by omega)
    rw [← hq3, show ((b1 / 64 : Nat) : Int) = (b1 : Int) / 64 by omega] at h
    exact h
  have ha1 : Go.bits .and .i64 (b1 : Int) 63 = (b1 : Int) % 64 := by rw [and_i64_63 h1256]; omega
  have v1 : IntKind.i64.wrap ((b2 : Int) * 4) = (b2 : Int) * 4 := by rw [IntKind.wrap_i64]; omega
  have hNO : 2 < N := by omega
  have hN1 : 1 < N := by omega
  clear hz3 hw2 hn3 hq3 hb0 hb1' hb2' hn hz
  go_upto_region 10 with (fail)
  go_quiet (fail)
  go_upto_region 29 with (fail)
  go_upto_region 38 with (at_make; refine wpList_make rfl _ _ rfl elU16 .i64 .i64 2048 2048 rfl rfl (Nat.le_refl _) (by omega) ?_; intro w1 hk1 hg1; have hkw1 : Kept w w1 := ((Keep.refl (fun _ => False) w).drewN _).trans hk1; have hrb1 := Hfr.out.rd.kept hkw1; have e12 : w1.cell? ⟨rb, 12, none⟩ = some (.slice none 0 0) := hkw1.cell d12 (fun h => h); have g12 := hrb1.frozen 12)
  obtain ⟨tb, htb⟩ : ∃ x, x = w.heap.size := ⟨_, rfl⟩
  have hg2 : Blk w1 tb 179 (u16s (List.replicate 2048 0)) := by
    rw [htb]
    exact Blk.cast hg1 (by rw [Nat.mul_one, ← made_u16]; exact made_list (.int .u16 0) rfl 2048)
  obtain ⟨W2, hW2⟩ : ∃ x, x = w1.setCell ⟨rb, 12, none⟩ (.slice (some ⟨tb, 0, none⟩) 2048 2048) := ⟨_, rfl⟩
  rw [← htb, ← hW2]
  have hrtb : tb ≠ rb := by omega
  have hk2 : Keep (· = rb) w W2 := by rw [hW2]; exact (Kept.any hkw1 (· = rb)).set (p := ⟨rb, 12, none⟩) (.inl rfl) _
  have hr2 : Blk W2 rb 157 (rc.set 12 (.slice (some ⟨tb, 0, none⟩) 2048 2048)) := by rw [hW2]; exact hrb1.set 12 _
  have ht2 : Blk W2 tb 179 (u16s (List.replicate 2048 0)) := by rw [hW2]; exact hg2.far (p := ⟨rb, 12, none⟩) hrtb _
  have hBw : B ≤ w.heap.size := by obtain ⟨_, _, _, _, _, _, _, _, _, _, _, _, _, _, h9⟩ := He.out; exact h9
  have hW2s : w.heap.size ≤ W2.heap.size := hk2.size
  have h44 : (rc.set 12 (.slice (some ⟨tb, 0, none⟩) 2048 2048))[44]? = some (.slice none 0 0) := by rw [List.getElem?_set_ne (by decide)]; exact Hfr.out.scr
  have h66 : ∃ x : Int, (rc.set 12 (.slice (some ⟨tb, 0, none⟩) 2048 2048))[6]? = some (.int .i64 x) := by
    obtain ⟨x, hx⟩ := Hfr.out.off
    exact ⟨x, by rw [List.getElem?_set_ne (by decide)]; exact hx⟩
  have hread := readHuff_any (R := R) (B := B) rb tb (some ⟨g, o, none⟩) c 3 ds _ W2 (Hs.out.keep hk2 (fun j _ h1 h2 => hRr (h2 ▸ h1))) (fun j hj => by have := HRw.out j hj; omega) hRr (fun h => by have := HRw.out tb h; omega) hr2 h66 h44 ht2 hBr (by omega) (He.out.keep hk2 (fun j hj => by rw [hj]; exact hBr)) Hd.out (by rw [← HN.out]; exact hlen)
  rw [← HN.out] at hread
  replace hread : Calls Tryd.prog 84 #[.pointer (some ⟨rb, 0, none⟩), .slice (some ⟨g, o, none⟩) N c, .int .i64 3, .slice (some ⟨tb, 0, none⟩) 2048 2048] W2 _ := hread
  have Hread := Lib.hid hread
  have e12' : W2.cell? ⟨rb, 12, none⟩ = some (.slice (some ⟨tb, 0, none⟩) 2048 2048) := by
    rw [hr2.cell, List.getElem?_set_self (by have := (List.getElem?_eq_some_iff.1 Hfr.out.tab).1; exact this)]
  have hqz : q < z := by
    have := Hstr.out
    have h := (show 6 ≤ z - q ∧ _ from this).1; omega
  have Htb := Lib.hid htb
  have htbw : w.heap.size ≤ tb := by omega
  have hbgt : B ≤ tb := by omega
  clear hread htb hW2 hg1 hg2 hk1 e12 g12 d12 f12 hkw1 hrb1 ht2
  go_upto_region 41 with (go_at_call 84; (with_reducible refine Hread.out.mono ?_); rintro e w3 ⟨hk3, ⟨v44, hr3⟩, ⟨al', m', q', ht', h1', rfl, hb3⟩ | ⟨ev, _, rfl, hno⟩⟩)
  rotate_left
  · have := hno al m q Htree.out h1al
    rw [← HN.out] at this
    omega
  have heq := Htree.out.symm.trans ht'
  simp only [Option.some.injEq, Prod.mk.injEq] at heq
  obtain ⟨rfl, rfl, rfl⟩ := heq
  have hts := tree_facts Htree.out
  obtain ⟨oq, hoq⟩ : ∃ x, x = 3 + q := ⟨_, rfl⟩
  obtain ⟨sq, hsq⟩ : ∃ x, x = z - q := ⟨_, rfl⟩
  obtain ⟨rs, hrs⟩ : ∃ x, x = rowsTo al m m := ⟨_, rfl⟩
  have hoqi : (3 : Int) + (q : Int) = (oq : Int) := by omega
  rw [hoqi]
  clear hoqi
  rw [← hrs] at hb3
  have hqi : (oq : Int) - 3 = (q : Int) := by omega
  have hsi : (z : Int) - (q : Int) = (sq : Int) := by omega
  have hq0 : q ≤ z := hq
  have g13 := hr3.frozen 13
  have e13 : w3.cell? ⟨rb, 13, none⟩ = some (.int .i64 0) := by
    rw [hr3.cell, List.getElem?_set_ne (by decide), List.getElem?_set_ne (by decide)]; exact Hfr.out.log
  have hm11 := hts.2.1
  have hm1 := hts.2.2.1
  have hstr2 := Hstr.out
  rw [← hrs, ← hoq, ← hsq] at hstr2
  have Hstr2 := Lib.hid hstr2
  have hrow : ∀ x ∈ rs, x.1 < 256 ∧ x.2 ≤ m := fun x hx => by
    rw [hrs] at hx
    obtain ⟨v, h2, h3, h4, h5⟩ := rowsTo_mem hx
    obtain ⟨ws, hws, htp⟩ := (treeS_some Htree.out).2.2.2
    have hwl := (wtsIn_fine (fun y hy => Hd.out y (List.mem_of_mem_drop hy)) hws).2
    have hal : al.length ≤ 256 := by rw [(treeP_some htp).2.2.2.2.1, List.length_append]; simp; omega
    have := (List.getElem?_eq_some_iff.1 h4).1
    omega
  have hrlen : rs.length = 2 ^ m := by rw [hrs, rows_length hts.2.2.2.1, hts.2.2.2.2]
  have Hrow := Lib.hid hrow
  have Hrlen := Lib.hid hrlen
  have Hts := Lib.hid hts
  have hoqN : oq + sq ≤ N := by omega
  have hoq2 : 2 ≤ oq := by omega
  have Hoq := Lib.hid hoq
  have Hsq := Lib.hid hsq
  clear ht' h1' hts hoq hsq hstr2 hrow hrlen Hread Hstr hrs e12'
  go_upto_region 51 with (fail)
  obtain ⟨W4, hW4⟩ : ∃ x, x = w3.setCell ⟨rb, 13, none⟩ (.int .i64 (m : Int)) := ⟨_, rfl⟩
  rw [← hW4]
  have hr4 : Blk W4 rb 157 (((rc.set 12 (.slice (some ⟨tb, 0, none⟩) 2048 2048)).set 44 v44).set 13 (.int .i64 (m : Int))) := by rw [hW4]; exact hr3.set 13 _
  have hb4 : Blk W4 tb 179 (u16s (rs.map enc ++ List.replicate (2048 - 2 ^ m) 0)) := by rw [hW4]; exact hb3.far (p := ⟨rb, 13, none⟩) hrtb _
  have hk24 : Keep (fun j => j = rb ∨ j = tb) W2 W4 := by rw [hW4]; exact hk3.set (p := ⟨rb, 13, none⟩) (.inl (.inl rfl)) _
  have hk4 : Keep (· = rb) w W4 := hk2.then hk24 (fun j hj h => by omega)
  have h12l : 13 < rc.length := (List.getElem?_eq_some_iff.1 Hfr.out.log).1
  have hT : TabAt W4 rb tb (((rc.set 12 (.slice (some ⟨tb, 0, none⟩) 2048 2048)).set 44 v44).set 13 (.int .i64 (m : Int))) m rs := by
    refine ⟨hr4, ?_, ?_, ?_, ⟨_, hb4⟩, hm1, hm11, Hrlen.out, Hrow.out⟩
    · obtain ⟨x, hx⟩ := Hfr.out.off
      exact ⟨x, by rw [List.getElem?_set_ne (by decide), List.getElem?_set_ne (by decide), List.getElem?_set_ne (by decide)]; exact hx⟩
    · rw [List.getElem?_set_ne (by decide), List.getElem?_set_ne (by decide), List.getElem?_set_self (by omega)]
    · rw [List.getElem?_set_self (by rw [List.length_set, List.length_set]; exact h12l)]
  have hW4s := hk4.size
  have hdec := fourStreams_right (R := R) rb tb (some ⟨g, o, none⟩) c ds _ oq sq n m rs t W4 (Hs.out.keep hk4 (fun j _ h1 h2 => hRr (h2 ▸ h1))) (fun j hj => by have := HRw.out j hj; omega) hT Hd.out (by rw [← HN.out]; exact hlen) (by rw [← HN.out]; exact hc) hoq2 (by rw [← HN.out]; exact hoqN) (show 6 ≤ sq ∧ FourR ds m rs oq sq n t from Hstr2.out).1 hn1 (show 6 ≤ sq ∧ FourR ds m rs oq sq n t from Hstr2.out).2
  rw [← HN.out] at hdec
  have Hdec := Lib.hid hdec
  clear hdec hT hr4 hb4 hW4 hk24 hk3 hr3 hb3 e13 g13
  go_wp2_with (go_at_call 116; (with_reducible refine Hdec.out.mono ?_); rintro e w5 ⟨hk5, A5, c5, rfl, ho5⟩)
  go_ret3
  refine ⟨hk4.kept hk5, fun _ => ⟨A5, n, c5, ?_, ?_, own_mono ho5 hW4s⟩, fun h => (by cases h)⟩
  · show _ = _
    have := ho5.1
    simpa using this.symm
  · show _ = Ending.returned (.tuple #[.int .i64 ((zz : Nat) : Int), .slice A5 n c5, .nilIface])
    rw [hzz]
    rfl

set_option maxHeartbeats 8000000 in
set_option maxRecDepth 4000 in
theorem hufLit_right2 {R : Nat → Prop} {B : Nat} (rb : Nat) (A : Option Addr) (c : Nat) (ds t : List Nat) (rc : List Value) (b0 zz : Nat) (w : World) (hs : Sl w R A (u8s ds)) (hRw : ∀ k, R k → k < w.heap.size) (hRr : ¬ R rb) (hBr : B ≤ rb) (he : Errs B w) (hfr : Fresh w rb rc) (hd : Bytes ds) (hlen : ds.length < 2 ^ 24) (hc : ds.length ≤ c)
    (hb0 : ds[0]? = some b0) (hk2 : b0 % 4 = 2) (hf : b0 / 4 % 4 = 2) (h : HufR ds 2 t zz) :
    Calls Tryd.prog 107 #[.pointer (some ⟨rb, 0, none⟩), .slice A ds.length c, .int .i64 1, .int .u8 (b0 : Int), .slice none 0 0] w (LitPost (· = rb) w (1, t, zz)) := by
  have h256 := hd b0 (List.mem_of_getElem? hb0)
  obtain ⟨hfit, hzz, hn0, hn1, al, m, q, htree, h1al, hq, hstr⟩ := h
  have hl0 : 0 < ds.length := (List.getElem?_eq_some_iff.1 hb0).1
  obtain ⟨g, o, hRg, rfl, hcell⟩ := hs.get (by simp; omega)
  have hbyte : ∀ j, j < ds.length → ∃ x, ds[j]? = some x ∧ x < 256 ∧ w.cell? ⟨g, o + j, none⟩ = some (.int .u8 (x : Int)) := fun j hj =>
    ⟨ds.getD j 0, by rw [List.getD_eq_getElem?_getD, List.getElem?_eq_getElem hj]; rfl, hd.getD j, hcell j _ (u8s_at hj)⟩
  obtain ⟨b9, hb0y, _, hc0⟩ := hbyte 0 hl0
  obtain rfl : b0 = b9 := Option.some.inj (hb0.symm.trans hb0y)
  have hO : hd2 2 = 4 := rfl
  obtain ⟨n, hn⟩ : ∃ x, x = lmany ds 2 := ⟨_, rfl⟩
  obtain ⟨z, hz⟩ : ∃ x, x = lsize ds 2 := ⟨_, rfl⟩
  rw [hO, ← hz] at hfit hzz hstr
  rw [← hn] at hn0 hn1 hstr
  rw [← hz] at hq
  rw [hO] at htree
  obtain ⟨N, hN⟩ : ∃ N, N = ds.length := ⟨_, rfl⟩
  have hki : (b0 : Int) % 4 = 2 := by omega
  have hfi : (b0 : Int) / 4 % 4 = 2 := by omega
  have hbk : Go.bits .and .u8 (b0 : Int) 3 = 2 := by rw [and_u8_3 h256, hk2]; rfl
  have hbf : Go.bits .and .u8 ((b0 : Int) / 4) 3 = 2 := by
    have h := and_u8_3 (a := b0 / 4) (by omega)
    rw [hf, show ((b0 / 4 : Nat) : Int) = (b0 : Int) / 4 by omega] at h
    exact h
  have hq24 : z < 16777216 := by omega
  have Hbyte := Lib.hid hbyte
  have Hs := Lib.hid hs
  have Hd := Lib.hid hd
  have HRw := Lib.hid hRw
  have Hfr := Lib.hid hfr
  have Htree := Lib.hid htree
  have Hstr := Lib.hid hstr
  have He := Lib.hid he
  have d12 : w.cell? ⟨rb, 12, none⟩ = some (.slice none 0 0) := by rw [hfr.rd.cell]; exact hfr.tab
  have f12 := hfr.rd.frozen 12
  have hrbl := hfr.rd.lt
  rw [← hN] at hlen hc hl0 hfit ⊢
  have HN := Lib.hid hN
  clear hbyte hs hd hRw hfr htree hstr he hcell hN hO hb0y hk2 hf
  go_enter Tryd.func107, Tryd.ntmps107
  obtain ⟨b1, hb1', h1256, hc1⟩ := Hbyte.out 1 (by rw [← HN.out]; omega)
  obtain ⟨b2, hb2', h2256, hc2⟩ := Hbyte.out 2 (by rw [← HN.out]; omega)
  obtain ⟨b3, hb3', h3256, hc3⟩ := Hbyte.out 3 (by rw [← HN.out]; omega)
  have hz3 : num (ds.take (hd2 2)) = b0 + 256 * b1 + 65536 * b2 + 16777216 * b3 := num4 hb0 hb1' hb2' hb3'
  have hw2 : (2 : Nat) ^ wd2 2 = 16384 := by decide
  have hn3 : n = b0 / 16 + b1 * 16 + b2 % 4 * 4096 := by rw [hn, lmany, hz3, hw2]; omega
  have hq3 : z = b2 / 4 + b3 * 64 := by rw [hz, lsize, hz3, hw2]; omega
  obtain ⟨n0, hn0⟩ : ∃ x, x = b0 / 16 + b1 * 16 := ⟨_, rfl⟩
  have hor0 : Go.bits .or .i64 ((b0 : Int) / 16) ((b1 : Int) * 16) = (n0 : Int) := by
    have h := or_at (a := b0 / 16) (b := b1) (p := 16) (s := 4) rfl (by decide) (by omega) (by omega)
    rw [← hn0, show ((b0 / 16 : Nat) : Int) = (b0 : Int) / 16 by omega] at h
    exact h
  have hor1 : Go.bits .or .i64 (n0 : Int) ((b2 : Int) % 4 * 4096) = (n : Int) := by
    have h := or_at (a := n0) (b := b2 % 4) (p := 4096) (s := 12) rfl (by decide) (by omega) (by omega)
    rw [hn0, ← hn3, ← hn0, show ((b2 % 4 : Nat) : Int) = (b2 : Int) % 4 by omega] at h
    exact h
  have hor2 : Go.bits .or .i64 ((b2 : Int) / 4) ((b3 : Int) * 64) = (z : Int) := by
    have h := or_at (a := b2 / 4) (b := b3) (p := 64) (s := 6) rfl (by decide) (by omega) (by omega)
    rw [← hq3, show ((b2 / 4 : Nat) : Int) = (b2 : Int) / 4 by omega] at h
    exact h
  have ha1 : Go.bits .and .i64 (b2 : Int) 3 = (b2 : Int) % 4 := by rw [and_i64_3 h2256]; omega
  have v1 : IntKind.i64.wrap ((b3 : Int) * 64) = (b3 : Int) * 64 := by rw [IntKind.wrap_i64]; omega
  have v2 : IntKind.i64.wrap ((b1 : Int) * 16) = (b1 : Int) * 16 := by rw [IntKind.wrap_i64]; omega
  have v3 : IntKind.i64.wrap ((b2 : Int) % 4 * 4096) = (b2 : Int) % 4 * 4096 := by rw [IntKind.wrap_i64]; omega
  clear hn0
  have hNO : 3 < N := by omega
  have hN1 : 1 < N := by omega
  have hN2 : 2 < N := by omega
  clear hz3 hw2 hn3 hq3 hb0 hb1' hb2' hb3' hn hz
  go_upto_region 18 with (fail)
  go_quiet (fail)
  go_upto_region 19 with (fail)
  go_quiet (fail)
  go_upto_region 29 with (fail)
  go_upto_region 38 with (at_make; refine wpList_make rfl _ _ rfl elU16 .i64 .i64 2048 2048 rfl rfl (Nat.le_refl _) (by omega) ?_; intro w1 hk1 hg1; have hkw1 : Kept w w1 := ((Keep.refl (fun _ => False) w).drewN _).trans hk1; have hrb1 := Hfr.out.rd.kept hkw1; have e12 : w1.cell? ⟨rb, 12, none⟩ = some (.slice none 0 0) := hkw1.cell d12 (fun h => h); have g12 := hrb1.frozen 12)
  obtain ⟨tb, htb⟩ : ∃ x, x = w.heap.size := ⟨_, rfl⟩
  have hg2 : Blk w1 tb 179 (u16s (List.replicate 2048 0)) := by
    rw [htb]
    exact Blk.cast hg1 (by rw [Nat.mul_one, ← made_u16]; exact made_list (.int .u16 0) rfl 2048)
  obtain ⟨W2, hW2⟩ : ∃ x, x = w1.setCell ⟨rb, 12, none⟩ (.slice (some ⟨tb, 0, none⟩) 2048 2048) := ⟨_, rfl⟩
  rw [← htb, ← hW2]
  have hrtb : tb ≠ rb := by omega
  have hk2 : Keep (· = rb) w W2 := by rw [hW2]; exact (Kept.any hkw1 (· = rb)).set (p := ⟨rb, 12, none⟩) (.inl rfl) _
  have hr2 : Blk W2 rb 157 (rc.set 12 (.slice (some ⟨tb, 0, none⟩) 2048 2048)) := by rw [hW2]; exact hrb1.set 12 _
  have ht2 : Blk W2 tb 179 (u16s (List.replicate 2048 0)) := by rw [hW2]; exact hg2.far (p := ⟨rb, 12, none⟩) hrtb _
  have hBw : B ≤ w.heap.size := by obtain ⟨_, _, _, _, _, _, _, _, _, _, _, _, _, _, h9⟩ := He.out; exact h9
  have hW2s : w.heap.size ≤ W2.heap.size := hk2.size
  have h44 : (rc.set 12 (.slice (some ⟨tb, 0, none⟩) 2048 2048))[44]? = some (.slice none 0 0) := by rw [List.getElem?_set_ne (by decide)]; exact Hfr.out.scr
  have h66 : ∃ x : Int, (rc.set 12 (.slice (some ⟨tb, 0, none⟩) 2048 2048))[6]? = some (.int .i64 x) := by
    obtain ⟨x, hx⟩ := Hfr.out.off
    exact ⟨x, by rw [List.getElem?_set_ne (by decide)]; exact hx⟩
  have hread := readHuff_any (R := R) (B := B) rb tb (some ⟨g, o, none⟩) c 4 ds _ W2 (Hs.out.keep hk2 (fun j _ h1 h2 => hRr (h2 ▸ h1))) (fun j hj => by have := HRw.out j hj; omega) hRr (fun h => by have := HRw.out tb h; omega) hr2 h66 h44 ht2 hBr (by omega) (He.out.keep hk2 (fun j hj => by rw [hj]; exact hBr)) Hd.out (by rw [← HN.out]; exact hlen)
  rw [← HN.out] at hread
  replace hread : Calls Tryd.prog 84 #[.pointer (some ⟨rb, 0, none⟩), .slice (some ⟨g, o, none⟩) N c, .int .i64 4, .slice (some ⟨tb, 0, none⟩) 2048 2048] W2 _ := hread
  have Hread := Lib.hid hread
  have e12' : W2.cell? ⟨rb, 12, none⟩ = some (.slice (some ⟨tb, 0, none⟩) 2048 2048) := by
    rw [hr2.cell, List.getElem?_set_self (by have := (List.getElem?_eq_some_iff.1 Hfr.out.tab).1; exact this)]
  have hqz : q < z := by
    have := Hstr.out
    have h := (show 6 ≤ z - q ∧ _ from this).1; omega
  have Htb := Lib.hid htb
  have htbw : w.heap.size ≤ tb := by omega
  have hbgt : B ≤ tb := by omega
  clear hread htb hW2 hg1 hg2 hk1 e12 g12 d12 f12 hkw1 hrb1 ht2
  go_upto_region 41 with (go_at_call 84; (with_reducible refine Hread.out.mono ?_); rintro e w3 ⟨hk3, ⟨v44, hr3⟩, ⟨al', m', q', ht', h1', rfl, hb3⟩ | ⟨ev, _, rfl, hno⟩⟩)
  rotate_left
  · have := hno al m q Htree.out h1al
    rw [← HN.out] at this
    omega
  have heq := Htree.out.symm.trans ht'
  simp only [Option.some.injEq, Prod.mk.injEq] at heq
  obtain ⟨rfl, rfl, rfl⟩ := heq
  have hts := tree_facts Htree.out
  obtain ⟨oq, hoq⟩ : ∃ x, x = 4 + q := ⟨_, rfl⟩
  obtain ⟨sq, hsq⟩ : ∃ x, x = z - q := ⟨_, rfl⟩
  obtain ⟨rs, hrs⟩ : ∃ x, x = rowsTo al m m := ⟨_, rfl⟩
  have hoqi : (4 : Int) + (q : Int) = (oq : Int) := by omega
  rw [hoqi]
  clear hoqi
  rw [← hrs] at hb3
  have hqi : (oq : Int) - 4 = (q : Int) := by omega
  have hsi : (z : Int) - (q : Int) = (sq : Int) := by omega
  have hq0 : q ≤ z := hq
  have g13 := hr3.frozen 13
  have e13 : w3.cell? ⟨rb, 13, none⟩ = some (.int .i64 0) := by
    rw [hr3.cell, List.getElem?_set_ne (by decide), List.getElem?_set_ne (by decide)]; exact Hfr.out.log
  have hm11 := hts.2.1
  have hm1 := hts.2.2.1
  have hstr2 := Hstr.out
  rw [← hrs, ← hoq, ← hsq] at hstr2
  have Hstr2 := Lib.hid hstr2
  have hrow : ∀ x ∈ rs, x.1 < 256 ∧ x.2 ≤ m := fun x hx => by
    rw [hrs] at hx
    obtain ⟨v, h2, h3, h4, h5⟩ := rowsTo_mem hx
    obtain ⟨ws, hws, htp⟩ := (treeS_some Htree.out).2.2.2
    have hwl := (wtsIn_fine (fun y hy => Hd.out y (List.mem_of_mem_drop hy)) hws).2
    have hal : al.length ≤ 256 := by rw [(treeP_some htp).2.2.2.2.1, List.length_append]; simp; omega
    have := (List.getElem?_eq_some_iff.1 h4).1
    omega
  have hrlen : rs.length = 2 ^ m := by rw [hrs, rows_length hts.2.2.2.1, hts.2.2.2.2]
  have Hrow := Lib.hid hrow
  have Hrlen := Lib.hid hrlen
  have Hts := Lib.hid hts
  have hoqN : oq + sq ≤ N := by omega
  have hoq2 : 2 ≤ oq := by omega
  have Hoq := Lib.hid hoq
  have Hsq := Lib.hid hsq
  clear ht' h1' hts hoq hsq hstr2 hrow hrlen Hread Hstr hrs e12'
  go_upto_region 51 with (fail)
  obtain ⟨W4, hW4⟩ : ∃ x, x = w3.setCell ⟨rb, 13, none⟩ (.int .i64 (m : Int)) := ⟨_, rfl⟩
  rw [← hW4]
  have hr4 : Blk W4 rb 157 (((rc.set 12 (.slice (some ⟨tb, 0, none⟩) 2048 2048)).set 44 v44).set 13 (.int .i64 (m : Int))) := by rw [hW4]; exact hr3.set 13 _
  have hb4 : Blk W4 tb 179 (u16s (rs.map enc ++ List.replicate (2048 - 2 ^ m) 0)) := by rw [hW4]; exact hb3.far (p := ⟨rb, 13, none⟩) hrtb _
  have hk24 : Keep (fun j => j = rb ∨ j = tb) W2 W4 := by rw [hW4]; exact hk3.set (p := ⟨rb, 13, none⟩) (.inl (.inl rfl)) _
  have hk4 : Keep (· = rb) w W4 := hk2.then hk24 (fun j hj h => by omega)
  have h12l : 13 < rc.length := (List.getElem?_eq_some_iff.1 Hfr.out.log).1
  have hT : TabAt W4 rb tb (((rc.set 12 (.slice (some ⟨tb, 0, none⟩) 2048 2048)).set 44 v44).set 13 (.int .i64 (m : Int))) m rs := by
    refine ⟨hr4, ?_, ?_, ?_, ⟨_, hb4⟩, hm1, hm11, Hrlen.out, Hrow.out⟩
    · obtain ⟨x, hx⟩ := Hfr.out.off
      exact ⟨x, by rw [List.getElem?_set_ne (by decide), List.getElem?_set_ne (by decide), List.getElem?_set_ne (by decide)]; exact hx⟩
    · rw [List.getElem?_set_ne (by decide), List.getElem?_set_ne (by decide), List.getElem?_set_self (by omega)]
    · rw [List.getElem?_set_self (by rw [List.length_set, List.length_set]; exact h12l)]
  have hW4s := hk4.size
  have hdec := fourStreams_right (R := R) rb tb (some ⟨g, o, none⟩) c ds _ oq sq n m rs t W4 (Hs.out.keep hk4 (fun j _ h1 h2 => hRr (h2 ▸ h1))) (fun j hj => by have := HRw.out j hj; omega) hT Hd.out (by rw [← HN.out]; exact hlen) (by rw [← HN.out]; exact hc) hoq2 (by rw [← HN.out]; exact hoqN) (show 6 ≤ sq ∧ FourR ds m rs oq sq n t from Hstr2.out).1 hn1 (show 6 ≤ sq ∧ FourR ds m rs oq sq n t from Hstr2.out).2
  rw [← HN.out] at hdec
  have Hdec := Lib.hid hdec
  clear hdec hT hr4 hb4 hW4 hk24 hk3 hr3 hb3 e13 g13
  go_wp2_with (go_at_call 116; (with_reducible refine Hdec.out.mono ?_); rintro e w5 ⟨hk5, A5, c5, rfl, ho5⟩)
  go_ret3
  refine ⟨hk4.kept hk5, fun _ => ⟨A5, n, c5, ?_, ?_, own_mono ho5 hW4s⟩, fun h => (by cases h)⟩
  · show _ = _
    have := ho5.1
    simpa using this.symm
  · show _ = Ending.returned (.tuple #[.int .i64 ((zz : Nat) : Int), .slice A5 n c5, .nilIface])
    rw [hzz]
    rfl

set_option maxHeartbeats 8000000 in
set_option maxRecDepth 4000 in
theorem hufLit_right3 {R : Nat → Prop} {B : Nat} (rb : Nat) (A : Option Addr) (c : Nat) (ds t : List Nat) (rc : List Value) (b0 zz : Nat) (w : World) (hs : Sl w R A (u8s ds)) (hRw : ∀ k, R k → k < w.heap.size) (hRr : ¬ R rb) (hBr : B ≤ rb) (he : Errs B w) (hfr : Fresh w rb rc) (hd : Bytes ds) (hlen : ds.length < 2 ^ 24) (hc : ds.length ≤ c)
    (hb0 : ds[0]? = some b0) (hk2 : b0 % 4 = 2) (hf : b0 / 4 % 4 = 3) (h : HufR ds 3 t zz) :
    Calls Tryd.prog 107 #[.pointer (some ⟨rb, 0, none⟩), .slice A ds.length c, .int .i64 1, .int .u8 (b0 : Int), .slice none 0 0] w (LitPost (· = rb) w (1, t, zz)) := by
  have h256 := hd b0 (List.mem_of_getElem? hb0)
  obtain ⟨hfit, hzz, hn0, hn1, al, m, q, htree, h1al, hq, hstr⟩ := h
  have hl0 : 0 < ds.length := (List.getElem?_eq_some_iff.1 hb0).1
  obtain ⟨g, o, hRg, rfl, hcell⟩ := hs.get (by simp; omega)
  have hbyte : ∀ j, j < ds.length → ∃ x, ds[j]? = some x ∧ x < 256 ∧ w.cell? ⟨g, o + j, none⟩ = some (.int .u8 (x : Int)) := fun j hj =>
    ⟨ds.getD j 0, by rw [List.getD_eq_getElem?_getD, List.getElem?_eq_getElem hj]; rfl, hd.getD j, hcell j _ (u8s_at hj)⟩
  obtain ⟨b9, hb0y, _, hc0⟩ := hbyte 0 hl0
  obtain rfl : b0 = b9 := Option.some.inj (hb0.symm.trans hb0y)
  have hO : hd2 3 = 5 := rfl
  obtain ⟨n, hn⟩ : ∃ x, x = lmany ds 3 := ⟨_, rfl⟩
  obtain ⟨z, hz⟩ : ∃ x, x = lsize ds 3 := ⟨_, rfl⟩
  rw [hO, ← hz] at hfit hzz hstr
  rw [← hn] at hn0 hn1 hstr
  rw [← hz] at hq
  rw [hO] at htree
  obtain ⟨N, hN⟩ : ∃ N, N = ds.length := ⟨_, rfl⟩
  have hki : (b0 : Int) % 4 = 2 := by omega
  have hfi : (b0 : Int) / 4 % 4 = 3 := by omega
  have hbk : Go.bits .and .u8 (b0 : Int) 3 = 2 := by rw [and_u8_3 h256, hk2]; rfl
  have hbf : Go.bits .and .u8 ((b0 : Int) / 4) 3 = 3 := by
    have h := and_u8_3 (a := b0 / 4) (by omega)
    rw [hf, show ((b0 / 4 : Nat) : Int) = (b0 : Int) / 4 by omega] at h
    exact h
  have hq24 : z < 16777216 := by omega
  have Hbyte := Lib.hid hbyte
  have Hs := Lib.hid hs
  have Hd := Lib.hid hd
  have HRw := Lib.hid hRw
  have Hfr := Lib.hid hfr
  have Htree := Lib.hid htree
  have Hstr := Lib.hid hstr
  have He := Lib.hid he
  have d12 : w.cell? ⟨rb, 12, none⟩ = some (.slice none 0 0) := by rw [hfr.rd.cell]; exact hfr.tab
  have f12 := hfr.rd.frozen 12
  have hrbl := hfr.rd.lt
  rw [← hN] at hlen hc hl0 hfit ⊢
  have HN := Lib.hid hN
  clear hbyte hs hd hRw hfr htree hstr he hcell hN hO hb0y hk2 hf
  go_enter Tryd.func107, Tryd.ntmps107
  obtain ⟨b1, hb1', h1256, hc1⟩ := Hbyte.out 1 (by rw [← HN.out]; omega)
  obtain ⟨b2, hb2', h2256, hc2⟩ := Hbyte.out 2 (by rw [← HN.out]; omega)
  obtain ⟨b3, hb3', h3256, hc3⟩ := Hbyte.out 3 (by rw [← HN.out]; omega)
  obtain ⟨b4, hb4', h4256, hc4⟩ := Hbyte.out 4 (by rw [← HN.out]; omega)
  have hz3 : num (ds.take (hd2 3)) = b0 + 256 * b1 + 65536 * b2 + 16777216 * b3 + 4294967296 * b4 := num5 hb0 hb1' hb2' hb3' hb4'
  have hw2 : (2 : Nat) ^ wd2 3 = 262144 := by decide
  have hn3 : n = b0 / 16 + b1 * 16 + b2 % 64 * 4096 := by rw [hn, lmany, hz3, hw2]; omega
  have hq3 : z = b2 / 64 + b3 * 4 + b4 * 1024 := by rw [hz, lsize, hz3, hw2]; omega
  obtain ⟨n0, hn0⟩ : ∃ x, x = b0 / 16 + b1 * 16 := ⟨_, rfl⟩
  obtain ⟨z0, hz0⟩ : ∃ x, x = b2 / 64 + b3 * 4 := ⟨_, rfl⟩
  have hor0 : Go.bits .or .i64 ((b0 : Int) / 16) ((b1 : Int) * 16) = (n0 : Int) := by
    have h := or_at (a := b0 / 16) (b := b1) (p := 16) (s := 4) rfl (by decide) (by omega) (by omega)
    rw [← hn0, show ((b0 / 16 : Nat) : Int) = (b0 : Int) / 16 by omega] at h
    exact h
  have hor1 : Go.bits .or .i64 (n0 : Int) ((b2 : Int) % 64 * 4096) = (n : Int) := by
    have h := or_at (a := n0) (b := b2 % 64) (p := 4096) (s := 12) rfl (by decide) (by omega) (by omega)
    rw [hn0, ← hn3, ← hn0, show ((b2 % 64 : Nat) : Int) = (b2 : Int) % 64 by omega] at h
    exact h
  have hor2 : Go.bits .or .i64 ((b2 : Int) / 64) ((b3 : Int) * 4) = (z0 : Int) := by
    have h := or_at (a := b2 / 64) (b := b3) (p := 4) (s := 2) rfl (by decide) (by omega) (by omega)
    rw [← hz0, show ((b2 / 64 : Nat) : Int) = (b2 : Int) / 64 by omega] at h
    exact h
  have hor3 : Go.bits .or .i64 (z0 : Int) ((b4 : Int) * 1024) = (z : Int) := by
    have h := or_at (a := z0) (b := b4) (p := 1024) (s := 10) rfl (by decide) (by omega) (by omega)
    rw [hz0, ← hq3, ← hz0] at h
    exact h
  have ha1 : Go.bits .and .i64 (b2 : Int) 63 = (b2 : Int) % 64 := by rw [and_i64_63 h2256]; omega
  have v1 : IntKind.i64.wrap ((b3 : Int) * 4) = (b3 : Int) * 4 := by rw [IntKind.wrap_i64]; omega
  have v2 : IntKind.i64.wrap ((b1 : Int) * 16) = (b1 : Int) * 16 := by rw [IntKind.wrap_i64]; omega
  have v3 : IntKind.i64.wrap ((b2 : Int) % 64 * 4096) = (b2 : Int) % 64 * 4096 := by rw [IntKind.wrap_i64]; omega
  have v4 : IntKind.i64.wrap ((b4 : Int) * 1024) = (b4 : Int) * 1024 := by rw [IntKind.wrap_i64]; omega
  clear hn0 hz0
  have hNO : 4 < N := by omega
  have hN1 : 1 < N := by omega
  have hN2 : 2 < N := by omega
  have hN3 : 3 < N := by omega
  clear hz3 hw2 hn3 hq3 hb0 hb1' hb2' hb3' hb4' hn hz
  go_upto_region 25 with (fail)
  go_quiet (fail)
  go_upto_region 26 with (fail)
  go_quiet (fail)
  go_upto_region 29 with (fail)
  go_upto_region 38 with (at_make; refine wpList_make rfl _ _ rfl elU16 .i64 .i64 2048 2048 rfl rfl (Nat.le_refl _) (by omega) ?_; intro w1 hk1 hg1; have hkw1 : Kept w w1 := ((Keep.refl (fun _ => False) w).drewN _).trans hk1; have hrb1 := Hfr.out.rd.kept hkw1; have e12 : w1.cell? ⟨rb, 12, none⟩ = some (.slice none 0 0) := hkw1.cell d12 (fun h => h); have g12 := hrb1.frozen 12)
  obtain ⟨tb, htb⟩ : ∃ x, x = w.heap.size := ⟨_, rfl⟩
  have hg2 : Blk w1 tb 179 (u16s (List.replicate 2048 0)) := by
    rw [htb]
    exact Blk.cast hg1 (by rw [Nat.mul_one, ← made_u16]; exact made_list (.int .u16 0) rfl 2048)
  obtain ⟨W2, hW2⟩ : ∃ x, x = w1.setCell ⟨rb, 12, none⟩ (.slice (some ⟨tb, 0, none⟩) 2048 2048) := ⟨_, rfl⟩
  rw [← htb, ← hW2]
  have hrtb : tb ≠ rb := by omega
  have hk2 : Keep (· = rb) w W2 := by rw [hW2]; exact (Kept.any hkw1 (· = rb)).set (p := ⟨rb, 12, none⟩) (.inl rfl) _
  have hr2 : Blk W2 rb 157 (rc.set 12 (.slice (some ⟨tb, 0, none⟩) 2048 2048)) := by rw [hW2]; exact hrb1.set 12 _
  have ht2 : Blk W2 tb 179 (u16s (List.replicate 2048 0)) := by rw [hW2]; exact hg2.far (p := ⟨rb, 12, none⟩) hrtb _
  have hBw : B ≤ w.heap.size := by obtain ⟨_, _, _, _, _, _, _, _, _, _, _, _, _, _, h9⟩ := He.out; exact h9
  have hW2s : w.heap.size ≤ W2.heap.size := hk2.size
  have h44 : (rc.set 12 (.slice (some ⟨tb, 0, none⟩) 2048 2048))[44]? = some (.slice none 0 0) := by rw [List.getElem?_set_ne (by decide)]; exact Hfr.out.scr
  have h66 : ∃ x : Int, (rc.set 12 (.slice (some ⟨tb, 0, none⟩) 2048 2048))[6]? = some (.int .i64 x) := by
    obtain ⟨x, hx⟩ := Hfr.out.off
    exact ⟨x, by rw [List.getElem?_set_ne (by decide)]; exact hx⟩
  have hread := readHuff_any (R := R) (B := B) rb tb (some ⟨g, o, none⟩) c 5 ds _ W2 (Hs.out.keep hk2 (fun j _ h1 h2 => hRr (h2 ▸ h1))) (fun j hj => by have := HRw.out j hj; omega) hRr (fun h => by have := HRw.out tb h; omega) hr2 h66 h44 ht2 hBr (by omega) (He.out.keep hk2 (fun j hj => by rw [hj]; exact hBr)) Hd.out (by rw [← HN.out]; exact hlen)
  rw [← HN.out] at hread
  replace hread : Calls Tryd.prog 84 #[.pointer (some ⟨rb, 0, none⟩), .slice (some ⟨g, o, none⟩) N c, .int .i64 5, .slice (some ⟨tb, 0, none⟩) 2048 2048] W2 _ := hread
  have Hread := Lib.hid hread
  have e12' : W2.cell? ⟨rb, 12, none⟩ = some (.slice (some ⟨tb, 0, none⟩) 2048 2048) := by
    rw [hr2.cell, List.getElem?_set_self (by have := (List.getElem?_eq_some_iff.1 Hfr.out.tab).1; exact this)]
  have hqz : q < z := by
    have := Hstr.out
    have h := (show 6 ≤ z - q ∧ _ from this).1; omega
  have Htb := Lib.hid htb
  have htbw : w.heap.size ≤ tb := by omega
  have hbgt : B ≤ tb := by omega
  clear hread htb hW2 hg1 hg2 hk1 e12 g12 d12 f12 hkw1 hrb1 ht2
  go_upto_region 41 with (go_at_call 84; (with_reducible refine Hread.out.mono ?_); rintro e w3 ⟨hk3, ⟨v44, hr3⟩, ⟨al', m', q', ht', h1', rfl, hb3⟩ | ⟨ev, _, rfl, hno⟩⟩)
  rotate_left
  · have := hno al m q Htree.out h1al
    rw [← HN.out] at this
    omega
  have heq := Htree.out.symm.trans ht'
  simp only [Option.some.injEq, Prod.mk.injEq] at heq
  obtain ⟨rfl, rfl, rfl⟩ := heq
  have hts := tree_facts Htree.out
  obtain ⟨oq, hoq⟩ : ∃ x, x = 5 + q := ⟨_, rfl⟩
  obtain ⟨sq, hsq⟩ : ∃ x, x = z - q := ⟨_, rfl⟩
  obtain ⟨rs, hrs⟩ : ∃ x, x = rowsTo al m m := ⟨_, rfl⟩
  have hoqi : (5 : Int) + (q : Int) = (oq : Int) := by omega
  rw [hoqi]
  clear hoqi
  rw [← hrs] at hb3
  have hqi : (oq : Int) - 5 = (q : Int) := by omega
  have hsi : (z : Int) - (q : Int) = (sq : Int) := by omega
  have hq0 : q ≤ z := hq
  have g13 := hr3.frozen 13
  have e13 : w3.cell? ⟨rb, 13, none⟩ = some (.int .i64 0) := by
    rw [hr3.cell, List.getElem?_set_ne (by decide), List.getElem?_set_ne (by decide)]; exact Hfr.out.log
  have hm11 := hts.2.1
  have hm1 := hts.2.2.1
  have hstr2 := Hstr.out
  rw [← hrs, ← hoq, ← hsq] at hstr2
  have Hstr2 := Lib.hid hstr2
  have hrow : ∀ x ∈ rs, x.1 < 256 ∧ x.2 ≤ m := fun x hx => by
    rw [hrs] at hx
    obtain ⟨v, h2, h3, h4, h5⟩ := rowsTo_mem hx
    obtain ⟨ws, hws, htp⟩ := (treeS_some Htree.out).2.2.2
    have hwl := (wtsIn_fine (fun y hy => Hd.out y (List.mem_of_mem_drop hy)) hws).2
    have hal : al.length ≤ 256 := by rw [(treeP_some htp).2.2.2.2.1, List.length_append]; simp; omega
    have := (List.getElem?_eq_some_iff.1 h4).1
    omega
  have hrlen : rs.length = 2 ^ m := by rw [hrs, rows_length hts.2.2.2.1, hts.2.2.2.2]
  have Hrow := Lib.hid hrow
  have Hrlen := Lib.hid hrlen
  have Hts := Lib.hid hts
  have hoqN : oq + sq ≤ N := by omega
  have hoq2 : 2 ≤ oq := by omega
  have Hoq := Lib.hid hoq
  have Hsq := Lib.hid hsq
  clear ht' h1' hts hoq hsq hstr2 hrow hrlen Hread Hstr hrs e12'
  go_upto_region 51 with (fail)
  obtain ⟨W4, hW4⟩ : ∃ x, x = w3.setCell ⟨rb, 13, none⟩ (.int .i64 (m : Int)) := ⟨_, rfl⟩
  rw [← hW4]
  have hr4 : Blk W4 rb 157 (((rc.set 12 (.slice (some ⟨tb, 0, none⟩) 2048 2048)).set 44 v44).set 13 (.int .i64 (m : Int))) := by rw [hW4]; exact hr3.set 13 _
  have hb4 : Blk W4 tb 179 (u16s (rs.map enc ++ List.replicate (2048 - 2 ^ m) 0)) := by rw [hW4]; exact hb3.far (p := ⟨rb, 13, none⟩) hrtb _
  have hk24 : Keep (fun j => j = rb ∨ j = tb) W2 W4 := by rw [hW4]; exact hk3.set (p := ⟨rb, 13, none⟩) (.inl (.inl rfl)) _
  have hk4 : Keep (· = rb) w W4 := hk2.then hk24 (fun j hj h => by omega)
  have h12l : 13 < rc.length := (List.getElem?_eq_some_iff.1 Hfr.out.log).1
  have hT : TabAt W4 rb tb (((rc.set 12 (.slice (some ⟨tb, 0, none⟩) 2048 2048)).set 44 v44).set 13 (.int .i64 (m : Int))) m rs := by
    refine ⟨hr4, ?_, ?_, ?_, ⟨_, hb4⟩, hm1, hm11, Hrlen.out, Hrow.out⟩
    · obtain ⟨x, hx⟩ := Hfr.out.off
      exact ⟨x, by rw [List.getElem?_set_ne (by decide), List.getElem?_set_ne (by decide), List.getElem?_set_ne (by decide)]; exact hx⟩
    · rw [List.getElem?_set_ne (by decide), List.getElem?_set_ne (by decide), List.getElem?_set_self (by omega)]
    · rw [List.getElem?_set_self (by rw [List.length_set, List.length_set]; exact h12l)]
  have hW4s := hk4.size
  have hdec := fourStreams_right (R := R) rb tb (some ⟨g, o, none⟩) c ds _ oq sq n m rs t W4 (Hs.out.keep hk4 (fun j _ h1 h2 => hRr (h2 ▸ h1))) (fun j hj => by have := HRw.out j hj; omega) hT Hd.out (by rw [← HN.out]; exact hlen) (by rw [← HN.out]; exact hc) hoq2 (by rw [← HN.out]; exact hoqN) (show 6 ≤ sq ∧ FourR ds m rs oq sq n t from Hstr2.out).1 hn1 (show 6 ≤ sq ∧ FourR ds m rs oq sq n t from Hstr2.out).2
  rw [← HN.out] at hdec
  have Hdec := Lib.hid hdec
  clear hdec hT hr4 hb4 hW4 hk24 hk3 hr3 hb3 e13 g13
  go_wp2_with (go_at_call 116; (with_reducible refine Hdec.out.mono ?_); rintro e w5 ⟨hk5, A5, c5, rfl, ho5⟩)
  go_ret3
  refine ⟨hk4.kept hk5, fun _ => ⟨A5, n, c5, ?_, ?_, own_mono ho5 hW4s⟩, fun h => (by cases h)⟩
  · show _ = _
    have := ho5.1
    simpa using this.symm
  · show _ = Ending.returned (.tuple #[.int .i64 ((zz : Nat) : Int), .slice A5 n c5, .nilIface])
    rw [hzz]
    rfl
end

section
/-- An error, in place of literals. -/
def BadPost (S : Nat → Prop) (w : World) (e : Ending) (w' : World) : Prop :=
  Keep S w w' ∧ ∃ t x, e = .returned (.tuple #[.int .i64 0, .slice none 0 0, .iface t x])

set_option maxHeartbeats 8000000 in
set_option maxRecDepth 4000 in
theorem hufLit_wrong0 {R : Nat → Prop} {B : Nat} (rb : Nat) (A : Option Addr) (c : Nat) (ds : List Nat) (rc : List Value) (b0 : Nat) (w : World) (hs : Sl w R A (u8s ds)) (hRw : ∀ k, R k → k < w.heap.size) (hRr : ¬ R rb) (hBr : B ≤ rb) (he : Errs B w) (hfr : Fresh w rb rc) (hd : Bytes ds) (hlen : ds.length < 2 ^ 24) (_hc : ds.length ≤ c)
    (hb0 : ds[0]? = some b0) (hk2 : 2 ≤ b0 % 4) (hf : b0 / 4 % 4 = 0) (h : HufW ds (b0 % 4) 0) :
    Calls Tryd.prog 107 #[.pointer (some ⟨rb, 0, none⟩), .slice A ds.length c, .int .i64 1, .int .u8 (b0 : Int), .slice none 0 0] w (BadPost (· = rb) w) := by
  have h256 := hd b0 (List.mem_of_getElem? hb0)
  have hl0 : 0 < ds.length := (List.getElem?_eq_some_iff.1 hb0).1
  obtain ⟨g, o, hRg, rfl, hcell⟩ := hs.get (by simp; omega)
  have hbyte : ∀ j, j < ds.length → ∃ x, ds[j]? = some x ∧ x < 256 ∧ w.cell? ⟨g, o + j, none⟩ = some (.int .u8 (x : Int)) := fun j hj =>
    ⟨ds.getD j 0, by rw [List.getD_eq_getElem?_getD, List.getElem?_eq_getElem hj]; rfl, hd.getD j, hcell j _ (u8s_at hj)⟩
  obtain ⟨b9, hb0y, _, hc0⟩ := hbyte 0 hl0
  obtain rfl : b0 = b9 := Option.some.inj (hb0.symm.trans hb0y)
  have hO : hd2 0 = 3 := rfl
  have heof := fun (x : Int) w' (hk : Kept w w') => makeEOFError (B := B) rb x w' (he.kept hk) (hfr.rdOff.kept hk)
  have herr1 := fun (x : Int) (t : ByteArray) w' (hk : Kept w w') => makeError (B := B) rb x t w' (he.kept hk) (hfr.rdOff.kept hk)
  have herr := fun (x : Int) (t : ByteArray) w' (hk : Keep (· = rb) w w') (hr : RdOff w' rb) => makeError (B := B) rb x t w' (he.keep hk (fun j hj => by rw [hj]; exact hBr)) hr
  have Heof := Lib.hid heof
  have Herr := Lib.hid herr
  have Herr1 := Lib.hid herr1
  obtain ⟨n, hn⟩ : ∃ x, x = lmany ds 0 := ⟨_, rfl⟩
  obtain ⟨z, hz⟩ : ∃ x, x = lsize ds 0 := ⟨_, rfl⟩
  obtain ⟨N, hN⟩ : ∃ N, N = ds.length := ⟨_, rfl⟩
  obtain ⟨k, hk⟩ : ∃ k, k = b0 % 4 := ⟨_, rfl⟩
  unfold HufW at h
  rw [hO, ← hz, ← hk, ← hN] at h
  have hki : (b0 : Int) % 4 = (k : Int) := by omega
  have hfi : (b0 : Int) / 4 % 4 = 0 := by omega
  have hbk : Go.bits .and .u8 (b0 : Int) 3 = (k : Int) := by rw [and_u8_3 h256, ← hk]
  have hbf : Go.bits .and .u8 ((b0 : Int) / 4) 3 = 0 := by
    have h := and_u8_3 (a := b0 / 4) (by omega)
    rw [hf, show ((b0 / 4 : Nat) : Int) = (b0 : Int) / 4 by omega] at h
    exact h
  have hk4 : k = 2 ∨ k = 3 := by omega
  have Hbyte := Lib.hid hbyte
  have Hs := Lib.hid hs
  have Hd := Lib.hid hd
  have HRw := Lib.hid hRw
  have Hfr := Lib.hid hfr
  have He := Lib.hid he
  have Hw := Lib.hid h
  have d12 : w.cell? ⟨rb, 12, none⟩ = some (.slice none 0 0) := by rw [hfr.rd.cell]; exact hfr.tab
  have f12 := hfr.rd.frozen 12
  have d13 : w.cell? ⟨rb, 13, none⟩ = some (.int .i64 0) := by rw [hfr.rd.cell]; exact hfr.log
  have f13 := hfr.rd.frozen 13
  have hrbl := hfr.rd.lt
  rw [← hN] at hlen hl0 ⊢
  have HN := Lib.hid hN
  clear hbyte hs hd hRw hfr he hcell hN hO hb0y hk2 hf h heof herr herr1 hk
  go_enter Tryd.func107, Tryd.ntmps107
  by_cases hshort : N < 3
  · go_wp2_with (go_at_call 92; (with_reducible refine (Heof.out _ _ (Keep.refl _ _)).mono ?_); rintro e w1 ⟨v, ⟨vt, vx, rfl⟩, rfl, hk1⟩)
    go_ret3
    exact ⟨hk1.any _, _, _, rfl⟩
  obtain ⟨b1, hb1', h1256, hc1⟩ := Hbyte.out 1 (by rw [← HN.out]; omega)
  obtain ⟨b2, hb2', h2256, hc2⟩ := Hbyte.out 2 (by rw [← HN.out]; omega)
  have hz3 : num (ds.take (hd2 0)) = b0 + 256 * b1 + 65536 * b2 := num3 hb0 hb1' hb2'
  have hw2 : (2 : Nat) ^ wd2 0 = 1024 := by decide
  have hn3 : n = b0 / 16 + b1 % 64 * 16 := by rw [hn, lmany, hz3, hw2]; omega
  have hq3 : z = b1 / 64 + b2 * 4 := by rw [hz, lsize, hz3, hw2]; omega
  have hor1 : Go.bits .or .i64 ((b0 : Int) / 16) ((b1 : Int) % 64 * 16) = (n : Int) := by
    have h := or_at (a := b0 / 16) (b := b1 % 64) (p := 16) (s := 4) rfl (by decide) (by omega) (by omega)
    rw [← hn3, show ((b0 / 16 : Nat) : Int) = (b0 : Int) / 16 by omega, show ((b1 % 64 : Nat) : Int) = (b1 : Int) % 64 by omega] at h
    exact h
  have hor2 : Go.bits .or .i64 ((b1 : Int) / 64) ((b2 : Int) * 4) = (z : Int) := by
    have h := or_at (a := b1 / 64) (b := b2) (p := 4) (s := 2) rfl (by decide) (by omega) (by omega)
    rw [← hq3, show ((b1 / 64 : Nat) : Int) = (b1 : Int) / 64 by omega] at h
    exact h
  have ha1 : Go.bits .and .i64 (b1 : Int) 63 = (b1 : Int) % 64 := by rw [and_i64_63 h1256]; omega
  have v1 : IntKind.i64.wrap ((b2 : Int) * 4) = (b2 : Int) * 4 := by rw [IntKind.wrap_i64]; omega
  have hNO : 2 < N := by omega
  have hN1 : 1 < N := by omega
  have hz24 : z < 16777216 := by omega
  have hn24 : n < 16777216 := by omega
  clear hz3 hw2 hn3 hq3 hb0 hb1' hb2' hn hz
  go_upto_region 10 with (fail)
  go_quiet (fail)
  go_upto_region 29 with (fail)
  by_cases hnbig : 131072 < n
  · go_wp2_with (go_at_call 93; (with_reducible refine (Herr1.out _ _ _ ((Keep.refl _ _).drewN _)).mono ?_); rintro e w1 ⟨v, ⟨vt, vx, rfl⟩, rfl, hk1⟩)
    go_ret3
    exact ⟨Kept.any (((Keep.refl (fun _ => False) w).drewN _).trans hk1) _, _, _, rfl⟩
  by_cases hzbig : N < 3 + z
  · go_wp2_with (go_at_call 92; (with_reducible refine (Heof.out _ _ ((Keep.refl _ _).drewN _)).mono ?_); rintro e w1 ⟨v, ⟨vt, vx, rfl⟩, rfl, hk1⟩)
    go_ret3
    exact ⟨Kept.any (((Keep.refl (fun _ => False) w).drewN _).trans hk1) _, _, _, rfl⟩
  have hfit : 3 + z ≤ N := by omega
  rcases hk4 with rfl | rfl
  rotate_left
  · go_wp2_with (go_at_call 93; (with_reducible refine (Herr1.out _ _ _ ((Keep.refl _ _).drewN _)).mono ?_); rintro e w1 ⟨v, ⟨vt, vx, rfl⟩, rfl, hk1⟩)
    go_ret3
    exact ⟨Kept.any (((Keep.refl (fun _ => False) w).drewN _).trans hk1) _, _, _, rfl⟩
  have hw4 : ∀ al m q, treeS (ds.drop 3) = some (al, m, q) → 1 ∈ al → z < q ∨ OneW ds (3 + q) (z - q) := by
    rcases Hw.out with h | h | h | h
    · omega
    · omega
    · exact absurd rfl h
    · exact fun al m q h1 h2 => h.2 al m q h1 h2
  have Hw4 := Lib.hid hw4
  clear hw4 Hw
  go_upto_region 38 with (at_make; refine wpList_make rfl _ _ rfl elU16 .i64 .i64 2048 2048 rfl rfl (Nat.le_refl _) (by omega) ?_; intro w1 hk1 hg1; have hkw1 : Kept w w1 := ((Keep.refl (fun _ => False) w).drewN _).trans hk1; have hrb1 := Hfr.out.rd.kept hkw1; have e12 : w1.cell? ⟨rb, 12, none⟩ = some (.slice none 0 0) := hkw1.cell d12 (fun h => h); have g12 := hrb1.frozen 12)
  obtain ⟨tb, htb⟩ : ∃ x, x = w.heap.size := ⟨_, rfl⟩
  have hg2 : Blk w1 tb 179 (u16s (List.replicate 2048 0)) := by
    rw [htb]
    exact Blk.cast hg1 (by rw [Nat.mul_one, ← made_u16]; exact made_list (.int .u16 0) rfl 2048)
  obtain ⟨W2, hW2⟩ : ∃ x, x = w1.setCell ⟨rb, 12, none⟩ (.slice (some ⟨tb, 0, none⟩) 2048 2048) := ⟨_, rfl⟩
  rw [← htb, ← hW2]
  have hrtb : tb ≠ rb := by omega
  have hk2 : Keep (· = rb) w W2 := by rw [hW2]; exact (Kept.any hkw1 (· = rb)).set (p := ⟨rb, 12, none⟩) (.inl rfl) _
  have hr2 : Blk W2 rb 157 (rc.set 12 (.slice (some ⟨tb, 0, none⟩) 2048 2048)) := by rw [hW2]; exact hrb1.set 12 _
  have ht2 : Blk W2 tb 179 (u16s (List.replicate 2048 0)) := by rw [hW2]; exact hg2.far (p := ⟨rb, 12, none⟩) hrtb _
  have hBw : B ≤ w.heap.size := by obtain ⟨_, _, _, _, _, _, _, _, _, _, _, _, _, _, h9⟩ := He.out; exact h9
  have hW2s : w.heap.size ≤ W2.heap.size := hk2.size
  have h44 : (rc.set 12 (.slice (some ⟨tb, 0, none⟩) 2048 2048))[44]? = some (.slice none 0 0) := by rw [List.getElem?_set_ne (by decide)]; exact Hfr.out.scr
  have h66 : ∃ x : Int, (rc.set 12 (.slice (some ⟨tb, 0, none⟩) 2048 2048))[6]? = some (.int .i64 x) := by
    obtain ⟨x, hx⟩ := Hfr.out.off
    exact ⟨x, by rw [List.getElem?_set_ne (by decide)]; exact hx⟩
  have hread := readHuff_any (R := R) (B := B) rb tb (some ⟨g, o, none⟩) c 3 ds _ W2 (Hs.out.keep hk2 (fun j _ h1 h2 => hRr (h2 ▸ h1))) (fun j hj => by have := HRw.out j hj; omega) hRr (fun h => by have := HRw.out tb h; omega) hr2 h66 h44 ht2 hBr (by omega) (He.out.keep hk2 (fun j hj => by rw [hj]; exact hBr)) Hd.out (by rw [← HN.out]; exact hlen)
  rw [← HN.out] at hread
  replace hread : Calls Tryd.prog 84 #[.pointer (some ⟨rb, 0, none⟩), .slice (some ⟨g, o, none⟩) N c, .int .i64 3, .slice (some ⟨tb, 0, none⟩) 2048 2048] W2 _ := hread
  have Hread := Lib.hid hread
  have e12' : W2.cell? ⟨rb, 12, none⟩ = some (.slice (some ⟨tb, 0, none⟩) 2048 2048) := by
    rw [hr2.cell, List.getElem?_set_self (by have := (List.getElem?_eq_some_iff.1 Hfr.out.tab).1; exact this)]
  have Htb := Lib.hid htb
  have htbw : w.heap.size ≤ tb := by omega
  have hbgt : B ≤ tb := by omega
  clear hread htb hW2 hg1 hg2 hk1 e12 g12 d12 f12 d13 f13 hkw1 hrb1 ht2
  go_upto_region 41 with (go_at_call 84; (with_reducible refine Hread.out.mono ?_); rintro e w3 ⟨hk3, ⟨v44, hr3⟩, ⟨al, m, q, ht', h1', rfl, hb3⟩ | ⟨ev, ⟨vt, vx, rfl⟩, rfl, hno⟩⟩)
  rotate_left
  · go_wp2_with fail
    go_ret3
    exact ⟨hk2.then hk3 (fun j hj h => by omega), _, _, rfl⟩
  have hts := tree_facts ht'
  have hqN := (treeS_some ht').2.2.1
  rw [List.length_drop, ← HN.out] at hqN
  have hq1 := hts.1
  have hw5 := Hw4.out al m q ht' h1'
  have Hw5 := Lib.hid hw5
  obtain ⟨oq, hoq⟩ : ∃ x, x = 3 + q := ⟨_, rfl⟩
  have hoqi : (3 : Int) + (q : Int) = (oq : Int) := by omega
  rw [hoqi]
  clear hoqi
  have hqi : (oq : Int) - 3 = (q : Int) := by omega
  have g13 := hr3.frozen 13
  have e13 : w3.cell? ⟨rb, 13, none⟩ = some (.int .i64 0) := by
    rw [hr3.cell, List.getElem?_set_ne (by decide), List.getElem?_set_ne (by decide)]; exact Hfr.out.log
  have hm11 := hts.2.1
  have hm1 := hts.2.2.1
  have hk4 : Keep (· = rb) w w3 := hk2.then hk3 (fun j hj h => by omega)
  have hset4 : Blk (w3.setCell ⟨rb, 13, none⟩ (.int .i64 (m : Int))) rb 157 (((rc.set 12 (.slice (some ⟨tb, 0, none⟩) 2048 2048)).set 44 v44).set 13 (.int .i64 (m : Int))) := hr3.set 13 _
  have hkset : Keep (· = rb) w (w3.setCell ⟨rb, 13, none⟩ (.int .i64 (m : Int))) := hk4.set (p := ⟨rb, 13, none⟩) (.inl rfl) _
  have hrd4 : RdOff (w3.setCell ⟨rb, 13, none⟩ (.int .i64 (m : Int))) rb := by
    obtain ⟨x, hx⟩ := Hfr.out.off
    exact ⟨x, by rw [hset4.cell, List.getElem?_set_ne (by decide), List.getElem?_set_ne (by decide), List.getElem?_set_ne (by decide)]; exact hx⟩
  have Hk4 := Lib.hid hkset
  have Hrd4 := Lib.hid hrd4
  have hoqN : oq ≤ N := by omega
  have Hoq := Lib.hid hoq
  clear ht' h1' hts hoq Hread e12' hw5 Hw4 hk4 hset4 hkset hrd4 hb3 hr3 hk3
  by_cases hzq : z < q
  · go_wp2_with (go_at_call 93; (with_reducible refine (Herr.out _ _ _ Hk4.out Hrd4.out).mono ?_); rintro e w5 ⟨v, ⟨vt, vx, rfl⟩, rfl, hk5⟩)
    go_ret3
    exact ⟨Hk4.out.kept hk5, _, _, rfl⟩
  obtain ⟨sq, hsq⟩ : ∃ x, x = z - q := ⟨_, rfl⟩
  have hsi : (z : Int) - (q : Int) = (sq : Int) := by omega
  have hq0 : q ≤ z := by omega
  have hoqs : oq + sq ≤ N := by have := Hoq.out; omega
  have hoq2 : 2 ≤ oq := by have := Hoq.out; omega
  have hW := Hw5.out
  rw [← Hoq.out, ← hsq] at hW
  have hW2 := hW.resolve_left hzq
  clear hsq
  go_upto_region 50 with (fail)
  have hdec := oneStream_wrong (R := R) (B := B) rb (some ⟨g, o, none⟩) c ds oq sq n _ (Hs.out.keep Hk4.out (fun j _ h1 h2 => hRr (h2 ▸ h1))) (He.out.keep Hk4.out (fun j hj => by rw [hj]; exact hBr)) Hrd4.out hoq2 (by rw [← HN.out]; exact hoqs) (by rw [← HN.out]; exact hlen) hW2
  rw [← HN.out] at hdec
  have Hdec := Lib.hid hdec
  clear hdec hW hW2
  go_wp2_with (go_at_call 115; (with_reducible refine Hdec.out.mono ?_); rintro e w5 ⟨hk5, vt, vx, rfl⟩)
  go_ret3
  exact ⟨Hk4.out.kept hk5, _, _, rfl⟩

set_option maxHeartbeats 8000000 in
set_option maxRecDepth 4000 in
theorem hufLit_wrong1 {R : Nat → Prop} {B : Nat} (rb : Nat) (A : Option Addr) (c : Nat) (ds : List Nat) (rc : List Value) (b0 : Nat) (w : World) (hs : Sl w R A (u8s ds)) (hRw : ∀ k, R k → k < w.heap.size) (hRr : ¬ R rb) (hBr : B ≤ rb) (he : Errs B w) (hfr : Fresh w rb rc) (hd : Bytes ds) (hlen : ds.length < 2 ^ 24) (hc : ds.length ≤ c)
    (hb0 : ds[0]? = some b0) (hk2 : 2 ≤ b0 % 4) (hf : b0 / 4 % 4 = 1) (h : HufW ds (b0 % 4) 1) :
    Calls Tryd.prog 107 #[.pointer (some ⟨rb, 0, none⟩), .slice A ds.length c, .int .i64 1, .int .u8 (b0 : Int), .slice none 0 0] w (BadPost (· = rb) w) := by
  have h256 := hd b0 (List.mem_of_getElem? hb0)
  have hl0 : 0 < ds.length := (List.getElem?_eq_some_iff.1 hb0).1
  obtain ⟨g, o, hRg, rfl, hcell⟩ := hs.get (by simp; omega)
  have hbyte : ∀ j, j < ds.length → ∃ x, ds[j]? = some x ∧ x < 256 ∧ w.cell? ⟨g, o + j, none⟩ = some (.int .u8 (x : Int)) := fun j hj =>
    ⟨ds.getD j 0, by rw [List.getD_eq_getElem?_getD, List.getElem?_eq_getElem hj]; rfl, hd.getD j, hcell j _ (u8s_at hj)⟩
  obtain ⟨b9, hb0y, _, hc0⟩ := hbyte 0 hl0
  obtain rfl : b0 = b9 := Option.some.inj (hb0.symm.trans hb0y)
  have hO : hd2 1 = 3 := rfl
  have heof := fun (x : Int) w' (hk : Kept w w') => makeEOFError (B := B) rb x w' (he.kept hk) (hfr.rdOff.kept hk)
  have herr1 := fun (x : Int) (t : ByteArray) w' (hk : Kept w w') => makeError (B := B) rb x t w' (he.kept hk) (hfr.rdOff.kept hk)
  have herr := fun (x : Int) (t : ByteArray) w' (hk : Keep (· = rb) w w') (hr : RdOff w' rb) => makeError (B := B) rb x t w' (he.keep hk (fun j hj => by rw [hj]; exact hBr)) hr
  have Heof := Lib.hid heof
  have Herr := Lib.hid herr
  have Herr1 := Lib.hid herr1
  obtain ⟨n, hn⟩ : ∃ x, x = lmany ds 1 := ⟨_, rfl⟩
  obtain ⟨z, hz⟩ : ∃ x, x = lsize ds 1 := ⟨_, rfl⟩
  obtain ⟨N, hN⟩ : ∃ N, N = ds.length := ⟨_, rfl⟩
  obtain ⟨k, hk⟩ : ∃ k, k = b0 % 4 := ⟨_, rfl⟩
  unfold HufW at h
  rw [hO, ← hz, ← hk, ← hN] at h
  have hki : (b0 : Int) % 4 = (k : Int) := by omega
  have hfi : (b0 : Int) / 4 % 4 = 1 := by omega
  have hbk : Go.bits .and .u8 (b0 : Int) 3 = (k : Int) := by rw [and_u8_3 h256, ← hk]
  have hbf : Go.bits .and .u8 ((b0 : Int) / 4) 3 = 1 := by
    have h := and_u8_3 (a := b0 / 4) (by omega)
    rw [hf, show ((b0 / 4 : Nat) : Int) = (b0 : Int) / 4 by omega] at h
    exact h
  have hk4 : k = 2 ∨ k = 3 := by omega
  have Hbyte := Lib.hid hbyte
  have Hs := Lib.hid hs
  have Hd := Lib.hid hd
  have HRw := Lib.hid hRw
  have Hfr := Lib.hid hfr
  have He := Lib.hid he
  have Hw := Lib.hid h
  have d12 : w.cell? ⟨rb, 12, none⟩ = some (.slice none 0 0) := by rw [hfr.rd.cell]; exact hfr.tab
  have f12 := hfr.rd.frozen 12
  have d13 : w.cell? ⟨rb, 13, none⟩ = some (.int .i64 0) := by rw [hfr.rd.cell]; exact hfr.log
  have f13 := hfr.rd.frozen 13
  have hrbl := hfr.rd.lt
  rw [← hN] at hlen hc hl0 ⊢
  have HN := Lib.hid hN
  clear hbyte hs hd hRw hfr he hcell hN hO hb0y hk2 hf h heof herr herr1 hk
  go_enter Tryd.func107, Tryd.ntmps107
  by_cases hshort : N < 3
  · go_wp2_with (go_at_call 92; (with_reducible refine (Heof.out _ _ (Keep.refl _ _)).mono ?_); rintro e w1 ⟨v, ⟨vt, vx, rfl⟩, rfl, hk1⟩)
    go_ret3
    exact ⟨hk1.any _, _, _, rfl⟩
  obtain ⟨b1, hb1', h1256, hc1⟩ := Hbyte.out 1 (by rw [← HN.out]; omega)
  obtain ⟨b2, hb2', h2256, hc2⟩ := Hbyte.out 2 (by rw [← HN.out]; omega)
  have hz3 : num (ds.take (hd2 1)) = b0 + 256 * b1 + 65536 * b2 := num3 hb0 hb1' hb2'
  have hw2 : (2 : Nat) ^ wd2 1 = 1024 := by decide
  have hn3 : n = b0 / 16 + b1 % 64 * 16 := by rw [hn, lmany, hz3, hw2]; omega
  have hq3 : z = b1 / 64 + b2 * 4 := by rw [hz, lsize, hz3, hw2]; omega
  have hor1 : Go.bits .or .i64 ((b0 : Int) / 16) ((b1 : Int) % 64 * 16) = (n : Int) := by
    have h := or_at (a := b0 / 16) (b := b1 % 64) (p := 16) (s := 4) rfl (by decide) (by omega) (by omega)
    rw [← hn3, show ((b0 / 16 : Nat) : Int) = (b0 : Int) / 16 by omega, show ((b1 % 64 : Nat) : Int) = (b1 : Int) % 64 by omega] at h
    exact h
  have hor2 : Go.bits .or .i64 ((b1 : Int) / 64) ((b2 : Int) * 4) = (z : Int) := by
    have h := or_at (a := b1 / 64) (b := b2) (p := 4) (s := 2) rfl (by decide) (by omega) (by omega)
    rw [← hq3, show ((b1 / 64 : Nat) : Int) = (b1 : Int) / 64 by omega] at h
    exact h
  have ha1 : Go.bits .and .i64 (b1 : Int) 63 = (b1 : Int) % 64 := by rw [and_i64_63 h1256]; omega
  have v1 : IntKind.i64.wrap ((b2 : Int) * 4) = (b2 : Int) * 4 := by rw [IntKind.wrap_i64]; omega
  have hNO : 2 < N := by omega
  have hN1 : 1 < N := by omega
  have hz24 : z < 16777216 := by omega
  have hn24 : n < 16777216 := by omega
  clear hz3 hw2 hn3 hq3 hb0 hb1' hb2' hn hz
  go_upto_region 10 with (fail)
  go_quiet (fail)
  go_upto_region 29 with (fail)
  by_cases hnbig : 131072 < n
  · go_wp2_with (go_at_call 93; (with_reducible refine (Herr1.out _ _ _ ((Keep.refl _ _).drewN _)).mono ?_); rintro e w1 ⟨v, ⟨vt, vx, rfl⟩, rfl, hk1⟩)
    go_ret3
    exact ⟨Kept.any (((Keep.refl (fun _ => False) w).drewN _).trans hk1) _, _, _, rfl⟩
  by_cases hzbig : N < 3 + z
  · go_wp2_with (go_at_call 92; (with_reducible refine (Heof.out _ _ ((Keep.refl _ _).drewN _)).mono ?_); rintro e w1 ⟨v, ⟨vt, vx, rfl⟩, rfl, hk1⟩)
    go_ret3
    exact ⟨Kept.any (((Keep.refl (fun _ => False) w).drewN _).trans hk1) _, _, _, rfl⟩
  have hfit : 3 + z ≤ N := by omega
  rcases hk4 with rfl | rfl
  rotate_left
  · go_wp2_with (go_at_call 93; (with_reducible refine (Herr1.out _ _ _ ((Keep.refl _ _).drewN _)).mono ?_); rintro e w1 ⟨v, ⟨vt, vx, rfl⟩, rfl, hk1⟩)
    go_ret3
    exact ⟨Kept.any (((Keep.refl (fun _ => False) w).drewN _).trans hk1) _, _, _, rfl⟩
  have hw4 : ∀ al m q, treeS (ds.drop 3) = some (al, m, q) → 1 ∈ al → z < q ∨ FourW ds (3 + q) (z - q) := by
    rcases Hw.out with h | h | h | h
    · omega
    · omega
    · exact absurd rfl h
    · exact fun al m q h1 h2 => h.2 al m q h1 h2
  have Hw4 := Lib.hid hw4
  clear hw4 Hw
  go_upto_region 38 with (at_make; refine wpList_make rfl _ _ rfl elU16 .i64 .i64 2048 2048 rfl rfl (Nat.le_refl _) (by omega) ?_; intro w1 hk1 hg1; have hkw1 : Kept w w1 := ((Keep.refl (fun _ => False) w).drewN _).trans hk1; have hrb1 := Hfr.out.rd.kept hkw1; have e12 : w1.cell? ⟨rb, 12, none⟩ = some (.slice none 0 0) := hkw1.cell d12 (fun h => h); have g12 := hrb1.frozen 12)
  obtain ⟨tb, htb⟩ : ∃ x, x = w.heap.size := ⟨_, rfl⟩
  have hg2 : Blk w1 tb 179 (u16s (List.replicate 2048 0)) := by
    rw [htb]
    exact Blk.cast hg1 (by rw [Nat.mul_one, ← made_u16]; exact made_list (.int .u16 0) rfl 2048)
  obtain ⟨W2, hW2⟩ : ∃ x, x = w1.setCell ⟨rb, 12, none⟩ (.slice (some ⟨tb, 0, none⟩) 2048 2048) := ⟨_, rfl⟩
  rw [← htb, ← hW2]
  have hrtb : tb ≠ rb := by omega
  have hk2 : Keep (· = rb) w W2 := by rw [hW2]; exact (Kept.any hkw1 (· = rb)).set (p := ⟨rb, 12, none⟩) (.inl rfl) _
  have hr2 : Blk W2 rb 157 (rc.set 12 (.slice (some ⟨tb, 0, none⟩) 2048 2048)) := by rw [hW2]; exact hrb1.set 12 _
  have ht2 : Blk W2 tb 179 (u16s (List.replicate 2048 0)) := by rw [hW2]; exact hg2.far (p := ⟨rb, 12, none⟩) hrtb _
  have hBw : B ≤ w.heap.size := by obtain ⟨_, _, _, _, _, _, _, _, _, _, _, _, _, _, h9⟩ := He.out; exact h9
  have hW2s : w.heap.size ≤ W2.heap.size := hk2.size
  have h44 : (rc.set 12 (.slice (some ⟨tb, 0, none⟩) 2048 2048))[44]? = some (.slice none 0 0) := by rw [List.getElem?_set_ne (by decide)]; exact Hfr.out.scr
  have h66 : ∃ x : Int, (rc.set 12 (.slice (some ⟨tb, 0, none⟩) 2048 2048))[6]? = some (.int .i64 x) := by
    obtain ⟨x, hx⟩ := Hfr.out.off
    exact ⟨x, by rw [List.getElem?_set_ne (by decide)]; exact hx⟩
  have hread := readHuff_any (R := R) (B := B) rb tb (some ⟨g, o, none⟩) c 3 ds _ W2 (Hs.out.keep hk2 (fun j _ h1 h2 => hRr (h2 ▸ h1))) (fun j hj => by have := HRw.out j hj; omega) hRr (fun h => by have := HRw.out tb h; omega) hr2 h66 h44 ht2 hBr (by omega) (He.out.keep hk2 (fun j hj => by rw [hj]; exact hBr)) Hd.out (by rw [← HN.out]; exact hlen)
  rw [← HN.out] at hread
  replace hread : Calls Tryd.prog 84 #[.pointer (some ⟨rb, 0, none⟩), .slice (some ⟨g, o, none⟩) N c, .int .i64 3, .slice (some ⟨tb, 0, none⟩) 2048 2048] W2 _ := hread
  have Hread := Lib.hid hread
  have e12' : W2.cell? ⟨rb, 12, none⟩ = some (.slice (some ⟨tb, 0, none⟩) 2048 2048) := by
    rw [hr2.cell, List.getElem?_set_self (by have := (List.getElem?_eq_some_iff.1 Hfr.out.tab).1; exact this)]
  have Htb := Lib.hid htb
  have htbw : w.heap.size ≤ tb := by omega
  have hbgt : B ≤ tb := by omega
  clear hread htb hW2 hg1 hg2 hk1 e12 g12 d12 f12 d13 f13 hkw1 hrb1 ht2
  go_upto_region 41 with (go_at_call 84; (with_reducible refine Hread.out.mono ?_); rintro e w3 ⟨hk3, ⟨v44, hr3⟩, ⟨al, m, q, ht', h1', rfl, hb3⟩ | ⟨ev, ⟨vt, vx, rfl⟩, rfl, hno⟩⟩)
  rotate_left
  · go_wp2_with fail
    go_ret3
    exact ⟨hk2.then hk3 (fun j hj h => by omega), _, _, rfl⟩
  have hts := tree_facts ht'
  have hqN := (treeS_some ht').2.2.1
  rw [List.length_drop, ← HN.out] at hqN
  have hq1 := hts.1
  have hw5 := Hw4.out al m q ht' h1'
  have Hw5 := Lib.hid hw5
  obtain ⟨oq, hoq⟩ : ∃ x, x = 3 + q := ⟨_, rfl⟩
  have hoqi : (3 : Int) + (q : Int) = (oq : Int) := by omega
  rw [hoqi]
  clear hoqi
  have hqi : (oq : Int) - 3 = (q : Int) := by omega
  have g13 := hr3.frozen 13
  have e13 : w3.cell? ⟨rb, 13, none⟩ = some (.int .i64 0) := by
    rw [hr3.cell, List.getElem?_set_ne (by decide), List.getElem?_set_ne (by decide)]; exact Hfr.out.log
  have hm11 := hts.2.1
  have hm1 := hts.2.2.1
  have hk4 : Keep (· = rb) w w3 := hk2.then hk3 (fun j hj h => by omega)
  have hset4 : Blk (w3.setCell ⟨rb, 13, none⟩ (.int .i64 (m : Int))) rb 157 (((rc.set 12 (.slice (some ⟨tb, 0, none⟩) 2048 2048)).set 44 v44).set 13 (.int .i64 (m : Int))) := hr3.set 13 _
  have hkset : Keep (· = rb) w (w3.setCell ⟨rb, 13, none⟩ (.int .i64 (m : Int))) := hk4.set (p := ⟨rb, 13, none⟩) (.inl rfl) _
  have hrd4 : RdOff (w3.setCell ⟨rb, 13, none⟩ (.int .i64 (m : Int))) rb := by
    obtain ⟨x, hx⟩ := Hfr.out.off
    exact ⟨x, by rw [hset4.cell, List.getElem?_set_ne (by decide), List.getElem?_set_ne (by decide), List.getElem?_set_ne (by decide)]; exact hx⟩
  have Hk4 := Lib.hid hkset
  have Hrd4 := Lib.hid hrd4
  have hoqN : oq ≤ N := by omega
  have Hoq := Lib.hid hoq
  clear ht' h1' hts hoq Hread e12' hw5 Hw4 hk4 hset4 hkset hrd4 hb3 hr3 hk3
  by_cases hzq : z < q
  · go_wp2_with (go_at_call 93; (with_reducible refine (Herr.out _ _ _ Hk4.out Hrd4.out).mono ?_); rintro e w5 ⟨v, ⟨vt, vx, rfl⟩, rfl, hk5⟩)
    go_ret3
    exact ⟨Hk4.out.kept hk5, _, _, rfl⟩
  obtain ⟨sq, hsq⟩ : ∃ x, x = z - q := ⟨_, rfl⟩
  have hsi : (z : Int) - (q : Int) = (sq : Int) := by omega
  have hq0 : q ≤ z := by omega
  have hoqs : oq + sq ≤ N := by have := Hoq.out; omega
  have hoq2 : 2 ≤ oq := by have := Hoq.out; omega
  have hW := Hw5.out
  rw [← Hoq.out, ← hsq] at hW
  have hW2 := hW.resolve_left hzq
  clear hsq
  go_upto_region 51 with (fail)
  have hdec := fourStreams_wrong (R := R) (B := B) rb (some ⟨g, o, none⟩) c ds oq sq n _ (Hs.out.keep Hk4.out (fun j _ h1 h2 => hRr (h2 ▸ h1))) (He.out.keep Hk4.out (fun j hj => by rw [hj]; exact hBr)) Hrd4.out Hd.out (by rw [← HN.out]; exact hlen) (by rw [← HN.out]; exact hc) hoq2 (by rw [← HN.out]; exact hoqs) (by omega) hW2
  rw [← HN.out] at hdec
  have Hdec := Lib.hid hdec
  clear hdec hW hW2
  go_wp2_with (go_at_call 116; (with_reducible refine Hdec.out.mono ?_); rintro e w5 ⟨hk5, vt, vx, rfl⟩)
  go_ret3
  exact ⟨Hk4.out.kept hk5, _, _, rfl⟩

set_option maxHeartbeats 8000000 in
set_option maxRecDepth 4000 in
theorem hufLit_wrong2 {R : Nat → Prop} {B : Nat} (rb : Nat) (A : Option Addr) (c : Nat) (ds : List Nat) (rc : List Value) (b0 : Nat) (w : World) (hs : Sl w R A (u8s ds)) (hRw : ∀ k, R k → k < w.heap.size) (hRr : ¬ R rb) (hBr : B ≤ rb) (he : Errs B w) (hfr : Fresh w rb rc) (hd : Bytes ds) (hlen : ds.length < 2 ^ 24) (hc : ds.length ≤ c)
    (hb0 : ds[0]? = some b0) (hk2 : 2 ≤ b0 % 4) (hf : b0 / 4 % 4 = 2) (h : HufW ds (b0 % 4) 2) :
    Calls Tryd.prog 107 #[.pointer (some ⟨rb, 0, none⟩), .slice A ds.length c, .int .i64 1, .int .u8 (b0 : Int), .slice none 0 0] w (BadPost (· = rb) w) := by
  have h256 := hd b0 (List.mem_of_getElem? hb0)
  have hl0 : 0 < ds.length := (List.getElem?_eq_some_iff.1 hb0).1
  obtain ⟨g, o, hRg, rfl, hcell⟩ := hs.get (by simp; omega)
  have hbyte : ∀ j, j < ds.length → ∃ x, ds[j]? = some x ∧ x < 256 ∧ w.cell? ⟨g, o + j, none⟩ = some (.int .u8 (x : Int)) := fun j hj =>
    ⟨ds.getD j 0, by rw [List.getD_eq_getElem?_getD, List.getElem?_eq_getElem hj]; rfl, hd.getD j, hcell j _ (u8s_at hj)⟩
  obtain ⟨b9, hb0y, _, hc0⟩ := hbyte 0 hl0
  obtain rfl : b0 = b9 := Option.some.inj (hb0.symm.trans hb0y)
  have hO : hd2 2 = 4 := rfl
  have heof := fun (x : Int) w' (hk : Kept w w') => makeEOFError (B := B) rb x w' (he.kept hk) (hfr.rdOff.kept hk)
  have herr1 := fun (x : Int) (t : ByteArray) w' (hk : Kept w w') => makeError (B := B) rb x t w' (he.kept hk) (hfr.rdOff.kept hk)
  have herr := fun (x : Int) (t : ByteArray) w' (hk : Keep (· = rb) w w') (hr : RdOff w' rb) => makeError (B := B) rb x t w' (he.keep hk (fun j hj => by rw [hj]; exact hBr)) hr
  have Heof := Lib.hid heof
  have Herr := Lib.hid herr
  have Herr1 := Lib.hid herr1
  obtain ⟨n, hn⟩ : ∃ x, x = lmany ds 2 := ⟨_, rfl⟩
  obtain ⟨z, hz⟩ : ∃ x, x = lsize ds 2 := ⟨_, rfl⟩
  obtain ⟨N, hN⟩ : ∃ N, N = ds.length := ⟨_, rfl⟩
  obtain ⟨k, hk⟩ : ∃ k, k = b0 % 4 := ⟨_, rfl⟩
  unfold HufW at h
  rw [hO, ← hz, ← hk, ← hN] at h
  have hki : (b0 : Int) % 4 = (k : Int) := by omega
  have hfi : (b0 : Int) / 4 % 4 = 2 := by omega
  have hbk : Go.bits .and .u8 (b0 : Int) 3 = (k : Int) := by rw [and_u8_3 h256, ← hk]
  have hbf : Go.bits .and .u8 ((b0 : Int) / 4) 3 = 2 := by
    have h := and_u8_3 (a := b0 / 4) (by omega)
    rw [hf, show ((b0 / 4 : Nat) : Int) = (b0 : Int) / 4 by omega] at h
    exact h
  have hk4 : k = 2 ∨ k = 3 := by omega
  have Hbyte := Lib.hid hbyte
  have Hs := Lib.hid hs
  have Hd := Lib.hid hd
  have HRw := Lib.hid hRw
  have Hfr := Lib.hid hfr
  have He := Lib.hid he
  have Hw := Lib.hid h
  have d12 : w.cell? ⟨rb, 12, none⟩ = some (.slice none 0 0) := by rw [hfr.rd.cell]; exact hfr.tab
  have f12 := hfr.rd.frozen 12
  have d13 : w.cell? ⟨rb, 13, none⟩ = some (.int .i64 0) := by rw [hfr.rd.cell]; exact hfr.log
  have f13 := hfr.rd.frozen 13
  have hrbl := hfr.rd.lt
  rw [← hN] at hlen hc hl0 ⊢
  have HN := Lib.hid hN
  clear hbyte hs hd hRw hfr he hcell hN hO hb0y hk2 hf h heof herr herr1 hk
  go_enter Tryd.func107, Tryd.ntmps107
  by_cases hshort : N < 4
  · go_wp2_with (go_at_call 92; (with_reducible refine (Heof.out _ _ (Keep.refl _ _)).mono ?_); rintro e w1 ⟨v, ⟨vt, vx, rfl⟩, rfl, hk1⟩)
    go_ret3
    exact ⟨hk1.any _, _, _, rfl⟩
  obtain ⟨b1, hb1', h1256, hc1⟩ := Hbyte.out 1 (by rw [← HN.out]; omega)
  obtain ⟨b2, hb2', h2256, hc2⟩ := Hbyte.out 2 (by rw [← HN.out]; omega)
  obtain ⟨b3, hb3', h3256, hc3⟩ := Hbyte.out 3 (by rw [← HN.out]; omega)
  have hz3 : num (ds.take (hd2 2)) = b0 + 256 * b1 + 65536 * b2 + 16777216 * b3 := num4 hb0 hb1' hb2' hb3'
  have hw2 : (2 : Nat) ^ wd2 2 = 16384 := by decide
  have hn3 : n = b0 / 16 + b1 * 16 + b2 % 4 * 4096 := by rw [hn, lmany, hz3, hw2]; omega
  have hq3 : z = b2 / 4 + b3 * 64 := by rw [hz, lsize, hz3, hw2]; omega
  obtain ⟨n0, hn0⟩ : ∃ x, x = b0 / 16 + b1 * 16 := ⟨_, rfl⟩
  have hor0 : Go.bits .or .i64 ((b0 : Int) / 16) ((b1 : Int) * 16) = (n0 : Int) := by
    have h := or_at (a := b0 / 16) (b := b1) (p := 16) (s := 4) rfl (by decide) (by omega) (by omega)
    rw [← hn0, show ((b0 / 16 : Nat) : Int) = (b0 : Int) / 16 by omega] at h
    exact h
  have hor1 : Go.bits .or .i64 (n0 : Int) ((b2 : Int) % 4 * 4096) = (n : Int) := by
    have h := or_at (a := n0) (b := b2 % 4) (p := 4096) (s := 12) rfl (by decide) (by omega) (by omega)
    rw [hn0, ← hn3, ← hn0, show ((b2 % 4 : Nat) : Int) = (b2 : Int) % 4 by omega] at h
    exact h
  have hor2 : Go.bits .or .i64 ((b2 : Int) / 4) ((b3 : Int) * 64) = (z : Int) := by
    have h := or_at (a := b2 / 4) (b := b3) (p := 64) (s := 6) rfl (by decide) (by omega) (by omega)
    rw [← hq3, show ((b2 / 4 : Nat) : Int) = (b2 : Int) / 4 by omega] at h
    exact h
  have ha1 : Go.bits .and .i64 (b2 : Int) 3 = (b2 : Int) % 4 := by rw [and_i64_3 h2256]; omega
  have v1 : IntKind.i64.wrap ((b3 : Int) * 64) = (b3 : Int) * 64 := by rw [IntKind.wrap_i64]; omega
  have v2 : IntKind.i64.wrap ((b1 : Int) * 16) = (b1 : Int) * 16 := by rw [IntKind.wrap_i64]; omega
  have v3 : IntKind.i64.wrap ((b2 : Int) % 4 * 4096) = (b2 : Int) % 4 * 4096 := by rw [IntKind.wrap_i64]; omega
  clear hn0
  have hNO : 3 < N := by omega
  have hN1 : 1 < N := by omega
  have hN2 : 2 < N := by omega
  have hz24 : z < 16777216 := by omega
  have hn24 : n < 16777216 := by omega
  clear hz3 hw2 hn3 hq3 hb0 hb1' hb2' hb3' hn hz
  go_upto_region 18 with (fail)
  go_quiet (fail)
  go_upto_region 19 with (fail)
  go_quiet (fail)
  go_upto_region 29 with (fail)
  by_cases hnbig : 131072 < n
  · go_wp2_with (go_at_call 93; (with_reducible refine (Herr1.out _ _ _ ((Keep.refl _ _).drewN _)).mono ?_); rintro e w1 ⟨v, ⟨vt, vx, rfl⟩, rfl, hk1⟩)
    go_ret3
    exact ⟨Kept.any (((Keep.refl (fun _ => False) w).drewN _).trans hk1) _, _, _, rfl⟩
  by_cases hzbig : N < 4 + z
  · go_wp2_with (go_at_call 92; (with_reducible refine (Heof.out _ _ ((Keep.refl _ _).drewN _)).mono ?_); rintro e w1 ⟨v, ⟨vt, vx, rfl⟩, rfl, hk1⟩)
    go_ret3
    exact ⟨Kept.any (((Keep.refl (fun _ => False) w).drewN _).trans hk1) _, _, _, rfl⟩
  have hfit : 4 + z ≤ N := by omega
  rcases hk4 with rfl | rfl
  rotate_left
  · go_wp2_with (go_at_call 93; (with_reducible refine (Herr1.out _ _ _ ((Keep.refl _ _).drewN _)).mono ?_); rintro e w1 ⟨v, ⟨vt, vx, rfl⟩, rfl, hk1⟩)
    go_ret3
    exact ⟨Kept.any (((Keep.refl (fun _ => False) w).drewN _).trans hk1) _, _, _, rfl⟩
  have hw4 : ∀ al m q, treeS (ds.drop 4) = some (al, m, q) → 1 ∈ al → z < q ∨ FourW ds (4 + q) (z - q) := by
    rcases Hw.out with h | h | h | h
    · omega
    · omega
    · exact absurd rfl h
    · exact fun al m q h1 h2 => h.2 al m q h1 h2
  have Hw4 := Lib.hid hw4
  clear hw4 Hw
  go_upto_region 38 with (at_make; refine wpList_make rfl _ _ rfl elU16 .i64 .i64 2048 2048 rfl rfl (Nat.le_refl _) (by omega) ?_; intro w1 hk1 hg1; have hkw1 : Kept w w1 := ((Keep.refl (fun _ => False) w).drewN _).trans hk1; have hrb1 := Hfr.out.rd.kept hkw1; have e12 : w1.cell? ⟨rb, 12, none⟩ = some (.slice none 0 0) := hkw1.cell d12 (fun h => h); have g12 := hrb1.frozen 12)
  obtain ⟨tb, htb⟩ : ∃ x, x = w.heap.size := ⟨_, rfl⟩
  have hg2 : Blk w1 tb 179 (u16s (List.replicate 2048 0)) := by
    rw [htb]
    exact Blk.cast hg1 (by rw [Nat.mul_one, ← made_u16]; exact made_list (.int .u16 0) rfl 2048)
  obtain ⟨W2, hW2⟩ : ∃ x, x = w1.setCell ⟨rb, 12, none⟩ (.slice (some ⟨tb, 0, none⟩) 2048 2048) := ⟨_, rfl⟩
  rw [← htb, ← hW2]
  have hrtb : tb ≠ rb := by omega
  have hk2 : Keep (· = rb) w W2 := by rw [hW2]; exact (Kept.any hkw1 (· = rb)).set (p := ⟨rb, 12, none⟩) (.inl rfl) _
  have hr2 : Blk W2 rb 157 (rc.set 12 (.slice (some ⟨tb, 0, none⟩) 2048 2048)) := by rw [hW2]; exact hrb1.set 12 _
  have ht2 : Blk W2 tb 179 (u16s (List.replicate 2048 0)) := by rw [hW2]; exact hg2.far (p := ⟨rb, 12, none⟩) hrtb _
  have hBw : B ≤ w.heap.size := by obtain ⟨_, _, _, _, _, _, _, _, _, _, _, _, _, _, h9⟩ := He.out; exact h9
  have hW2s : w.heap.size ≤ W2.heap.size := hk2.size
  have h44 : (rc.set 12 (.slice (some ⟨tb, 0, none⟩) 2048 2048))[44]? = some (.slice none 0 0) := by rw [List.getElem?_set_ne (by decide)]; exact Hfr.out.scr
  have h66 : ∃ x : Int, (rc.set 12 (.slice (some ⟨tb, 0, none⟩) 2048 2048))[6]? = some (.int .i64 x) := by
    obtain ⟨x, hx⟩ := Hfr.out.off
    exact ⟨x, by rw [List.getElem?_set_ne (by decide)]; exact hx⟩
  have hread := readHuff_any (R := R) (B := B) rb tb (some ⟨g, o, none⟩) c 4 ds _ W2 (Hs.out.keep hk2 (fun j _ h1 h2 => hRr (h2 ▸ h1))) (fun j hj => by have := HRw.out j hj; omega) hRr (fun h => by have := HRw.out tb h; omega) hr2 h66 h44 ht2 hBr (by omega) (He.out.keep hk2 (fun j hj => by rw [hj]; exact hBr)) Hd.out (by rw [← HN.out]; exact hlen)
  rw [← HN.out] at hread
  replace hread : Calls Tryd.prog 84 #[.pointer (some ⟨rb, 0, none⟩), .slice (some ⟨g, o, none⟩) N c, .int .i64 4, .slice (some ⟨tb, 0, none⟩) 2048 2048] W2 _ := hread
  have Hread := Lib.hid hread
  have e12' : W2.cell? ⟨rb, 12, none⟩ = some (.slice (some ⟨tb, 0, none⟩) 2048 2048) := by
    rw [hr2.cell, List.getElem?_set_self (by have := (List.getElem?_eq_some_iff.1 Hfr.out.tab).1; exact this)]
  have Htb := Lib.hid htb
  have htbw : w.heap.size ≤ tb := by omega
  have hbgt : B ≤ tb := by omega
  clear hread htb hW2 hg1 hg2 hk1 e12 g12 d12 f12 d13 f13 hkw1 hrb1 ht2
  go_upto_region 41 with (go_at_call 84; (with_reducible refine Hread.out.mono ?_); rintro e w3 ⟨hk3, ⟨v44, hr3⟩, ⟨al, m, q, ht', h1', rfl, hb3⟩ | ⟨ev, ⟨vt, vx, rfl⟩, rfl, hno⟩⟩)
  rotate_left
  · go_wp2_with fail
    go_ret3
    exact ⟨hk2.then hk3 (fun j hj h => by omega), _, _, rfl⟩
  have hts := tree_facts ht'
  have hqN := (treeS_some ht').2.2.1
  rw [List.length_drop, ← HN.out] at hqN
  have hq1 := hts.1
  have hw5 := Hw4.out al m q ht' h1'
  have Hw5 := Lib.hid hw5
  obtain ⟨oq, hoq⟩ : ∃ x, x = 4 + q := ⟨_, rfl⟩
  have hoqi : (4 : Int) + (q : Int) = (oq : Int) := by omega
  rw [hoqi]
  clear hoqi
  have hqi : (oq : Int) - 4 = (q : Int) := by omega
  have g13 := hr3.frozen 13
  have e13 : w3.cell? ⟨rb, 13, none⟩ = some (.int .i64 0) := by
    rw [hr3.cell, List.getElem?_set_ne (by decide), List.getElem?_set_ne (by decide)]; exact Hfr.out.log
  have hm11 := hts.2.1
  have hm1 := hts.2.2.1
  have hk4 : Keep (· = rb) w w3 := hk2.then hk3 (fun j hj h => by omega)
  have hset4 : Blk (w3.setCell ⟨rb, 13, none⟩ (.int .i64 (m : Int))) rb 157 (((rc.set 12 (.slice (some ⟨tb, 0, none⟩) 2048 2048)).set 44 v44).set 13 (.int .i64 (m : Int))) := hr3.set 13 _
  have hkset : Keep (· = rb) w (w3.setCell ⟨rb, 13, none⟩ (.int .i64 (m : Int))) := hk4.set (p := ⟨rb, 13, none⟩) (.inl rfl) _
  have hrd4 : RdOff (w3.setCell ⟨rb, 13, none⟩ (.int .i64 (m : Int))) rb := by
    obtain ⟨x, hx⟩ := Hfr.out.off
    exact ⟨x, by rw [hset4.cell, List.getElem?_set_ne (by decide), List.getElem?_set_ne (by decide), List.getElem?_set_ne (by decide)]; exact hx⟩
  have Hk4 := Lib.hid hkset
  have Hrd4 := Lib.hid hrd4
  have hoqN : oq ≤ N := by omega
  have Hoq := Lib.hid hoq
  clear ht' h1' hts hoq Hread e12' hw5 Hw4 hk4 hset4 hkset hrd4 hb3 hr3 hk3
  by_cases hzq : z < q
  · go_wp2_with (go_at_call 93; (with_reducible refine (Herr.out _ _ _ Hk4.out Hrd4.out).mono ?_); rintro e w5 ⟨v, ⟨vt, vx, rfl⟩, rfl, hk5⟩)
    go_ret3
    exact ⟨Hk4.out.kept hk5, _, _, rfl⟩
  obtain ⟨sq, hsq⟩ : ∃ x, x = z - q := ⟨_, rfl⟩
  have hsi : (z : Int) - (q : Int) = (sq : Int) := by omega
  have hq0 : q ≤ z := by omega
  have hoqs : oq + sq ≤ N := by have := Hoq.out; omega
  have hoq2 : 2 ≤ oq := by have := Hoq.out; omega
  have hW := Hw5.out
  rw [← Hoq.out, ← hsq] at hW
  have hW2 := hW.resolve_left hzq
  clear hsq
  go_upto_region 51 with (fail)
  have hdec := fourStreams_wrong (R := R) (B := B) rb (some ⟨g, o, none⟩) c ds oq sq n _ (Hs.out.keep Hk4.out (fun j _ h1 h2 => hRr (h2 ▸ h1))) (He.out.keep Hk4.out (fun j hj => by rw [hj]; exact hBr)) Hrd4.out Hd.out (by rw [← HN.out]; exact hlen) (by rw [← HN.out]; exact hc) hoq2 (by rw [← HN.out]; exact hoqs) (by omega) hW2
  rw [← HN.out] at hdec
  have Hdec := Lib.hid hdec
  clear hdec hW hW2
  go_wp2_with (go_at_call 116; (with_reducible refine Hdec.out.mono ?_); rintro e w5 ⟨hk5, vt, vx, rfl⟩)
  go_ret3
  exact ⟨Hk4.out.kept hk5, _, _, rfl⟩

set_option maxHeartbeats 8000000 in
set_option maxRecDepth 4000 in
theorem hufLit_wrong3 {R : Nat → Prop} {B : Nat} (rb : Nat) (A : Option Addr) (c : Nat) (ds : List Nat) (rc : List Value) (b0 : Nat) (w : World) (hs : Sl w R A (u8s ds)) (hRw : ∀ k, R k → k < w.heap.size) (hRr : ¬ R rb) (hBr : B ≤ rb) (he : Errs B w) (hfr : Fresh w rb rc) (hd : Bytes ds) (hlen : ds.length < 2 ^ 24) (hc : ds.length ≤ c)
    (hb0 : ds[0]? = some b0) (hk2 : 2 ≤ b0 % 4) (hf : b0 / 4 % 4 = 3) (h : HufW ds (b0 % 4) 3) :
    Calls Tryd.prog 107 #[.pointer (some ⟨rb, 0, none⟩), .slice A ds.length c, .int .i64 1, .int .u8 (b0 : Int), .slice none 0 0] w (BadPost (· = rb) w) := by
  have h256 := hd b0 (List.mem_of_getElem? hb0)
  have hl0 : 0 < ds.length := (List.getElem?_eq_some_iff.1 hb0).1
  obtain ⟨g, o, hRg, rfl, hcell⟩ := hs.get (by simp; omega)
  have hbyte : ∀ j, j < ds.length → ∃ x, ds[j]? = some x ∧ x < 256 ∧ w.cell? ⟨g, o + j, none⟩ = some (.int .u8 (x : Int)) := fun j hj =>
    ⟨ds.getD j 0, by rw [List.getD_eq_getElem?_getD, List.getElem?_eq_getElem hj]; rfl, hd.getD j, hcell j _ (u8s_at hj)⟩
  obtain ⟨b9, hb0y, _, hc0⟩ := hbyte 0 hl0
  obtain rfl : b0 = b9 := Option.some.inj (hb0.symm.trans hb0y)
  have hO : hd2 3 = 5 := rfl
  have heof := fun (x : Int) w' (hk : Kept w w') => makeEOFError (B := B) rb x w' (he.kept hk) (hfr.rdOff.kept hk)
  have herr1 := fun (x : Int) (t : ByteArray) w' (hk : Kept w w') => makeError (B := B) rb x t w' (he.kept hk) (hfr.rdOff.kept hk)
  have herr := fun (x : Int) (t : ByteArray) w' (hk : Keep (· = rb) w w') (hr : RdOff w' rb) => makeError (B := B) rb x t w' (he.keep hk (fun j hj => by rw [hj]; exact hBr)) hr
  have Heof := Lib.hid heof
  have Herr := Lib.hid herr
  have Herr1 := Lib.hid herr1
  obtain ⟨n, hn⟩ : ∃ x, x = lmany ds 3 := ⟨_, rfl⟩
  obtain ⟨z, hz⟩ : ∃ x, x = lsize ds 3 := ⟨_, rfl⟩
  obtain ⟨N, hN⟩ : ∃ N, N = ds.length := ⟨_, rfl⟩
  obtain ⟨k, hk⟩ : ∃ k, k = b0 % 4 := ⟨_, rfl⟩
  unfold HufW at h
  rw [hO, ← hz, ← hk, ← hN] at h
  have hki : (b0 : Int) % 4 = (k : Int) := by omega
  have hfi : (b0 : Int) / 4 % 4 = 3 := by omega
  have hbk : Go.bits .and .u8 (b0 : Int) 3 = (k : Int) := by rw [and_u8_3 h256, ← hk]
  have hbf : Go.bits .and .u8 ((b0 : Int) / 4) 3 = 3 := by
    have h := and_u8_3 (a := b0 / 4) (by omega)
    rw [hf, show ((b0 / 4 : Nat) : Int) = (b0 : Int) / 4 by omega] at h
    exact h
  have hk4 : k = 2 ∨ k = 3 := by omega
  have Hbyte := Lib.hid hbyte
  have Hs := Lib.hid hs
  have Hd := Lib.hid hd
  have HRw := Lib.hid hRw
  have Hfr := Lib.hid hfr
  have He := Lib.hid he
  have Hw := Lib.hid h
  have d12 : w.cell? ⟨rb, 12, none⟩ = some (.slice none 0 0) := by rw [hfr.rd.cell]; exact hfr.tab
  have f12 := hfr.rd.frozen 12
  have d13 : w.cell? ⟨rb, 13, none⟩ = some (.int .i64 0) := by rw [hfr.rd.cell]; exact hfr.log
  have f13 := hfr.rd.frozen 13
  have hrbl := hfr.rd.lt
  rw [← hN] at hlen hc hl0 ⊢
  have HN := Lib.hid hN
  clear hbyte hs hd hRw hfr he hcell hN hO hb0y hk2 hf h heof herr herr1 hk
  go_enter Tryd.func107, Tryd.ntmps107
  by_cases hshort : N < 5
  · go_wp2_with (go_at_call 92; (with_reducible refine (Heof.out _ _ (Keep.refl _ _)).mono ?_); rintro e w1 ⟨v, ⟨vt, vx, rfl⟩, rfl, hk1⟩)
    go_ret3
    exact ⟨hk1.any _, _, _, rfl⟩
  obtain ⟨b1, hb1', h1256, hc1⟩ := Hbyte.out 1 (by rw [← HN.out]; omega)
  obtain ⟨b2, hb2', h2256, hc2⟩ := Hbyte.out 2 (by rw [← HN.out]; omega)
  obtain ⟨b3, hb3', h3256, hc3⟩ := Hbyte.out 3 (by rw [← HN.out]; omega)
  obtain ⟨b4, hb4', h4256, hc4⟩ := Hbyte.out 4 (by rw [← HN.out]; omega)
  have hz3 : num (ds.take (hd2 3)) = b0 + 256 * b1 + 65536 * b2 + 16777216 * b3 + 4294967296 * b4 := num5 hb0 hb1' hb2' hb3' hb4'
  have hw2 : (2 : Nat) ^ wd2 3 = 262144 := by decide
  have hn3 : n = b0 / 16 + b1 * 16 + b2 % 64 * 4096 := by rw [hn, lmany, hz3, hw2]; omega
  have hq3 : z = b2 / 64 + b3 * 4 + b4 * 1024 := by rw [hz, lsize, hz3, hw2]; omega
  obtain ⟨n0, hn0⟩ : ∃ x, x = b0 / 16 + b1 * 16 := ⟨_, rfl⟩
  obtain ⟨z0, hz0⟩ : ∃ x, x = b2 / 64 + b3 * 4 := ⟨_, rfl⟩
  have hor0 : Go.bits .or .i64 ((b0 : Int) / 16) ((b1 : Int) * 16) = (n0 : Int) := by
    have h := or_at (a := b0 / 16) (b := b1) (p := 16) (s := 4) rfl (by decide) (by omega) (by omega)
    rw [← hn0, show ((b0 / 16 : Nat) : Int) = (b0 : Int) / 16 by omega] at h
    exact h
  have hor1 : Go.bits .or .i64 (n0 : Int) ((b2 : Int) % 64 * 4096) = (n : Int) := by
    have h := or_at (a := n0) (b := b2 % 64) (p := 4096) (s := 12) rfl (by decide) (by omega) (by omega)
    rw [hn0, ← hn3, ← hn0, show ((b2 % 64 : Nat) : Int) = (b2 : Int) % 64 by omega] at h
    exact h
  have hor2 : Go.bits .or .i64 ((b2 : Int) / 64) ((b3 : Int) * 4) = (z0 : Int) := by
    have h := or_at (a := b2 / 64) (b := b3) (p := 4) (s := 2) rfl (by decide) (by omega) (by omega)
    rw [← hz0, show ((b2 / 64 : Nat) : Int) = (b2 : Int) / 64 by omega] at h
    exact h
  have hor3 : Go.bits .or .i64 (z0 : Int) ((b4 : Int) * 1024) = (z : Int) := by
    have h := or_at (a := z0) (b := b4) (p := 1024) (s := 10) rfl (by decide) (by omega) (by omega)
    rw [hz0, ← hq3, ← hz0] at h
    exact h
  have ha1 : Go.bits .and .i64 (b2 : Int) 63 = (b2 : Int) % 64 := by rw [and_i64_63 h2256]; omega
  have v1 : IntKind.i64.wrap ((b3 : Int) * 4) = (b3 : Int) * 4 := by rw [IntKind.wrap_i64]; omega
  have v2 : IntKind.i64.wrap ((b1 : Int) * 16) = (b1 : Int) * 16 := by rw [IntKind.wrap_i64]; omega
  have v3 : IntKind.i64.wrap ((b2 : Int) % 64 * 4096) = (b2 : Int) % 64 * 4096 := by rw [IntKind.wrap_i64]; omega
  have v4 : IntKind.i64.wrap ((b4 : Int) * 1024) = (b4 : Int) * 1024 := by rw [IntKind.wrap_i64]; omega
  clear hn0 hz0
  have hNO : 4 < N := by omega
  have hN1 : 1 < N := by omega
  have hN2 : 2 < N := by omega
  have hN3 : 3 < N := by omega
  have hz24 : z < 16777216 := by omega
  have hn24 : n < 16777216 := by omega
  clear hz3 hw2 hn3 hq3 hb0 hb1' hb2' hb3' hb4' hn hz
  go_upto_region 25 with (fail)
  go_quiet (fail)
  go_upto_region 26 with (fail)
  go_quiet (fail)
  go_upto_region 29 with (fail)
  by_cases hnbig : 131072 < n
  · go_wp2_with (go_at_call 93; (with_reducible refine (Herr1.out _ _ _ ((Keep.refl _ _).drewN _)).mono ?_); rintro e w1 ⟨v, ⟨vt, vx, rfl⟩, rfl, hk1⟩)
    go_ret3
    exact ⟨Kept.any (((Keep.refl (fun _ => False) w).drewN _).trans hk1) _, _, _, rfl⟩
  by_cases hzbig : N < 5 + z
  · go_wp2_with (go_at_call 92; (with_reducible refine (Heof.out _ _ ((Keep.refl _ _).drewN _)).mono ?_); rintro e w1 ⟨v, ⟨vt, vx, rfl⟩, rfl, hk1⟩)
    go_ret3
    exact ⟨Kept.any (((Keep.refl (fun _ => False) w).drewN _).trans hk1) _, _, _, rfl⟩
  have hfit : 5 + z ≤ N := by omega
  rcases hk4 with rfl | rfl
  rotate_left
  · go_wp2_with (go_at_call 93; (with_reducible refine (Herr1.out _ _ _ ((Keep.refl _ _).drewN _)).mono ?_); rintro e w1 ⟨v, ⟨vt, vx, rfl⟩, rfl, hk1⟩)
    go_ret3
    exact ⟨Kept.any (((Keep.refl (fun _ => False) w).drewN _).trans hk1) _, _, _, rfl⟩
  have hw4 : ∀ al m q, treeS (ds.drop 5) = some (al, m, q) → 1 ∈ al → z < q ∨ FourW ds (5 + q) (z - q) := by
    rcases Hw.out with h | h | h | h
    · omega
    · omega
    · exact absurd rfl h
    · exact fun al m q h1 h2 => h.2 al m q h1 h2
  have Hw4 := Lib.hid hw4
  clear hw4 Hw
  go_upto_region 38 with (at_make; refine wpList_make rfl _ _ rfl elU16 .i64 .i64 2048 2048 rfl rfl (Nat.le_refl _) (by omega) ?_; intro w1 hk1 hg1; have hkw1 : Kept w w1 := ((Keep.refl (fun _ => False) w).drewN _).trans hk1; have hrb1 := Hfr.out.rd.kept hkw1; have e12 : w1.cell? ⟨rb, 12, none⟩ = some (.slice none 0 0) := hkw1.cell d12 (fun h => h); have g12 := hrb1.frozen 12)
  obtain ⟨tb, htb⟩ : ∃ x, x = w.heap.size := ⟨_, rfl⟩
  have hg2 : Blk w1 tb 179 (u16s (List.replicate 2048 0)) := by
    rw [htb]
    exact Blk.cast hg1 (by rw [Nat.mul_one, ← made_u16]; exact made_list (.int .u16 0) rfl 2048)
  obtain ⟨W2, hW2⟩ : ∃ x, x = w1.setCell ⟨rb, 12, none⟩ (.slice (some ⟨tb, 0, none⟩) 2048 2048) := ⟨_, rfl⟩
  rw [← htb, ← hW2]
  have hrtb : tb ≠ rb := by omega
  have hk2 : Keep (· = rb) w W2 := by rw [hW2]; exact (Kept.any hkw1 (· = rb)).set (p := ⟨rb, 12, none⟩) (.inl rfl) _
  have hr2 : Blk W2 rb 157 (rc.set 12 (.slice (some ⟨tb, 0, none⟩) 2048 2048)) := by rw [hW2]; exact hrb1.set 12 _
  have ht2 : Blk W2 tb 179 (u16s (List.replicate 2048 0)) := by rw [hW2]; exact hg2.far (p := ⟨rb, 12, none⟩) hrtb _
  have hBw : B ≤ w.heap.size := by obtain ⟨_, _, _, _, _, _, _, _, _, _, _, _, _, _, h9⟩ := He.out; exact h9
  have hW2s : w.heap.size ≤ W2.heap.size := hk2.size
  have h44 : (rc.set 12 (.slice (some ⟨tb, 0, none⟩) 2048 2048))[44]? = some (.slice none 0 0) := by rw [List.getElem?_set_ne (by decide)]; exact Hfr.out.scr
  have h66 : ∃ x : Int, (rc.set 12 (.slice (some ⟨tb, 0, none⟩) 2048 2048))[6]? = some (.int .i64 x) := by
    obtain ⟨x, hx⟩ := Hfr.out.off
    exact ⟨x, by rw [List.getElem?_set_ne (by decide)]; exact hx⟩
  have hread := readHuff_any (R := R) (B := B) rb tb (some ⟨g, o, none⟩) c 5 ds _ W2 (Hs.out.keep hk2 (fun j _ h1 h2 => hRr (h2 ▸ h1))) (fun j hj => by have := HRw.out j hj; omega) hRr (fun h => by have := HRw.out tb h; omega) hr2 h66 h44 ht2 hBr (by omega) (He.out.keep hk2 (fun j hj => by rw [hj]; exact hBr)) Hd.out (by rw [← HN.out]; exact hlen)
  rw [← HN.out] at hread
  replace hread : Calls Tryd.prog 84 #[.pointer (some ⟨rb, 0, none⟩), .slice (some ⟨g, o, none⟩) N c, .int .i64 5, .slice (some ⟨tb, 0, none⟩) 2048 2048] W2 _ := hread
  have Hread := Lib.hid hread
  have e12' : W2.cell? ⟨rb, 12, none⟩ = some (.slice (some ⟨tb, 0, none⟩) 2048 2048) := by
    rw [hr2.cell, List.getElem?_set_self (by have := (List.getElem?_eq_some_iff.1 Hfr.out.tab).1; exact this)]
  have Htb := Lib.hid htb
  have htbw : w.heap.size ≤ tb := by omega
  have hbgt : B ≤ tb := by omega
  clear hread htb hW2 hg1 hg2 hk1 e12 g12 d12 f12 d13 f13 hkw1 hrb1 ht2
  go_upto_region 41 with (go_at_call 84; (with_reducible refine Hread.out.mono ?_); rintro e w3 ⟨hk3, ⟨v44, hr3⟩, ⟨al, m, q, ht', h1', rfl, hb3⟩ | ⟨ev, ⟨vt, vx, rfl⟩, rfl, hno⟩⟩)
  rotate_left
  · go_wp2_with fail
    go_ret3
    exact ⟨hk2.then hk3 (fun j hj h => by omega), _, _, rfl⟩
  have hts := tree_facts ht'
  have hqN := (treeS_some ht').2.2.1
  rw [List.length_drop, ← HN.out] at hqN
  have hq1 := hts.1
  have hw5 := Hw4.out al m q ht' h1'
  have Hw5 := Lib.hid hw5
  obtain ⟨oq, hoq⟩ : ∃ x, x = 5 + q := ⟨_, rfl⟩
  have hoqi : (5 : Int) + (q : Int) = (oq : Int) := by omega
  rw [hoqi]
  clear hoqi
  have hqi : (oq : Int) - 5 = (q : Int) := by omega
  have g13 := hr3.frozen 13
  have e13 : w3.cell? ⟨rb, 13, none⟩ = some (.int .i64 0) := by
    rw [hr3.cell, List.getElem?_set_ne (by decide), List.getElem?_set_ne (by decide)]; exact Hfr.out.log
  have hm11 := hts.2.1
  have hm1 := hts.2.2.1
  have hk4 : Keep (· = rb) w w3 := hk2.then hk3 (fun j hj h => by omega)
  have hset4 : Blk (w3.setCell ⟨rb, 13, none⟩ (.int .i64 (m : Int))) rb 157 (((rc.set 12 (.slice (some ⟨tb, 0, none⟩) 2048 2048)).set 44 v44).set 13 (.int .i64 (m : Int))) := hr3.set 13 _
  have hkset : Keep (· = rb) w (w3.setCell ⟨rb, 13, none⟩ (.int .i64 (m : Int))) := hk4.set (p := ⟨rb, 13, none⟩) (.inl rfl) _
  have hrd4 : RdOff (w3.setCell ⟨rb, 13, none⟩ (.int .i64 (m : Int))) rb := by
    obtain ⟨x, hx⟩ := Hfr.out.off
    exact ⟨x, by rw [hset4.cell, List.getElem?_set_ne (by decide), List.getElem?_set_ne (by decide), List.getElem?_set_ne (by decide)]; exact hx⟩
  have Hk4 := Lib.hid hkset
  have Hrd4 := Lib.hid hrd4
  have hoqN : oq ≤ N := by omega
  have Hoq := Lib.hid hoq
  clear ht' h1' hts hoq Hread e12' hw5 Hw4 hk4 hset4 hkset hrd4 hb3 hr3 hk3
  by_cases hzq : z < q
  · go_wp2_with (go_at_call 93; (with_reducible refine (Herr.out _ _ _ Hk4.out Hrd4.out).mono ?_); rintro e w5 ⟨v, ⟨vt, vx, rfl⟩, rfl, hk5⟩)
    go_ret3
    exact ⟨Hk4.out.kept hk5, _, _, rfl⟩
  obtain ⟨sq, hsq⟩ : ∃ x, x = z - q := ⟨_, rfl⟩
  have hsi : (z : Int) - (q : Int) = (sq : Int) := by omega
  have hq0 : q ≤ z := by omega
  have hoqs : oq + sq ≤ N := by have := Hoq.out; omega
  have hoq2 : 2 ≤ oq := by have := Hoq.out; omega
  have hW := Hw5.out
  rw [← Hoq.out, ← hsq] at hW
  have hW2 := hW.resolve_left hzq
  clear hsq
  go_upto_region 51 with (fail)
  have hdec := fourStreams_wrong (R := R) (B := B) rb (some ⟨g, o, none⟩) c ds oq sq n _ (Hs.out.keep Hk4.out (fun j _ h1 h2 => hRr (h2 ▸ h1))) (He.out.keep Hk4.out (fun j hj => by rw [hj]; exact hBr)) Hrd4.out Hd.out (by rw [← HN.out]; exact hlen) (by rw [← HN.out]; exact hc) hoq2 (by rw [← HN.out]; exact hoqs) (by omega) hW2
  rw [← HN.out] at hdec
  have Hdec := Lib.hid hdec
  clear hdec hW hW2
  go_wp2_with (go_at_call 116; (with_reducible refine Hdec.out.mono ?_); rintro e w5 ⟨hk5, vt, vx, rfl⟩)
  go_ret3
  exact ⟨Hk4.out.kept hk5, _, _, rfl⟩
end

section
theorem hufLit_any {R : Nat → Prop} {B : Nat} (rb : Nat) (A : Option Addr) (c : Nat) (ds : List Nat) (rc : List Value) (b0 : Nat) (w : World) (hs : Sl w R A (u8s ds)) (hRw : ∀ k, R k → k < w.heap.size) (hRr : ¬ R rb) (hBr : B ≤ rb) (he : Errs B w) (hfr : Fresh w rb rc) (hd : Bytes ds) (hlen : ds.length < 2 ^ 24) (hc : ds.length ≤ c)
    (hb0 : ds[0]? = some b0) (hk2 : 2 ≤ b0 % 4) (hv : (litH ds (b0 % 4) (b0 / 4 % 4)).1 = 1 ∨ (litH ds (b0 % 4) (b0 / 4 % 4)).1 = 2) :
    Calls Tryd.prog 107 #[.pointer (some ⟨rb, 0, none⟩), .slice A ds.length c, .int .i64 1, .int .u8 (b0 : Int), .slice none 0 0] w (LitPost (· = rb) w (litH ds (b0 % 4) (b0 / 4 % 4))) := by
  have h4 : b0 / 4 % 4 = 0 ∨ b0 / 4 % 4 = 1 ∨ b0 / 4 % 4 = 2 ∨ b0 / 4 % 4 = 3 := by omega
  rcases hv with h1 | h1
  · have he1 : litH ds (b0 % 4) (b0 / 4 % 4) = (1, (litH ds (b0 % 4) (b0 / 4 % 4)).2.1, (litH ds (b0 % 4) (b0 / 4 % 4)).2.2) := by rw [← h1]
    obtain ⟨hk, hR⟩ := litH_right hd (by omega) he1
    rw [he1]
    rcases h4 with h | h | h | h
    · rw [h] at hR ⊢; exact hufLit_right0 rb A c ds _ rc b0 _ w hs hRw hRr hBr he hfr hd hlen hc hb0 hk h hR
    · rw [h] at hR ⊢; exact hufLit_right1 rb A c ds _ rc b0 _ w hs hRw hRr hBr he hfr hd hlen hc hb0 hk h hR
    · rw [h] at hR ⊢; exact hufLit_right2 rb A c ds _ rc b0 _ w hs hRw hRr hBr he hfr hd hlen hc hb0 hk h hR
    · rw [h] at hR ⊢; exact hufLit_right3 rb A c ds _ rc b0 _ w hs hRw hRr hBr he hfr hd hlen hc hb0 hk h hR
  · have hW := litH_wrong hd (by omega) h1
    have hto : ∀ e w', BadPost (· = rb) w e w' → LitPost (· = rb) w (litH ds (b0 % 4) (b0 / 4 % 4)) e w' := fun e w' h => ⟨h.1, fun h2 => by omega, fun _ => h.2⟩
    rcases h4 with h | h | h | h
    · rw [h] at hW; exact (hufLit_wrong0 rb A c ds rc b0 w hs hRw hRr hBr he hfr hd hlen hc hb0 hk2 h hW).mono hto
    · rw [h] at hW; exact (hufLit_wrong1 rb A c ds rc b0 w hs hRw hRr hBr he hfr hd hlen hc hb0 hk2 h hW).mono hto
    · rw [h] at hW; exact (hufLit_wrong2 rb A c ds rc b0 w hs hRw hRr hBr he hfr hd hlen hc hb0 hk2 h hW).mono hto
    · rw [h] at hW; exact (hufLit_wrong3 rb A c ds rc b0 w hs hRw hRr hBr he hfr hd hlen hc hb0 hk2 h hW).mono hto

theorem LitPost.or {S : Nat → Prop} {w w' : World} {v : Nat × List Nat × Nat} {e : Ending} (h : LitPost S w v e w') (hv : v.1 = 1 ∨ v.1 = 2) : Keep S w w' ∧
    ((v.1 = 1 ∧ ∃ A' n c', Hid (n = v.2.1.length) ∧ e = .returned (.tuple #[.int .i64 ((v.2.2 : Nat) : Int), .slice A' n c', .nilIface]) ∧ w'.ownsRow w.heap.size 5 1 (.slice A' n c') n (u8s v.2.1)) ∨
    (v.1 = 2 ∧ ∃ t x, e = .returned (.tuple #[.int .i64 0, .slice none 0 0, .iface t x]))) :=
  ⟨h.1, hv.elim (fun h1 => .inl ⟨h1, h.2.1 h1⟩) (fun h1 => .inr ⟨h1, h.2.2 h1⟩)⟩

set_option maxHeartbeats 2000000 in
set_option maxRecDepth 4000 in
theorem readLits_any {R : Nat → Prop} {B : Nat} (rb : Nat) (A : Option Addr) (c : Nat) (ds : List Nat) (rc : List Value) (w : World) (hs : Sl w R A (u8s ds)) (hRw : ∀ k, R k → k < w.heap.size) (hRr : ¬ R rb) (hBr : B ≤ rb) (he : Errs B w) (hfr : Fresh w rb rc) (hd : Bytes ds) (hlen : ds.length < 2 ^ 24) (hc : ds.length ≤ c)
    (hv : (litS ds).1 = 1 ∨ (litS ds).1 = 2) :
    Calls Tryd.prog 89 #[.pointer (some ⟨rb, 0, none⟩), .slice A ds.length c, .int .i64 0, .slice none 0 0] w (LitPost (· = rb) w (litS ds)) := by
  rcases hds : ds with _ | ⟨b0, tl⟩
  · have heof := makeEOFError (B := B) rb 0 w he hfr.rdOff
    have Heof := Lib.hid heof
    clear hs hRw hRr he hfr hd hlen hc hv heof
    rw [List.length_nil]
    go_enter Tryd.func89, Tryd.ntmps89
    go_wp2_with (go_at_call 92; (with_reducible refine Heof.out.mono ?_); rintro e w1 ⟨v, ⟨vt, vx, rfl⟩, rfl, hk1⟩)
    go_ret3
    refine ⟨hk1.any _, fun h => ?_, fun _ => ⟨_, _, rfl⟩⟩
    unfold litS at h
    rw [if_pos rfl] at h
    cases h
  · rw [← hds]
    have hb0 : ds[0]? = some b0 := by rw [hds]; rfl
    have hl0 : 0 < ds.length := by rw [hds]; simp
    have hg0 : ds.getD 0 0 = b0 := by rw [hds]; rfl
    have hne : ds ≠ [] := by rw [hds]; simp
    have h256 := hd b0 (List.mem_of_getElem? hb0)
    obtain ⟨g, o, hRg, rfl, hcell⟩ := hs.get (by simp; omega)
    have hc0 : w.cell? ⟨g, o, none⟩ = some (.int .u8 (b0 : Int)) := by
      have h := hcell 0 _ (u8s_at hl0)
      rw [hg0] at h
      exact h
    obtain ⟨k, hk⟩ : ∃ k, k = b0 % 4 := ⟨_, rfl⟩
    have hbk : Go.bits .and .u8 (b0 : Int) 3 = (k : Int) := by rw [and_u8_3 h256, ← hk]
    have hki : (b0 : Int) % 4 = (k : Int) := by omega
    have hk4 : k < 4 := by omega
    by_cases hlow : k < 2
    · have hlit : litS ds = litR ds (b0 % 4) (b0 / 4 % 4) := by unfold litS; rw [if_neg hne, hg0, if_pos (by omega)]
      rw [hlit]
      have hread := rawLit_any (B := B) rb (some ⟨g, o, none⟩) c ds b0 w hs hRw he hfr.rdOff hd hlen hc hb0 (by omega)
      obtain ⟨v, hv'⟩ : ∃ v, v = litR ds (b0 % 4) (b0 / 4 % 4) := ⟨_, rfl⟩
      rw [hlit, ← hv'] at hv
      rw [← hv'] at hread ⊢
      obtain ⟨N, hN⟩ : ∃ N, N = ds.length := ⟨_, rfl⟩
      rw [← hN] at hread hl0 hc ⊢
      have hN24 : N < 16777216 := by omega
      have Hread := Lib.hid (hread.mono fun _ _ h => h.or hv)
      have h01 : k = 0 ∨ k = 1 := by omega
      clear hs hRw hRr he hfr hd hlen hread hN hcell hb0 hg0 hne hlit hv' hk hds
      go_enter Tryd.func89, Tryd.ntmps89
      rcases h01 with rfl | rfl
      all_goals
        go_wp2_with (go_at_call 106; (with_reducible refine Hread.out.mono ?_); rintro e w1 ⟨hk1, ⟨h1, A', n, c', hn, rfl, ho⟩ | ⟨h1, vt, vx, rfl⟩⟩)
        · go_ret3
          exact ⟨Kept.any hk1 _, fun _ => ⟨A', n, c', hn, rfl, ho⟩, fun h => by omega⟩
        · go_ret3
          exact ⟨Kept.any hk1 _, fun h => by omega, fun _ => ⟨_, _, rfl⟩⟩
    · have hlit : litS ds = litH ds (b0 % 4) (b0 / 4 % 4) := by unfold litS; rw [if_neg hne, hg0, if_neg (by omega)]
      rw [hlit]
      rw [hlit] at hv
      have hread := hufLit_any (B := B) rb (some ⟨g, o, none⟩) c ds rc b0 w hs hRw hRr hBr he hfr hd hlen hc hb0 (by omega) hv
      obtain ⟨v, hv'⟩ : ∃ v, v = litH ds (b0 % 4) (b0 / 4 % 4) := ⟨_, rfl⟩
      rw [← hv'] at hv
      rw [← hv'] at hread ⊢
      obtain ⟨N, hN⟩ : ∃ N, N = ds.length := ⟨_, rfl⟩
      rw [← hN] at hread hl0 hc ⊢
      have hN24 : N < 16777216 := by omega
      have Hread := Lib.hid (hread.mono fun _ _ h => h.or hv)
      have h23 : k = 2 ∨ k = 3 := by omega
      clear hs hRw hRr he hfr hd hlen hread hN hcell hb0 hg0 hne hlit hv' hk hds
      go_enter Tryd.func89, Tryd.ntmps89
      rcases h23 with rfl | rfl
      all_goals
        go_wp2_with (go_at_call 107; (with_reducible refine Hread.out.mono ?_); rintro e w1 ⟨hk1, ⟨h1, A', n, c', hn, rfl, ho⟩ | ⟨h1, vt, vx, rfl⟩⟩)
        · go_ret3
          exact ⟨hk1, fun _ => ⟨A', n, c', hn, rfl, ho⟩, fun h => by omega⟩
        · go_ret3
          exact ⟨hk1, fun h => by omega, fun _ => ⟨_, _, rfl⟩⟩

/-- What ZZLiterals and impl.Literals hand back. -/
def ZLitPost (w : World) (v : Nat × List Nat × Nat) (e : Ending) (w' : World) : Prop :=
  Kept w w' ∧ (v.1 = 1 → ∃ A' n c', Hid (n = v.2.1.length) ∧ e = .returned (.tuple #[.slice A' n c', .int .i64 ((v.2.2 : Nat) : Int), .bool true]) ∧ w'.ownsRow w.heap.size 5 1 (.slice A' n c') n (u8s v.2.1)) ∧
    (v.1 = 2 → e = .returned (.tuple #[.slice none 0 0, .int .i64 0, .bool false]))
theorem own_capL {w : World} {base n size : Nat} {e : TypeId} {A : Option Addr} {c : Nat} {xs : List Value} (h : w.ownsRow base e size (.slice A n c) n xs) : n ≤ c := by
  rcases h.2 with ⟨_, h0⟩ | ⟨g, cap, cur, hv, hb, hg, hnc, _⟩
  · omega
  · injection hv with h1 h2 h3
    omega

set_option maxHeartbeats 2000000 in
set_option maxRecDepth 4000 in
theorem zzLits_any {R : Nat → Prop} {B : Nat} (A : Option Addr) (c : Nat) (ds : List Nat) (w : World) (hs : Sl w R A (u8s ds)) (hd : Bytes ds) (hlen : ds.length < 2 ^ 24) (he : Errs B w) (hv : (litS ds).1 = 1 ∨ (litS ds).1 = 2) :
    Calls Tryd.prog 66 #[.slice A ds.length c] w (ZLitPost w (litS ds)) := by
  have hBw : B ≤ w.heap.size := by obtain ⟨_, _, _, _, _, _, _, _, _, _, _, _, _, _, h9⟩ := he; exact h9
  have Hd := Lib.hid hd
  obtain ⟨v, hv'⟩ : ∃ v, v = litS ds := ⟨_, rfl⟩
  rw [← hv']
  have Hv := Lib.hid hv
  have Hv' := Lib.hid hv'
  clear hd hv hv'
  have hs2 := hs.kept ((Keep.refl (fun _ => False) w).alloc (.cells Tryd.zeroCells157 157))
  go_enter Tryd.func66, Tryd.ntmps66
  go_wp2_with (at_builtin; refine wpList_append rfl _ _ rfl el158 (Keep.refl (fun _ => False) _) none 0 0 [] rfl (World.ownsRow_nil _ _ _ _) ds.length (u8s ds) _ rfl (src_sl Tryd.underlying22 hs2 ds.length c (by simp) (u8s_one ds)) (by omega) ?_; intro A2 c2 w2 hown2 hk4 hg5; simp only [Nat.zero_add, List.nil_append] at hown2)
  obtain ⟨rb, hrb⟩ : ∃ rb, rb = w.heap.size := ⟨_, rfl⟩
  obtain ⟨W1, hW1⟩ : ∃ x, x = w.alloc (.cells Tryd.zeroCells157 157) := ⟨_, rfl⟩
  have hk2 : Kept w W1 := by rw [hW1]; exact (Keep.refl _ _).alloc _
  have hrbk : Blk W1 rb 157 Tryd.zeroCells157.toList := by
    have := Blk.new w 157 Tryd.zeroCells157.toList
    rw [Array.toArray_toList] at this
    rw [hW1, hrb]; exact this
  rw [← hW1] at hown2 hk4 hg5 hs2
  rw [← hrb]
  have hrb4 := hrbk.kept hk4
  have he4 := (he.kept hk2).kept hk4
  have hk3 := hk2.trans hk4
  have hW1s : W1.heap.size = rb + 1 := by rw [hW1, hrb]; simp
  have hsz := hk4.size
  have hread := readLits_any (R := fun k => W1.heap.size ≤ k ∧ k < w2.heap.size) (B := B) rb A2 c2 ds Tryd.zeroCells157.toList w2 (Sl.of_own hown2) (fun k h => h.2) (fun h => by have := h.1; omega) (by omega) he4 ⟨hrb4, ⟨0, by kernel_rfl⟩, by kernel_rfl, by kernel_rfl, by kernel_rfl⟩ Hd.out hlen (own_capL hown2) Hv.out
  have hv := Hv.out
  rw [← Hv'.out] at hread hv
  have Hread := Lib.hid (hread.mono fun _ _ h => h.or hv)
  have hws : w.heap.size ≤ w2.heap.size := by omega
  clear hread hown2 hrbk hrb4 hk2 hs2 hW1s hW1 hk4 hg5 hs he he4 Hv Hv' Hd
  go_wp2_with (go_at_call 89; (with_reducible refine Hread.out.mono ?_); rintro e w3 ⟨hk6, ⟨h1, A', n, c', hn, rfl, ho⟩ | ⟨h1, vt, vx, rfl⟩⟩)
  · have hk7 : Kept w w3 := hk3.then hk6 (fun k hk h => by omega)
    go_ret3
    exact ⟨hk7, fun _ => ⟨A', n, c', hn, rfl, own_mono ho hws⟩, fun h => by omega⟩
  · have hk7 : Kept w w3 := hk3.then hk6 (fun k hk h => by omega)
    go_ret3
    exact ⟨hk7, fun h => by omega, fun _ => rfl⟩

theorem implLits_any {R : Nat → Prop} {B : Nat} (A : Option Addr) (c : Nat) (ds : List Nat) (w : World) (hs : Sl w R A (u8s ds)) (hd : Bytes ds) (hlen : ds.length < 2 ^ 24) (he : Errs B w) (hv : (litS ds).1 = 1 ∨ (litS ds).1 = 2) :
    Calls Tryd.prog 39 #[.slice A ds.length c] w (ZLitPost w (litS ds)) := by
  have hz := zzLits_any A c ds w hs hd hlen he hv
  obtain ⟨v, hv'⟩ : ∃ v, v = litS ds := ⟨_, rfl⟩
  rw [← hv'] at hz hv ⊢
  have Hz := Lib.hid hz
  clear hz hd hs he hv'
  go_enter Tryd.func39, Tryd.ntmps39
  go_wp2_with fail
  refine Hz.out.mono ?_
  rintro e w1 ⟨hk, hr, hw⟩
  rcases hv with h1 | h1
  · obtain ⟨A', n, c', hn, rfl, ho⟩ := hr h1
    go_wp2
    go_ret3
    exact ⟨hk, fun _ => ⟨A', n, c', hn, rfl, ho⟩, fun h => by omega⟩
  · have := hw h1
    subst this
    go_wp2
    go_ret3
    exact ⟨hk, fun h => by omega, fun _ => rfl⟩
end
end Go.Proofs.YtabaholflahepaaDoor
