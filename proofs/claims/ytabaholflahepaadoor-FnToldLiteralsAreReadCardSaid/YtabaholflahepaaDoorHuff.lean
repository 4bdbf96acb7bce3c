/-
  Contract of readHuff: a tree's description is read as its rows.
-/
import Derived.Test.YtabaholflahepaaDoorHuffA
import Derived.Test.YtabaholflahepaaDoorRdFse
import Derived.Deep.CutRange
namespace Go.Proofs.YtabaholflahepaaDoor
open Go.RowKit

theorem size220 (w : World) : (sizeOf (Tryd.prog.elem 220)).run Tryd.prog w = .ok 1 w := by kernel_rfl
theorem run_wts (b n : Nat) (hn : n ≤ 256) (w : World) : Sem.run Tryd.prog (Instr.sliceAt 220 (.pointer (some ⟨b, 0, none⟩)) none (some (.int .i64 (n : Int))) none) w = .ok (.slice (some ⟨b, 0, none⟩) n 256) w := by
  have ht : Tryd.prog.underlying 220 = some (.array (Tryd.prog.arrayLen 220) (Tryd.prog.elem 220)) := by kernel_rfl
  have hl : Tryd.prog.arrayLen 220 = 256 := by kernel_rfl
  rw [run_sliceAt_array_h w 220 ⟨b, 0, none⟩ ht .i64 (n : Int) (by omega) (by rw [hl]; omega), size220, hl]
  simp [Result.andThen, slicedAt, Addr.add]
theorem zero220 : Tryd.zeroCells220 = (u8s (List.replicate 256 0)).toArray := by kernel_rfl

theorem and_15b {a : Nat} (h : a < 256) : bits .and .u8 (a : Int) 15 = ((a % 16 : Nat) : Int) := by
  have e : bits .and .u8 (a : Int) ((15 : Nat) : Int) = ((a &&& 15 : Nat) : Int) := u8_and_nat a 15 h (by decide)
  have e2 : a &&& 15 = a % 16 := and_mask a 4
  rw [e2] at e
  exact e
theorem wcell {w : World} {b j : Nat} {t : TypeId} {l : List Nat} (h : Blk w b t (u8s l)) (hj : j < l.length) : ∃ u, w.cell? ⟨b, j, none⟩ = some u := by
  rw [h.cell]
  exact ⟨_, List.getElem?_eq_getElem (by simpa using hj)⟩
theorem set_one {out : List Nat} {k x : Nat} (hk : k = out.length) (h : k < 256) : (out ++ List.replicate (256 - k) 0).set k x = (out ++ [x]) ++ List.replicate (256 - (k + 1)) 0 := by
  rw [show 256 - k = (256 - (k + 1)) + 1 by omega, List.replicate_succ, List.set_append_right _ _ (by omega), hk, Nat.sub_self, List.set_cons_zero]
  simp
theorem set_two {out : List Nat} {k x y : Nat} (hk : k = out.length) (h : k + 1 < 256) : ((out ++ List.replicate (256 - k) 0).set k x).set (k + 1) y = (out ++ [x, y]) ++ List.replicate (256 - (k + 2)) 0 := by
  rw [set_one hk (by omega), set_one (by simp [hk]) h]
  simp
theorem rev_set {w : World} {b rb : Nat} {A : Option Addr} {c : Nat} {ds : List Nat} {start p : Nat} (h : Rev w b rb A c ds start p) {a : Addr} (hn : a.block ≠ b) {u : Value} : Rev (w.setCell a u) b rb A c ds start p :=
  h.keep (S := (· = a.block)) ((Keep.refl (· = a.block) w).set (.inl rfl) _) (fun h => hn h.symm)
theorem wc_12 : wc 12 = 2048 := by decide
theorem filled_cut {al : List Nat} {m k v : Nat} (h : al[k]? = some (v + 1)) (hm : v + 1 ≤ m) :
    ∃ a b, filled al m k = a ++ (List.replicate (2 ^ v) 0 ++ b) ∧ filled al m (k + 1) = a ++ (List.replicate (2 ^ v) (k * 256 + (m - v)) ++ b) ∧ a.length = (rowsTo al m v).length + (idxs (v + 1) 0 (al.take k)).length * 2 ^ v := by
  have := filled_split h (by omega) hm
  rw [wc_succ, Nat.add_sub_cancel, show m + 1 - (v + 1) = m - v by omega] at this
  exact this
theorem places_get (al : List Nat) {m v : Nat} (k : Nat) (h1 : v + 1 ≤ m) (h2 : m < 13) : (places al m k)[v + 1]? = some ((rowsTo al m v).length + (idxs (v + 1) 0 (al.take k)).length * 2 ^ v) := by
  have := places_at al k (w := v + 1) (by omega) h1 h2
  rwa [wc_succ, Nat.add_sub_cancel] at this
theorem places_next {al : List Nat} {m k v : Nat} (h : al[k]? = some (v + 1)) (h1 : v + 1 ≤ m) (h2 : m < 13) :
    (places al m k).set (v + 1) ((rowsTo al m v).length + (idxs (v + 1) 0 (al.take k)).length * 2 ^ v + 2 ^ v) = places al m (k + 1) := by
  have := places_push h (by omega) h1 h2
  rwa [wc_succ, Nat.add_sub_cancel] at this

theorem fill_get (a b : List Nat) {n j x : Nat} (hj : j < n) : (a ++ (List.replicate j x ++ (List.replicate (n - j) 0 ++ b)))[a.length + j]? = some 0 := by
  rw [List.getElem?_append_right (by omega), Nat.add_sub_cancel_left, List.getElem?_append_right (by simp), List.length_replicate, Nat.sub_self, List.getElem?_append_left (by simp; omega), List.getElem?_replicate, if_pos (by omega)]
theorem u16_or_add {a b : Nat} (ha : a < 256) (hb : b < 256) : bits .or .u16 ((a : Int) * 256) (b : Int) = ((a * 256 + b : Nat) : Int) := by
  have e : bits .or .u16 ((a * 256 : Nat) : Int) (b : Int) = ((a * 256 ||| b : Nat) : Int) := u16_or_nat _ _ (by omega) (by omega)
  have e2 : a * 256 ||| b = a * 256 + b := by
    have := or_shift (a := b) (c := a) (n := 8) (by omega)
    rw [Nat.or_comm] at this
    rw [show (256 : Nat) = 2 ^ 8 by decide, this]; omega
  rw [e2] at e
  exact e

/-- What readHuff hands back. -/
def HuffPost (w : World) (rb tb : Nat) (rc : List Value) (ds : List Nat) (off : Nat) (e : Ending) (w' : World) : Prop :=
  Keep (fun k => k = rb ∨ k = tb) w w' ∧ (∃ v, Blk w' rb 157 (rc.set 44 v)) ∧
  ((∃ al m q, treeS (ds.drop off) = some (al, m, q) ∧ 1 ∈ al ∧ e = .returned (.tuple #[.int .i64 (m : Nat), .int .i64 (off + q : Nat), .nilIface]) ∧ Blk w' tb 179 (u16s ((rowsTo al m m).map enc ++ List.replicate (2048 - 2 ^ m) 0))) ∨
   (∃ v, IsErr v ∧ e = .returned (.tuple #[.int .i64 0, .int .i64 0, v]) ∧ ∀ al m q, treeS (ds.drop off) = some (al, m, q) → 1 ∈ al → ds.length ≤ off + q))

/-- What stands when the weights are read. -/
def HuffMid (w : World) (rb wb : Nat) (rc : List Value) (ds : List Nat) (off h : Nat) (ws : List Nat) (wx : World) : Prop :=
  wtsIn (ds.drop off) = some ws ∧ off + (1 + bodyOf h) ≤ ds.length ∧ ws.length ≤ 255 ∧ (∃ tl, ws.length + tl.length = 256 ∧ Blk wx wb 220 (u8s (ws ++ tl))) ∧ Keep (fun k => k = rb ∨ wb ≤ k) w wx ∧ (∃ v, Blk wx rb 157 (rc.set 44 v))

set_option maxHeartbeats 16000000 in
set_option maxRecDepth 4000 in
theorem readHuff_any {R : Nat → Prop} {B : Nat} (rb tb : Nat) (A : Option Addr) (c off : Nat) (ds : List Nat) (rc : List Value) (w : World) (hs : Sl w R A (u8s ds)) (hRw : ∀ k, R k → k < w.heap.size) (hRr : ¬ R rb) (_hRt : ¬ R tb)
    (hrb : Blk w rb 157 rc) (h6 : ∃ x : Int, rc[6]? = some (.int .i64 x)) (h21 : rc[44]? = some (.slice none 0 0)) (htb : Blk w tb 179 (u16s (List.replicate 2048 0))) (hBr : B ≤ rb) (hBt : B ≤ tb) (he : Errs B w) (hd : Bytes ds) (hlen : ds.length < 2 ^ 24) :
    Calls Tryd.prog 84 #[.pointer (some ⟨rb, 0, none⟩), .slice A ds.length c, .int .i64 off, .slice (some ⟨tb, 0, none⟩) 2048 2048] w (HuffPost w rb tb rc ds off) := by
  have hrt : rb ≠ tb := hrb.ne htb (by decide)
  have hrd : RdOff w rb := by obtain ⟨x, hx⟩ := h6; exact ⟨x, by rw [hrb.cell]; exact hx⟩
  have hset : rc = rc.set 44 (.slice none 0 0) := by
    refine List.ext_getElem? fun j => ?_
    by_cases hj : 44 = j
    · subst hj
      rw [List.getElem?_set_self (List.getElem?_eq_some_iff.1 h21).1, h21]
    · rw [List.getElem?_set_ne hj]
  obtain ⟨zs, hzs⟩ : ∃ z, z = u16s (List.replicate 2048 0) := ⟨_, rfl⟩
  rw [← hzs] at htb
  have Hzs := Lib.hid hzs
  clear hzs
  have hrbl := hrb.lt
  have hBw : B ≤ w.heap.size := by omega
  by_cases hoff : ds.length ≤ off
  · have hno : treeS (ds.drop off) = none := by rw [List.drop_eq_nil_of_le hoff]; rfl
    have Hno := Lib.hid hno
    have Hset := Lib.hid hset
    clear hno hset hs h21 h6
    go_enter Tryd.func84, Tryd.ntmps84
    go_wp2_with (go_at_call 92; refine (makeEOFError (B := B) rb _ _ he hrd).mono ?_; rintro e w1 ⟨v, ⟨vt, vx, rfl⟩, rfl, hk⟩)
    go_returns
    exact ⟨hk.any _, ⟨_, Blk.cast (hrb.kept hk) Hset.out⟩, .inr ⟨_, ⟨vt, vx, rfl⟩, rfl, fun al m q h => by rw [Hno.out] at h; cases h⟩⟩
  obtain ⟨g, o, h, hRg, hA, hch, hhk⟩ := hs.u8 (k := off) (by omega)
  have hh256 : h < 256 := hd h (List.mem_of_getElem? hhk.out)
  obtain ⟨wb, hwb⟩ : ∃ x, x = w.heap.size := ⟨_, rfl⟩
  have hgw : g < w.heap.size := hRw _ hRg
  have h21c : w.cell? ⟨rb, 44, none⟩ = some (.slice none 0 0) := by rw [hrb.cell]; exact h21
  have hrc21 : 44 < rc.length := (List.getElem?_eq_some_iff.1 h21).1
  have Hset := Lib.hid hset
  subst hA
  have Hs := Lib.hid hs
  have Hd := Lib.hid hd
  have HRw := Lib.hid hRw
  clear hset hs h21 h6 hd hRw
  go_enter Tryd.func84, Tryd.ntmps84
  go_upto_if 55 with (fail)
  obtain ⟨W, hW⟩ : ∃ x, x = w.alloc (.cells Tryd.zeroCells220 220) := ⟨_, rfl⟩
  have hkW : Kept w W := by rw [hW]; exact (Keep.refl _ _).alloc _
  obtain ⟨zw, hzw⟩ : ∃ z, z = u8s (List.replicate 256 0) := ⟨_, rfl⟩
  have hbW : Blk W wb 220 zw := by rw [hW, hwb, zero220, ← hzw]; exact Blk.new w 220 _
  have Hzw0 : Hid (zw = u8s (nibs (ds.drop off) (2 * 0) ++ List.replicate (256 - 2 * 0) 0)) := by show _ = _; rw [hzw]; rfl
  have Hzw1 : Hid (zw = u8s (([] : List Nat) ++ List.replicate (256 - 0) 0)) := hzw
  have Hzw := Lib.hid hzw
  clear hzw
  have h21W : W.cell? ⟨rb, 44, none⟩ = some (.slice none 0 0) := hkW.cell h21c (fun h => h)
  have hrbW := hrb.kept hkW
  have f21W := hrbW.frozen 44
  have heW := he.kept hkW
  have hrdW := hrd.kept hkW
  have hwrb : wb ≠ rb := hbW.ne hrbW (by decide)
  rw [← hwb, ← hW]
  have hszW : wb < W.heap.size := by rw [hW, hwb]; simp
  have hwle : w.heap.size ≤ wb := by omega
  have hwge : wb ≤ w.heap.size := by omega
  clear hW h21c hch hwb
  obtain ⟨g2, o2, h2, _, hA2, hchW, hhk2⟩ := (Hs.out.kept hkW).u8 (k := off) (by omega)
  obtain ⟨rfl, rfl⟩ : g = g2 ∧ o = o2 := by simpa using hA2
  obtain rfl : h = h2 := Option.some.inj (hhk.out.symm.trans hhk2.out)
  clear hhk2 hA2
  go_cut [2, 13] from 41 to 277 (fun s2 s13 wx => ∃ ws : List Nat, s2 = .int .i64 ((off + (1 + bodyOf h) : Nat) : Int) ∧ s13 = .int .i64 (ws.length : Nat) ∧ Hid (HuffMid W rb wb rc ds off h ws wx))
  case first =>
    by_cases hh : h < 128
    · as_aux_lemma =>
      have hb : bodyOf h = h := by unfold bodyOf; rw [if_neg (by omega)]
      obtain ⟨x6, hx6⟩ := hrd
      rw [hrb.cell] at hx6
      have hhb : decide ((h : Int) < 128) = true := decide_eq_true (by omega)
      go_wp2_with (at_make; refine wpList_make rfl _ _ rfl elEntry .i64 .i64 64 64 rfl rfl (Nat.le_refl _) (by omega) ?_; intro w1 hk1 hg1; have c21 : w1.cell? ⟨rb, 44, none⟩ = some (.slice none 0 0) := hk1.cell h21W (fun h => h); have f21 := (hrbW.kept hk1).frozen 44)
      obtain ⟨g2, hg2⟩ : ∃ x, x = W.heap.size := ⟨_, rfl⟩
      obtain ⟨cs0, hcs0⟩ : ∃ x, x = List.replicate 64 ((0, 0, 0) : Nat × Nat × Nat) := ⟨_, rfl⟩
      have hgF : Blk w1 g2 181 (flat celE cs0) := by rw [hg2, hcs0]; exact Blk.cast hg1 (made_flat (f := celE) (K := 3) _ (0, 0, 0) rfl rfl (by decide) 64)
      have hcl : cs0.length = 64 := by rw [hcs0]; exact List.length_replicate ..
      have hg2w : wb < g2 := by omega
      rw [← hg2]
      obtain ⟨w2, hw2⟩ : ∃ x, x = w1.setCell ⟨rb, 44, none⟩ (.slice (some ⟨g2, 0, none⟩) 64 64) := ⟨_, rfl⟩
      have hgr : g2 ≠ rb := by omega
      have hg2' : Blk w2 g2 181 (flat celE cs0) := by rw [hw2]; exact hgF.far hgr _
      have hg2l := hg2'.lt
      have hrb2 : Blk w2 rb 157 (rc.set 44 (.slice (some ⟨g2, 0, none⟩) 64 64)) := by rw [hw2]; exact (hrbW.kept hk1).set 44 _
      have hk2 : Keep (· = rb) W w2 := by rw [hw2]; exact (hk1.any (· = rb)).set (p := ⟨rb, 44, none⟩) (.inl rfl) _
      have hbW2 : Blk w2 wb 220 zw := hbW.keep hk2 hwrb
      have hw2s := hk2.size
      rw [← hw2]
      have hs2 := (Hs.out.kept hkW).keep hk2 (fun k _ hR h => hRr (h ▸ hR))
      have he2 : Errs B w2 := heW.keep hk2 (fun k h => by rw [h]; exact hBr)
      have hread : Calls Tryd.prog 81 #[.pointer (some ⟨rb, 0, none⟩), .slice (some ⟨g, o, none⟩) ds.length c, .int .i64 ((off : Int) + 1), .int .i64 255, .int .i64 6, .slice (some ⟨g2, 0, none⟩) 64 64] w2 (FsePost w2 g2 cs0 ds 255 6 (8 * (off + 1))) :=
        readFSE_any (R := R) (B := B) rb (some ⟨g, o, none⟩) c (off + 1) 255 6 g2 64 64 ds cs0 w2 hs2 hg2' (fun h => by have := HRw.out _ h; omega) (fun k h => by have := HRw.out _ h; omega)
          he2 ⟨x6, by rw [hrb2.cell, List.getElem?_set_ne (by decide)]; exact hx6⟩ (Ne.symm hgr) (by omega) (by omega) Hd.out hlen (by omega) (by decide) (by decide) hcl (by decide)
      have hK : ∀ wr, Keep (fun j => j = g2 ∨ j = wb ∨ w2.heap.size ≤ j) w2 wr → Keep (fun k => k = rb ∨ k = tb) w wr := fun wr hk =>
        ((hkW.any _).then hk2 (fun k _ h => .inl h)).then hk (fun k hk h => by rcases h with h | h | h <;> omega)
      have hfail : ∀ wr vt vx, Keep (fun j => j = g2 ∨ j = wb ∨ w2.heap.size ≤ j) w2 wr → (∀ al m q, treeS (ds.drop off) = some (al, m, q) → 1 ∈ al → ds.length ≤ off + q) → HuffPost w rb tb rc ds off (.returned (.tuple #[.int .i64 0, .int .i64 0, .iface vt vx])) wr := fun wr vt vx hk hno =>
        ⟨hK wr hk, ⟨_, hrb2.keep hk (by rintro (h | h | h) <;> omega)⟩, .inr ⟨_, ⟨vt, vx, rfl⟩, rfl, hno⟩⟩
      have hE : ∀ wr, Keep (fun j => j = g2 ∨ j = wb ∨ w2.heap.size ≤ j) w2 wr → Errs B wr ∧ RdOff wr rb := fun wr hk =>
        ⟨he2.keep hk (by rintro k (h | h | h) <;> omega), ⟨x6, by rw [(hrb2.keep hk (by rintro (h | h | h) <;> omega)).cell, List.getElem?_set_ne (by decide)]; exact hx6⟩⟩
      have hSl : ∀ wr, Keep (fun j => j = g2 ∨ j = wb ∨ w2.heap.size ≤ j) w2 wr → Sl wr R (some ⟨g, o, none⟩) (u8s ds) := fun wr hk =>
        hs2.keep hk (fun k hlt hR => by have := HRw.out _ hR; rintro (h | h | h) <;> omega)
      have Hread := Lib.hid hread
      have Hfail := Lib.hid hfail
      have HE := Lib.hid hE
      have HSl := Lib.hid hSl
      have Hrb2 := Lib.hid hrb2
      have Hhk := hhk
      clear hg2' hread hK hfail hE hSl c21 f21 hw2 hgF hcs0 hg1 hg2 hk1 hx6 hrb2 hrbW f21W heW hrdW hbW h21W hchW he hrb htb
      refine Hread.out.mono ?_
      rintro e w3 ⟨hk3, ⟨L, ps, E, hde, rfl, hb3⟩ | ⟨v, ⟨vt, vx, rfl⟩, rfl, hno⟩⟩
      · have hk3' : Keep (fun j => j = g2 ∨ j = wb ∨ w2.heap.size ≤ j) w2 w3 := hk3.mono fun k _ h => .inl h
        have hds := desc_some hde (by decide)
        have hL6 : L ≤ 6 := hds.2.2.1
        have hL5 : 5 ≤ L := by have := hds.2.1; omega
        have hsh := hds.2.2.2.2.2.1
        have hpl := hds.2.2.2.2.2.2.1
        have hEe := hds.2.2.2.2.2.2.2.2
        obtain ⟨no, hno⟩ : ∃ x, x = (E + 7) / 8 := ⟨_, rfl⟩
        have hnol : no ≤ ds.length := by omega
        rw [← hno]
        have hrb3 := Hrb2.out.keep hk3 (Ne.symm hgr)
        have c21 : w3.cell? ⟨rb, 44, none⟩ = some (.slice (some ⟨g2, 0, none⟩) 64 64) := by
          rw [hrb3.cell, List.getElem?_set_self]
          exact hrc21
        obtain ⟨heR, hrdR⟩ := HE.out w3 hk3'
        have Hde := Lib.hid hde
        have Hno := Lib.hid hno
        clear hde hno hds Hread
        by_cases hl : ds.length < off + 1 + h
        · have hnoT := treeS_short hhk.out (show ds.length < off + (1 + bodyOf h) by rw [hb]; omega)
          have HnoT := Lib.hid hnoT
          clear hnoT
          go_wp2_with (go_at_call 92; refine (makeEOFError (B := B) rb _ _ heR hrdR).mono ?_; rintro e w4 ⟨v, ⟨vt, vx, rfl⟩, rfl, hk4⟩)
          go_ret3
          exact Hfail.out w4 vt vx (hk3'.kept hk4) (fun al m q ht _ => by rw [HnoT.out] at ht; cases ht)
        obtain ⟨x, hx⟩ : ∃ x, ds[off + h]? = some x := ⟨_, List.getElem?_eq_getElem (by omega)⟩
        obtain ⟨oh, hoh⟩ : ∃ x, x = off + h := ⟨_, rfl⟩
        have hohi : (off : Int) + 1 + (h : Int) - 1 = (oh : Int) := by omega
        have hx256 : x < 256 := Hd.out x (List.mem_of_getElem? hx)
        have hs3 := HSl.out w3 hk3'
        have Hx := Lib.hid hx
        have Hoh := Lib.hid hoh
        have hohl : oh < ds.length := by omega
        clear hx hoh
        by_cases hx0 : x = 0
        · have hnoT := huff_zero hhk.out hh (by omega) (by rw [← hx0]; exact Hx.out)
          have HnoT := Lib.hid hnoT
          clear hnoT
          go_wp2_with (go_at_call 72; refine (makeRev_bad (B := B) rb (some ⟨g, o, none⟩) c ds oh no w3 hs3 (by rw [Hoh.out, ← hx0]; exact Hx.out) heR hrdR).mono ?_; rintro e w4 ⟨v, ⟨vt, vx, rfl⟩, rfl, hk4⟩)
          go_ret3
          exact Hfail.out _ vt vx ((hk3'.kept hk4).alloc _) (fun al m q ht _ => by rw [HnoT.out] at ht; cases ht)
        obtain ⟨n7, hn7⟩ : ∃ x', x' = Nat.log2 x := ⟨_, rfl⟩
        have hlo : 2 ^ n7 ≤ x := by rw [hn7]; exact Nat.log2_self_le hx0
        have hhi : x < 2 ^ (n7 + 1) := by rw [hn7]; exact Nat.lt_log2_self
        have Hn7 := Lib.hid hn7
        have Hlo := Lib.hid hlo
        have Hhi := Lib.hid hhi
        clear hn7 hlo hhi
        by_cases hfull : oh < no
        · have hnoT := huff_full Hd.out hhk.out hh (by omega) Hde.out (by rw [← Hoh.out, ← Hno.out]; exact hfull)
          have HnoT := Lib.hid hnoT
          clear hnoT
          go_upto_region 19 with (go_at_call 72; refine (makeRev_cells rb (some ⟨g, o, none⟩) c ds oh no n7 x w3 hs3 Hd.out (by omega) (by rw [Hoh.out]; exact Hx.out) Hlo.out Hhi.out (by omega)).mono ?_; rintro e w4 ⟨rfl, hn77, hk4⟩)
          obtain ⟨b, hbe⟩ : ∃ x, x = w4.heap.size := ⟨_, rfl⟩
          obtain ⟨W7, hW7⟩ : ∃ x', x' = w4.alloc (.cells #[.pointer (some ⟨rb, 0, none⟩), .slice (some ⟨g, o, none⟩) ds.length c, .int .u32 (oh : Int), .int .u32 (no : Int), .int .u32 (x : Int), .int .u32 (n7 : Int)] 167) := ⟨_, rfl⟩
          have hbk : Blk W7 b 167 (rbCells rb (some ⟨g, o, none⟩) c ds.length no oh x n7) := by rw [hW7, hbe]; exact Blk.new w4 167 _
          have hk7 : Keep (fun j => j = g2 ∨ j = wb ∨ w2.heap.size ≤ j) w2 W7 := by rw [hW7]; exact (hk3'.kept hk4).alloc _
          have hbb : w2.heap.size ≤ b := by rw [hbe]; exact (hk3'.kept hk4).size
          rw [← hbe, ← hW7]
          clear hbe hW7
          obtain ⟨heR7, hrdR7⟩ := HE.out W7 hk7
          by_cases hLn : L ≤ n7
          · have hv1 := rval_short b rb (some ⟨g, o, none⟩) c ds.length no oh x n7 L W7 hbk (by omega) (by omega) (by omega) (by omega) (by omega) hLn
            have Hv1 := Lib.hid hv1
            clear hv1
            go_wp2_with (first
              | (go_at_call 73; (with_reducible refine Hv1.out.mono ?_); rintro e w8 ⟨xx, rfl, hb8, hk8⟩; have hk8' := hk7.trans (hk8.mono fun k _ h => .inr (.inr (by omega))); have hEE := HE.out w8 hk8')
              | (go_at_call 73; refine (rval_short_bad (B := B) b rb (some ⟨g, o, none⟩) c ds.length no oh x (n7 - L) L w8 hb8 (by omega) (by omega) (by omega) (by omega) (by omega) (by omega) hEE.1 hEE.2).mono ?_; rintro e w9 ⟨v, ⟨vt, vx, rfl⟩, rfl, hk9⟩))
            go_ret3
            exact Hfail.out w9 vt vx (hk8'.kept hk9) (fun al m q ht _ => by rw [HnoT.out] at ht; cases ht)
          · have hv1 := rval_short_bad (B := B) b rb (some ⟨g, o, none⟩) c ds.length no oh x n7 L W7 hbk (by omega) (by omega) (by omega) (by omega) (by omega) (by omega) heR7 hrdR7
            have Hv1 := Lib.hid hv1
            clear hv1
            go_wp2_with (go_at_call 73; (with_reducible refine Hv1.out.mono ?_); rintro e w8 ⟨v, ⟨vt, vx, rfl⟩, rfl, hk9⟩)
            go_ret3
            exact Hfail.out w8 vt vx (hk7.kept hk9) (fun al m q ht _ => by rw [HnoT.out] at ht; cases ht)
        · as_aux_lemma =>
          obtain ⟨rs, hrs⟩ : ∃ x', x' = (ds.drop no).take (off + 1 + h - no) := ⟨_, rfl⟩
          obtain ⟨lf, hlf⟩ : ∃ x', x' = 8 * (oh - no) + n7 := ⟨_, rfl⟩
          obtain ⟨hnoo, hwin, hrl, hwts⟩ := huff_wts Hd.out hhk.out hh (by omega) Hde.out (by rw [← Hoh.out, ← Hno.out]; omega) Hx.out hx0 Hno.out hrs (lf := lf) (by rw [← Hoh.out, ← Hn7.out]; exact hlf)
          obtain ⟨p0, hp0⟩ : ∃ x', x' = 8 * oh + n7 := ⟨_, rfl⟩
          have hp0l : p0 = 8 * no + lf := by omega
          have hn77 : n7 ≤ 7 := (byte_top Hlo.out Hhi.out hx256).2
          have hlfr : lf ≤ 8 * rs.length := by rw [hrl, hlf]; have := Hoh.out; omega
          have Hwin := Lib.hid hwin
          have Hwts := Lib.hid hwts
          have Hp0 := Lib.hid hp0
          clear hwin hwts hrs hlf hp0 hrl
          go_upto_region 19 with (go_at_call 72; refine (makeRev_ok rb (some ⟨g, o, none⟩) c ds oh no n7 x w3 hs3 Hd.out (by omega) (by rw [Hoh.out]; exact Hx.out) Hlo.out Hhi.out (by omega)).mono ?_; rintro e w4 ⟨rfl, hra, hk4⟩)
          obtain ⟨b, hbe⟩ : ∃ x, x = w4.heap.size := ⟨_, rfl⟩
          obtain ⟨W7, hW7⟩ : ∃ x', x' = w4.alloc (.cells #[.pointer (some ⟨rb, 0, none⟩), .slice (some ⟨g, o, none⟩) ds.length c, .int .u32 (oh : Int), .int .u32 (no : Int), .int .u32 (x : Int), .int .u32 (n7 : Int)] 167) := ⟨_, rfl⟩
          have hrev : Rev W7 b rb (some ⟨g, o, none⟩) c ds no p0 := ⟨oh, x, n7, by rw [hW7, hbe]; exact Blk.new w4 167 _, by rw [Hp0.out]; exact hra⟩
          have hk7 : Keep (fun j => j = g2 ∨ j = wb ∨ w2.heap.size ≤ j) w2 W7 := by rw [hW7]; exact (hk3'.kept hk4).alloc _
          have hbb : w2.heap.size ≤ b := by rw [hbe]; exact (hk3'.kept hk4).size
          have hb37 : Kept w3 W7 := by rw [hW7]; exact hk4.alloc _
          have hg7 := hb3.kept hb37
          have hw7 := (hbW2.keep hk3 (by omega)).kept hb37
          rw [← hbe, ← hW7]
          clear hbe hW7 hra hb37 hb3 c21 heR hrdR hs3
          obtain ⟨heR7, hrdR7⟩ := HE.out W7 hk7
          have hs7 := HSl.out W7 hk7
          have hRb : ¬ R b := fun h => by have := HRw.out _ h; omega
          have hRgb : ∀ k, R k → k ≠ b := fun k h1 h2 => hRb (h2 ▸ h1)
          have hBb : B ≤ b := by omega
          have hrbb : rb ≠ b := by omega
          obtain ⟨N, hN⟩ : ∃ x, x = 2 ^ L := ⟨_, rfl⟩
          have hN64 : N ≤ 64 := by rw [hN]; exact Nat.pow_le_pow_right (by decide) hL6
          obtain ⟨tb1, htb1⟩ : ∃ x, x = tab L ps := ⟨_, rfl⟩
          have htl1 : tb1.length = N := by rw [htb1, tab_length, hN]
          have hnext : ∀ a x, a < N → x < 2 ^ bitsS tb1 a → baseS tb1 a + x < N ∧ bitsS tb1 a ≤ 6 := by
            intro a x ha hx
            rw [htb1] at hx ⊢
            rw [hN] at ha ⊢
            have := tab_next hsh ha hx
            exact ⟨this.1, by omega⟩
          have hsym : ∀ a, symOf tb1 a < 256 := by rw [htb1]; exact symOf_lt hsh (by omega)
          obtain ⟨cs1, hcs1⟩ : ∃ x, x = cs0.drop (2 ^ L) := ⟨_, rfl⟩
          rw [← hcs1, ← htb1] at hg7
          rw [← htb1] at Hwts
          have Htl1 := Lib.hid htl1
          have Hnext := Lib.hid hnext
          have Hsym := Lib.hid hsym
          have HN := Lib.hid hN
          clear htl1 hnext hsym hN htb1 hcs1 hsh hpl
          by_cases hs1 : lf < L
          · have hnoT := treeS_no (ds := ds) (off := off) (by rw [Hwts.out, if_pos (by omega)])
            have HnoT := Lib.hid hnoT
            clear hnoT
            have hv1 := rval_bad (B := B) b rb (some ⟨g, o, none⟩) c ds no p0 L W7 hrev hs7 hRb heR7 hBb hrdR7 hrbb Hd.out (by omega) (by omega) (by omega) (by omega)
            have Hv1 := Lib.hid hv1
            clear hv1
            go_wp2_with (go_at_call 73; (with_reducible refine Hv1.out.mono ?_); rintro e w8 ⟨v, ⟨vt, vx, rfl⟩, rfl, hk9⟩)
            go_ret3
            exact Hfail.out w8 vt vx (hk7.trans (hk9.mono fun k _ h => .inr (.inr (by omega)))) (fun al m q ht _ => by rw [HnoT.out] at ht; cases ht)
          have hv1 := rval_ok b rb (some ⟨g, o, none⟩) c ds no p0 L W7 hrev hs7 hRb Hd.out (by omega) (by omega) (by omega)
          obtain ⟨V1, hV1⟩ : ∃ x, x = num ds / 2 ^ (p0 - L) % 2 ^ L := ⟨_, rfl⟩
          rw [← hV1] at hv1
          have hV1l : V1 < N := by rw [hV1, HN.out]; exact Nat.mod_lt _ (pow_pos' _)
          have Hv1 := Lib.hid hv1
          have HV1 := Lib.hid hV1
          clear hv1 hV1
          by_cases hs2 : lf < 2 * L
          · have hnoT := treeS_no (ds := ds) (off := off) (by rw [Hwts.out, if_pos hs2])
            have HnoT := Lib.hid hnoT
            clear hnoT
            go_wp2_with (first
              | (go_at_call 73; (with_reducible refine Hv1.out.mono ?_); rintro e w8 ⟨rfl, hr8, hk8⟩; have hk8' := hk7.trans (hk8.mono fun k _ h => .inr (.inr (by omega))); have hEE := HE.out w8 hk8'; have hs8 := HSl.out w8 hk8')
              | (go_at_call 73; refine (rval_bad (B := B) b rb (some ⟨g, o, none⟩) c ds no (p0 - L) L w8 hr8 hs8 hRb hEE.1 hBb hEE.2 hrbb Hd.out (by omega) (by omega) (by omega) (by omega)).mono ?_; rintro e w9 ⟨v, ⟨vt, vx, rfl⟩, rfl, hk9⟩))
            go_ret3
            exact Hfail.out w9 vt vx (hk8'.trans (hk9.mono fun k _ h => .inr (.inr (by omega)))) (fun al m q ht _ => by rw [HnoT.out] at ht; cases ht)
          obtain ⟨V2, hV2⟩ : ∃ x, x = num ds / 2 ^ (p0 - L - L) % 2 ^ L := ⟨_, rfl⟩
          have hV2l : V2 < N := by rw [hV2, HN.out]; exact Nat.mod_lt _ (pow_pos' _)
          obtain ⟨l0, hl0⟩ : ∃ x, x = lf - 2 * L := ⟨_, rfl⟩
          have hw0 : wtsIn (ds.drop off) = wts (num rs) tb1 256 V1 V2 l0 [] := by
            rw [Hwts.out, if_neg hs2, ← hl0]
            congr 1
            · rw [HV1.out, wts_window Hwin.out hlfr (by omega), hp0l]
            · have h1 := wts_window Hwin.out (L := lf - L) (n := L) (by omega) (by omega)
              rw [show lf - L - L = lf - 2 * L by omega, ← hl0] at h1
              rw [hV2, h1, hp0l]
              congr 3
              omega
          have HV2 := Lib.hid hV2
          have Hw0 := Lib.hid hw0
          have hl0b : l0 ≤ lf := by omega
          have hp0r : p0 - L - L = 8 * no + l0 := by omega
          clear hV2 hw0 hl0
          go_wp2_with (first
            | (go_at_call 73; (with_reducible refine Hv1.out.mono ?_); rintro e w8 ⟨rfl, hr8, hk8⟩; have hk8' := hk7.trans (hk8.mono fun k _ h => .inr (.inr (by omega))); have hs8 := HSl.out w8 hk8')
            | (go_at_call 73; refine (rval_ok b rb (some ⟨g, o, none⟩) c ds no (p0 - L) L w8 hr8 hs8 hRb Hd.out (by omega) (by omega) (by omega)).mono ?_; rw [← HV2.out, hp0r]; rintro e W9 ⟨rfl, hr9, hk9⟩))
          have hbg2 : b ≠ g2 := by omega
          have hgb2 : g2 ≠ b := by omega
          have hbwb : wb ≠ b := by omega
          have hg2wb : g2 ≠ wb := by omega
          have hwbg2 : wb ≠ g2 := by omega
          have hk9' : Keep (fun j => j = g2 ∨ j = wb ∨ w2.heap.size ≤ j) w2 W9 := hk8'.trans (hk9.mono fun k _ h => .inr (.inr (by omega)))
          have hg9 := (hg7.keep hk8 hgb2).keep hk9 hgb2
          have hw9 : Blk W9 wb 220 (u8s (([] : List Nat) ++ List.replicate (256 - 0) 0)) := by
            rw [← Hzw1.out]
            exact (hw7.keep hk8 hbwb).keep hk9 hbwb
          have hK2 : ∀ wr, Keep (fun j => j = g2 ∨ j = wb ∨ w2.heap.size ≤ j) w2 wr → Keep (fun k => k = rb ∨ wb ≤ k) W wr := fun wr hk =>
            (hk2.mono fun k _ h => .inl h).then hk (fun k _ h => .inr (by omega))
          have HK2 := Lib.hid hK2
          clear hK2 hw7 hg7 hk8 hk9 hr8 hs8 hrev hs7 heR7 hrdR7 hk7 hk4
          go_loopg [13, 19, 20] 257 (fun f s13 s19 s20 wr => ∃ (k a bq l : Nat) (out : List Nat), 256 - k < f ∧ k ≤ 255 ∧ s13 = .int .i64 k ∧ s19 = .int .u32 a ∧ s20 = .int .u32 bq ∧ a < N ∧ bq < N ∧ l ≤ lf ∧ Hid (k = out.length) ∧ Hid (wtsIn (ds.drop off) = wts (num rs) tb1 (256 - k) a bq l out) ∧
            Rev wr b rb (some ⟨g, o, none⟩) c ds no (8 * no + l) ∧ Blk wr wb 220 (u8s (out ++ List.replicate (256 - k) 0)) ∧ Keep (fun j => j = b ∨ j = wb) W9 wr)
          case atStart => exact ⟨0, V1, V2, l0, [], by omega, by omega, rfl, rfl, rfl, hV1l, hV2l, hl0b, rfl, Hw0.out, hr9, hw9, Keep.refl _ _⟩
          case round =>
            clear hr9 hw9
            obtain ⟨k, a, bq, l, out, q1, q2, rfl, rfl, rfl, qa, qb, ql, qol, qw, qr, qwt, qk⟩ := hrel
            have hkr : Keep (fun j => j = g2 ∨ j = wb ∨ w2.heap.size ≤ j) w2 wr := hk9'.trans (qk.mono fun k _ h => by rcases h with h | h; exact .inr (.inr (by omega)); exact .inr (.inl h))
            have hgr1 := hg9.keep qk (by rintro (h | h); exact hgb2 h; exact hg2wb h)
            have hta1 := tab_get (tb := tb1) (a := a) (by rw [Htl1.out]; exact qa)
            have htb1 := tab_get (tb := tb1) (a := bq) (by rw [Htl1.out]; exact qb)
            obtain ⟨sa1, hsa1⟩ : ∃ x, x = symOf tb1 a := ⟨_, rfl⟩
            obtain ⟨bt1, hbt1⟩ : ∃ x, x = bitsS tb1 a := ⟨_, rfl⟩
            obtain ⟨ba1, hba1⟩ : ∃ x, x = baseS tb1 a := ⟨_, rfl⟩
            obtain ⟨sb1, hsb1⟩ : ∃ x, x = symOf tb1 bq := ⟨_, rfl⟩
            rw [← hsa1, ← hbt1, ← hba1] at hta1
            rw [← hsb1] at htb1
            have e01 : wr.cell? ⟨g2, a * 3, none⟩ = some (.int .u8 (sa1 : Int)) := hgr1.row celE_length (j := 0) (by rw [List.getElem?_append_left (by rw [Htl1.out]; exact qa)]; exact hta1) rfl
            have e11 : wr.cell? ⟨g2, a * 3 + 1, none⟩ = some (.int .u8 (bt1 : Int)) := hgr1.row celE_length (j := 1) (by rw [List.getElem?_append_left (by rw [Htl1.out]; exact qa)]; exact hta1) rfl
            have e21 : wr.cell? ⟨g2, a * 3 + 2, none⟩ = some (.int .u16 (ba1 : Int)) := hgr1.row celE_length (j := 2) (by rw [List.getElem?_append_left (by rw [Htl1.out]; exact qa)]; exact hta1) rfl
            have e31 : wr.cell? ⟨g2, bq * 3, none⟩ = some (.int .u8 (sb1 : Int)) := hgr1.row celE_length (j := 0) (by rw [List.getElem?_append_left (by rw [Htl1.out]; exact qb)]; exact htb1) rfl
            obtain ⟨X1, hX1⟩ : ∃ x, x = num ds / 2 ^ (8 * no + l - bt1) % 2 ^ bt1 := ⟨_, rfl⟩
            have hnx1 := Hnext.out a X1 qa (by rw [hX1, hbt1]; exact Nat.mod_lt _ (pow_pos' _))
            rw [← hba1, ← hbt1] at hnx1
            have hnx61 := hnx1.2
            have hnxN1 := hnx1.1
            have ha641 : (a : Int) < 64 := by omega
            have hb641 : (bq : Int) < 64 := by omega
            have hs1 := HSl.out wr hkr
            have hf1 := fetch_any b rb (some ⟨g, o, none⟩) c ds no (8 * no + l) bt1 wr qr hs1 hRb Hd.out (by omega) (by omega) (by omega)
            have Hsa1 := Lib.hid hsa1
            have Hbt1 := Lib.hid hbt1
            have Hba1 := Lib.hid hba1
            have Hsb1 := Lib.hid hsb1
            have HX1 := Lib.hid hX1
            clear hsa1 hbt1 hba1 hsb1 hX1 hnx1 hta1 htb1
            by_cases hbl1 : l < bt1
            · rw [decide_eq_false (show ¬ 8 * no + bt1 ≤ 8 * no + l by omega)] at hf1
              have Hf1 := Lib.hid hf1
              clear hf1
              by_cases hk41 : 254 ≤ k
              · have hnoT := treeS_no (ds := ds) (off := off) (by rw [qw.out, show 256 - k = (256 - (k + 1)) + 1 by omega]; exact wts_end_bad (by rw [← Hbt1.out]; exact hbl1) (by rw [← qol.out]; omega))
                have HnoT := Lib.hid hnoT
                clear hnoT
                go_wp2_with (first
                  | (go_at_call 95; (with_reducible refine Hf1.out.mono ?_); rintro e y1 ⟨rfl, hr1, hk1⟩; have hk1' := hkr.trans (hk1.mono fun k _ h => .inr (.inr (by omega))); have hEE := HE.out y1 hk1')
                  | (go_at_call 102; refine (rbrError (B := B) b rb (some ⟨g, o, none⟩) c ds no (8 * no + l) _ y1 hr1 hEE.1 hEE.2 (by omega)).mono ?_; rintro e y2 ⟨v, ⟨vt, vx, rfl⟩, rfl, hk9⟩))
                go_ret3
                exact Hfail.out y2 vt vx (hk1'.kept hk9) (fun al m q ht _ => by rw [HnoT.out] at ht; cases ht)
              · have hwe : wtsIn (ds.drop off) = some (out ++ [sa1, sb1]) := by rw [qw.out, show 256 - k = (256 - (k + 1)) + 1 by omega, wts_end (by rw [← Hbt1.out]; exact hbl1) (by rw [← qol.out]; omega), ← Hsa1.out, ← Hsb1.out]
                have Hwe := Lib.hid hwe
                have hk2561 : (k : Int) + 1 < 256 := by omega
                clear hwe
                go_wp2_with (go_at_call 95; (with_reducible refine Hf1.out.mono ?_); rintro e y1 ⟨rfl, hr1, hk1⟩; have x0 := hk1.cell e01 hgb2; have x3 := hk1.cell e31 hgb2; have hb1 := qwt.keep hk1 hbwb; obtain ⟨u1, z1⟩ := wcell hb1 (j := k) (by rw [List.length_append, List.length_replicate, ← qol.out]; omega); obtain ⟨u2, z2⟩ := wcell hb1 (j := k + 1) (by rw [List.length_append, List.length_replicate, ← qol.out]; omega); have fz1 := hb1.frozen k; have fz2 := hb1.frozen (k + 1))
                go_meet
                case rel =>
                  have hkf : Keep (fun j => j = g2 ∨ j = wb ∨ w2.heap.size ≤ j) w2 ((y1.setCell ⟨wb, k, none⟩ (.int .u8 (sa1 : Int))).setCell ⟨wb, k + 1, none⟩ (.int .u8 (sb1 : Int))) := ((hkr.trans (hk1.mono fun k _ h => .inr (.inr (by omega)))).set (.inl (.inr (.inl rfl))) _).set (.inl (.inr (.inl rfl))) _
                  refine ⟨out ++ [sa1, sb1], by rw [hb]; first | (congr 1; omega) | congr 1, by rw [List.length_append, ← qol.out]; first | (congr 1; done) | (congr 1; simp; omega) | rfl, ⟨Hwe.out, by rw [hb]; omega, by rw [List.length_append, ← qol.out]; simp; omega, ⟨List.replicate (256 - (k + 2)) 0, by rw [List.length_append, List.length_replicate, ← qol.out]; simp; omega, ?_⟩, HK2.out _ hkf, ⟨_, Hrb2.out.keep hkf (by rintro (h | h | h) <;> omega)⟩⟩⟩
                  rw [← set_two qol.out (by omega), ← u8s_set, ← u8s_set]
                  exact (hb1.set k _).set (k + 1) _
            · rw [decide_eq_true (show 8 * no + bt1 ≤ 8 * no + l by omega)] at hf1
              have Hf1 := Lib.hid hf1
              clear hf1
              have hval1 : ∀ w', Rev w' b rb (some ⟨g, o, none⟩) c ds no (8 * no + l) → Keep (fun j => j = g2 ∨ j = wb ∨ w2.heap.size ≤ j) w2 w' → Calls Tryd.prog 73 #[.pointer (some ⟨b, 0, none⟩), .int .u8 (bt1 : Int)] w' fun e w'' => e = .returned (.tuple #[.int .u32 (X1 : Nat), .nilIface]) ∧ Rev w'' b rb (some ⟨g, o, none⟩) c ds no (8 * no + (l - bt1)) ∧ Keep (· = b) w' w'' := fun w' h1 h2 => by
                rw [HX1.out, show 8 * no + (l - bt1) = 8 * no + l - bt1 by omega]
                exact rval_ok b rb (some ⟨g, o, none⟩) c ds no (8 * no + l) bt1 w' h1 (HSl.out w' h2) hRb Hd.out (by omega) (by omega) (by omega)
              have Hval1 := Lib.hid hval1
              clear hval1
              by_cases hk51 : 255 ≤ k
              · have hnoT := treeS_no (ds := ds) (off := off) (by rw [qw.out, show 256 - k = (256 - (k + 1)) + 1 by omega]; exact wts_bad (by rw [← Hbt1.out]; omega) (by rw [← qol.out]; omega))
                have HnoT := Lib.hid hnoT
                clear hnoT
                go_wp2_with (first
                  | (go_at_call 95; (with_reducible refine Hf1.out.mono ?_); rintro e y1 ⟨rfl, hr1, hk1⟩; have hk1' := hkr.trans (hk1.mono fun k _ h => .inr (.inr (by omega))); have x1 := hk1.cell e11 hgb2; have x2 := hk1.cell e21 hgb2)
                  | (go_at_call 73; (with_reducible refine (Hval1.out y1 hr1 hk1').mono ?_); rintro e y2 ⟨rfl, hr2, hk2⟩; have hk2' := hk1'.trans (hk2.mono fun k _ h => .inr (.inr (by omega))); have hEE := HE.out y2 hk2'; have x4 := hk2.cell x2 hgb2)
                  | (go_at_call 102; refine (rbrError (B := B) b rb (some ⟨g, o, none⟩) c ds no (8 * no + (l - bt1)) _ y2 hr2 hEE.1 hEE.2 (by omega)).mono ?_; rintro e y3 ⟨v, ⟨vt, vx, rfl⟩, rfl, hk9⟩))
                go_ret3
                exact Hfail.out y3 vt vx (hk2'.kept hk9) (fun al m q ht _ => by rw [HnoT.out] at ht; cases ht)
              · obtain ⟨k1, hkk1⟩ : ∃ x, x = k + 1 := ⟨_, rfl⟩
                have hkl1 : k < k1 := by omega
                have hkm1 : k1 ≤ k + 1 := by omega
                have hki1 : (k : Int) + 1 = (k1 : Int) := by omega
                have hk2561 : (k : Int) < 256 := by omega
                obtain ⟨l1, hl1⟩ : ∃ x, x = l - bt1 := ⟨_, rfl⟩
                obtain ⟨c1, hc1⟩ : ∃ x, x = ba1 + X1 := ⟨_, rfl⟩
                have hci1 : (ba1 : Int) + (X1 : Int) = (c1 : Int) := by omega
                obtain ⟨out1, hout1⟩ : ∃ x, x = out ++ [sa1] := ⟨_, rfl⟩
                have qw1 : wtsIn (ds.drop off) = wts (num rs) tb1 (256 - k1) bq c1 l1 out1 := by
                  have h1 := wts_window Hwin.out (L := l) (n := bt1) (by omega) (by omega)
                  rw [qw.out, show 256 - k = (256 - (k + 1)) + 1 by omega, wts_step (by rw [← Hbt1.out]; omega) (by rw [← qol.out]; omega), ← Hbt1.out, ← Hba1.out, ← Hsa1.out, h1, ← HX1.out, ← hc1, ← hl1, ← hout1, hkk1]
                have qol1 : k1 = out1.length := by rw [hout1, List.length_append, ← qol.out, hkk1]; rfl
                have hcN1 : c1 < N := by omega
                have hll1 : l1 ≤ lf := by omega
                have hkb1 : k1 ≤ 255 := by omega
                have hset1 : (u8s (out ++ List.replicate (256 - k) 0)).set k (.int .u8 (sa1 : Int)) = u8s (out1 ++ List.replicate (256 - k1) 0) := by
                  rw [u8s_set, set_one qol.out (by omega), ← hout1, hkk1]
                have Qw1 := Lib.hid qw1
                have Qol1 := Lib.hid qol1
                have Hset1 := Lib.hid hset1
                have Hl1 := Lib.hid hl1
                clear qw1 qol1 hset1 hl1 hc1 hout1 hkk1
                go_upto_region 40 with (first
                  | (go_at_call 95; (with_reducible refine Hf1.out.mono ?_); rintro e y1 ⟨rfl, hr1, hk1⟩; have hk1' := hkr.trans (hk1.mono fun k _ h => .inr (.inr (by omega))); have x1 := hk1.cell e11 hgb2; have x2 := hk1.cell e21 hgb2; have x0 := hk1.cell e01 hgb2)
                  | (go_at_call 73; (with_reducible refine (Hval1.out y1 hr1 hk1').mono ?_); rintro e y2 ⟨rfl, hr2, hk2⟩; have hk2' := hk1'.trans (hk2.mono fun k _ h => .inr (.inr (by omega))); have x4 := hk2.cell x2 hgb2; have x5 := hk2.cell x0 hgb2; have hb1 := (qwt.keep hk1 hbwb).keep hk2 hbwb; obtain ⟨u1, z1⟩ := wcell hb1 (j := k) (by rw [List.length_append, List.length_replicate, ← qol.out]; omega); have fz1 := hb1.frozen k))
                obtain ⟨Y, hY⟩ : ∃ x, x = y2.setCell ⟨wb, k, none⟩ (.int .u8 (sa1 : Int)) := ⟨_, rfl⟩
                have qwt1 : Blk Y wb 220 (u8s (out1 ++ List.replicate (256 - k1) 0)) := by rw [hY]; exact Blk.cast (hb1.set k _) Hset1.out
                have qr1 : Rev Y b rb (some ⟨g, o, none⟩) c ds no (8 * no + l1) := by rw [hY, Hl1.out]; exact rev_set hr2 hbwb
                have qk1 : Keep (fun j => j = b ∨ j = wb) W9 Y := by rw [hY]; exact ((qk.trans (hk1.mono fun k _ h => .inl h)).trans (hk2.mono fun k _ h => .inl h)).set (.inl (.inr rfl)) _
                rw [← hY]
                have hkr1 : Keep (fun j => j = g2 ∨ j = wb ∨ w2.heap.size ≤ j) w2 Y := hk9'.trans (qk1.mono fun k _ h => by rcases h with h | h; exact .inr (.inr (by omega)); exact .inr (.inl h))
                have hgr2 := hg9.keep qk1 (by rintro (h | h); exact hgb2 h; exact hg2wb h)
                clear hY hb1 x0 x1 x2 x4 x5 z1 fz1 hr1 hr2 hk1 hk2 hk1' hk2' e01 e11 e21 e31 qwt qr hkr hgr1 hs1 qk
                have hta2 := tab_get (tb := tb1) (a := bq) (by rw [Htl1.out]; exact qb)
                have htb2 := tab_get (tb := tb1) (a := c1) (by rw [Htl1.out]; exact hcN1)
                obtain ⟨sa2, hsa2⟩ : ∃ x, x = symOf tb1 bq := ⟨_, rfl⟩
                obtain ⟨bt2, hbt2⟩ : ∃ x, x = bitsS tb1 bq := ⟨_, rfl⟩
                obtain ⟨ba2, hba2⟩ : ∃ x, x = baseS tb1 bq := ⟨_, rfl⟩
                obtain ⟨sb2, hsb2⟩ : ∃ x, x = symOf tb1 c1 := ⟨_, rfl⟩
                rw [← hsa2, ← hbt2, ← hba2] at hta2
                rw [← hsb2] at htb2
                have e02 : Y.cell? ⟨g2, bq * 3, none⟩ = some (.int .u8 (sa2 : Int)) := hgr2.row celE_length (j := 0) (by rw [List.getElem?_append_left (by rw [Htl1.out]; exact qb)]; exact hta2) rfl
                have e12 : Y.cell? ⟨g2, bq * 3 + 1, none⟩ = some (.int .u8 (bt2 : Int)) := hgr2.row celE_length (j := 1) (by rw [List.getElem?_append_left (by rw [Htl1.out]; exact qb)]; exact hta2) rfl
                have e22 : Y.cell? ⟨g2, bq * 3 + 2, none⟩ = some (.int .u16 (ba2 : Int)) := hgr2.row celE_length (j := 2) (by rw [List.getElem?_append_left (by rw [Htl1.out]; exact qb)]; exact hta2) rfl
                have e32 : Y.cell? ⟨g2, c1 * 3, none⟩ = some (.int .u8 (sb2 : Int)) := hgr2.row celE_length (j := 0) (by rw [List.getElem?_append_left (by rw [Htl1.out]; exact hcN1)]; exact htb2) rfl
                obtain ⟨X2, hX2⟩ : ∃ x, x = num ds / 2 ^ (8 * no + l1 - bt2) % 2 ^ bt2 := ⟨_, rfl⟩
                have hnx2 := Hnext.out bq X2 qb (by rw [hX2, hbt2]; exact Nat.mod_lt _ (pow_pos' _))
                rw [← hba2, ← hbt2] at hnx2
                have hnx62 := hnx2.2
                have hnxN2 := hnx2.1
                have ha642 : (bq : Int) < 64 := by omega
                have hb642 : (c1 : Int) < 64 := by omega
                have hs2 := HSl.out Y hkr1
                have hf2 := fetch_any b rb (some ⟨g, o, none⟩) c ds no (8 * no + l1) bt2 Y qr1 hs2 hRb Hd.out (by omega) (by omega) (by omega)
                have Hsa2 := Lib.hid hsa2
                have Hbt2 := Lib.hid hbt2
                have Hba2 := Lib.hid hba2
                have Hsb2 := Lib.hid hsb2
                have HX2 := Lib.hid hX2
                clear hsa2 hbt2 hba2 hsb2 hX2 hnx2 hta2 htb2
                by_cases hbl2 : l1 < bt2
                · rw [decide_eq_false (show ¬ 8 * no + bt2 ≤ 8 * no + l1 by omega)] at hf2
                  have Hf2 := Lib.hid hf2
                  clear hf2
                  by_cases hk42 : 254 ≤ k1
                  · have hnoT := treeS_no (ds := ds) (off := off) (by rw [Qw1.out, show 256 - k1 = (256 - (k1 + 1)) + 1 by omega]; exact wts_end_bad (by rw [← Hbt2.out]; exact hbl2) (by rw [← Qol1.out]; omega))
                    have HnoT := Lib.hid hnoT
                    clear hnoT
                    go_wp2_with (first
                      | (go_at_call 95; (with_reducible refine Hf2.out.mono ?_); rintro e y1 ⟨rfl, hr1, hk1⟩; have hk1' := hkr1.trans (hk1.mono fun k _ h => .inr (.inr (by omega))); have hEE := HE.out y1 hk1')
                      | (go_at_call 102; refine (rbrError (B := B) b rb (some ⟨g, o, none⟩) c ds no (8 * no + l1) _ y1 hr1 hEE.1 hEE.2 (by omega)).mono ?_; rintro e y2 ⟨v, ⟨vt, vx, rfl⟩, rfl, hk9⟩))
                    go_ret3
                    exact Hfail.out y2 vt vx (hk1'.kept hk9) (fun al m q ht _ => by rw [HnoT.out] at ht; cases ht)
                  · have hwe : wtsIn (ds.drop off) = some (out1 ++ [sa2, sb2]) := by rw [Qw1.out, show 256 - k1 = (256 - (k1 + 1)) + 1 by omega, wts_end (by rw [← Hbt2.out]; exact hbl2) (by rw [← Qol1.out]; omega), ← Hsa2.out, ← Hsb2.out]
                    have Hwe := Lib.hid hwe
                    have hk2562 : (k1 : Int) + 1 < 256 := by omega
                    clear hwe
                    go_wp2_with (go_at_call 95; (with_reducible refine Hf2.out.mono ?_); rintro e y1 ⟨rfl, hr1, hk1⟩; have x0 := hk1.cell e02 hgb2; have x3 := hk1.cell e32 hgb2; have hb1 := qwt1.keep hk1 hbwb; obtain ⟨u1, z1⟩ := wcell hb1 (j := k1) (by rw [List.length_append, List.length_replicate, ← Qol1.out]; omega); obtain ⟨u2, z2⟩ := wcell hb1 (j := k1 + 1) (by rw [List.length_append, List.length_replicate, ← Qol1.out]; omega); have fz1 := hb1.frozen k1; have fz2 := hb1.frozen (k1 + 1))
                    go_meet
                    case rel =>
                      have hkf : Keep (fun j => j = g2 ∨ j = wb ∨ w2.heap.size ≤ j) w2 ((y1.setCell ⟨wb, k1, none⟩ (.int .u8 (sa2 : Int))).setCell ⟨wb, k1 + 1, none⟩ (.int .u8 (sb2 : Int))) := ((hkr1.trans (hk1.mono fun k _ h => .inr (.inr (by omega)))).set (.inl (.inr (.inl rfl))) _).set (.inl (.inr (.inl rfl))) _
                      refine ⟨out1 ++ [sa2, sb2], by rw [hb]; first | (congr 1; omega) | congr 1, by rw [List.length_append, ← Qol1.out]; first | (congr 1; done) | (congr 1; simp; omega) | rfl, ⟨Hwe.out, by rw [hb]; omega, by rw [List.length_append, ← Qol1.out]; simp; omega, ⟨List.replicate (256 - (k1 + 2)) 0, by rw [List.length_append, List.length_replicate, ← Qol1.out]; simp; omega, ?_⟩, HK2.out _ hkf, ⟨_, Hrb2.out.keep hkf (by rintro (h | h | h) <;> omega)⟩⟩⟩
                      rw [← set_two Qol1.out (by omega), ← u8s_set, ← u8s_set]
                      exact (hb1.set k1 _).set (k1 + 1) _
                · rw [decide_eq_true (show 8 * no + bt2 ≤ 8 * no + l1 by omega)] at hf2
                  have Hf2 := Lib.hid hf2
                  clear hf2
                  have hval2 : ∀ w', Rev w' b rb (some ⟨g, o, none⟩) c ds no (8 * no + l1) → Keep (fun j => j = g2 ∨ j = wb ∨ w2.heap.size ≤ j) w2 w' → Calls Tryd.prog 73 #[.pointer (some ⟨b, 0, none⟩), .int .u8 (bt2 : Int)] w' fun e w'' => e = .returned (.tuple #[.int .u32 (X2 : Nat), .nilIface]) ∧ Rev w'' b rb (some ⟨g, o, none⟩) c ds no (8 * no + (l1 - bt2)) ∧ Keep (· = b) w' w'' := fun w' h1 h2 => by
                    rw [HX2.out, show 8 * no + (l1 - bt2) = 8 * no + l1 - bt2 by omega]
                    exact rval_ok b rb (some ⟨g, o, none⟩) c ds no (8 * no + l1) bt2 w' h1 (HSl.out w' h2) hRb Hd.out (by omega) (by omega) (by omega)
                  have Hval2 := Lib.hid hval2
                  clear hval2
                  by_cases hk52 : 255 ≤ k1
                  · have hnoT := treeS_no (ds := ds) (off := off) (by rw [Qw1.out, show 256 - k1 = (256 - (k1 + 1)) + 1 by omega]; exact wts_bad (by rw [← Hbt2.out]; omega) (by rw [← Qol1.out]; omega))
                    have HnoT := Lib.hid hnoT
                    clear hnoT
                    go_wp2_with (first
                      | (go_at_call 95; (with_reducible refine Hf2.out.mono ?_); rintro e y1 ⟨rfl, hr1, hk1⟩; have hk1' := hkr1.trans (hk1.mono fun k _ h => .inr (.inr (by omega))); have x1 := hk1.cell e12 hgb2; have x2 := hk1.cell e22 hgb2)
                      | (go_at_call 73; (with_reducible refine (Hval2.out y1 hr1 hk1').mono ?_); rintro e y2 ⟨rfl, hr2, hk2⟩; have hk2' := hk1'.trans (hk2.mono fun k _ h => .inr (.inr (by omega))); have hEE := HE.out y2 hk2'; have x4 := hk2.cell x2 hgb2)
                      | (go_at_call 102; refine (rbrError (B := B) b rb (some ⟨g, o, none⟩) c ds no (8 * no + (l1 - bt2)) _ y2 hr2 hEE.1 hEE.2 (by omega)).mono ?_; rintro e y3 ⟨v, ⟨vt, vx, rfl⟩, rfl, hk9⟩))
                    go_ret3
                    exact Hfail.out y3 vt vx (hk2'.kept hk9) (fun al m q ht _ => by rw [HnoT.out] at ht; cases ht)
                  · obtain ⟨k2, hkk2⟩ : ∃ x, x = k1 + 1 := ⟨_, rfl⟩
                    have hkl2 : k1 < k2 := by omega
                    have hkm2 : k2 ≤ k1 + 1 := by omega
                    have hki2 : (k1 : Int) + 1 = (k2 : Int) := by omega
                    have hk2562 : (k1 : Int) < 256 := by omega
                    obtain ⟨l2, hl2⟩ : ∃ x, x = l1 - bt2 := ⟨_, rfl⟩
                    obtain ⟨c2, hc2⟩ : ∃ x, x = ba2 + X2 := ⟨_, rfl⟩
                    have hci2 : (ba2 : Int) + (X2 : Int) = (c2 : Int) := by omega
                    obtain ⟨out2, hout2⟩ : ∃ x, x = out1 ++ [sa2] := ⟨_, rfl⟩
                    have qw2 : wtsIn (ds.drop off) = wts (num rs) tb1 (256 - k2) c1 c2 l2 out2 := by
                      have h1 := wts_window Hwin.out (L := l1) (n := bt2) (by omega) (by omega)
                      rw [Qw1.out, show 256 - k1 = (256 - (k1 + 1)) + 1 by omega, wts_step (by rw [← Hbt2.out]; omega) (by rw [← Qol1.out]; omega), ← Hbt2.out, ← Hba2.out, ← Hsa2.out, h1, ← HX2.out, ← hc2, ← hl2, ← hout2, hkk2]
                    have qol2 : k2 = out2.length := by rw [hout2, List.length_append, ← Qol1.out, hkk2]; rfl
                    have hcN2 : c2 < N := by omega
                    have hll2 : l2 ≤ lf := by omega
                    have hkb2 : k2 ≤ 255 := by omega
                    have hset2 : (u8s (out1 ++ List.replicate (256 - k1) 0)).set k1 (.int .u8 (sa2 : Int)) = u8s (out2 ++ List.replicate (256 - k2) 0) := by
                      rw [u8s_set, set_one Qol1.out (by omega), ← hout2, hkk2]
                    have Qw2 := Lib.hid qw2
                    have Qol2 := Lib.hid qol2
                    have Hset2 := Lib.hid hset2
                    have Hl2 := Lib.hid hl2
                    clear qw2 qol2 hset2 hl2 hc2 hout2 hkk2
                    go_wp2_with (first
                      | (go_at_call 95; (with_reducible refine Hf2.out.mono ?_); rintro e y1 ⟨rfl, hr1, hk1⟩; have hk1' := hkr1.trans (hk1.mono fun k _ h => .inr (.inr (by omega))); have x1 := hk1.cell e12 hgb2; have x2 := hk1.cell e22 hgb2; have x0 := hk1.cell e02 hgb2)
                      | (go_at_call 73; (with_reducible refine (Hval2.out y1 hr1 hk1').mono ?_); rintro e y2 ⟨rfl, hr2, hk2⟩; have hk2' := hk1'.trans (hk2.mono fun k _ h => .inr (.inr (by omega))); have x4 := hk2.cell x2 hgb2; have x5 := hk2.cell x0 hgb2; have hb1 := (qwt1.keep hk1 hbwb).keep hk2 hbwb; obtain ⟨u1, z1⟩ := wcell hb1 (j := k1) (by rw [List.length_append, List.length_replicate, ← Qol1.out]; omega); have fz1 := hb1.frozen k1))
                    go_roundg (256 - k)
                    case measure => exact q1
                    case rel => exact ⟨k2, c1, c2, l2, out2, by omega, hkb2, rfl, rfl, rfl, hcN1, hcN2, hll2, Qol2.out, Qw2.out, by rw [Hl2.out]; exact rev_set hr2 hbwb, Blk.cast (hb1.set k1 _) Hset2.out, ((qk1.trans (hk1.mono fun k _ h => .inl h)).trans (hk2.mono fun k _ h => .inl h)).set (.inl (.inr rfl)) _⟩
      · have hno2 := huff_refused Hd.out hhk.out hh hno
        have Hno2 := Lib.hid hno2
        clear hno2 hno
        go_wp2
        go_ret3
        exact Hfail.out w3 vt vx (hk3.mono fun k _ h => .inl h) Hno2.out
    · as_aux_lemma =>
      have h128 : 128 ≤ h := by omega
      have hb : bodyOf h = (h - 126) / 2 := by unfold bodyOf; rw [if_pos h128]
      obtain ⟨n, hn⟩ : ∃ n, n = h - 127 := ⟨_, rfl⟩
      have hni : (h : Int) - 127 = (n : Int) := by omega
      have hn128 : n ≤ 128 := by omega
      have hbn : bodyOf h = (n + 1) / 2 := by rw [hb]; omega
      have hws : wtsIn (ds.drop off) = some (nibs (ds.drop off) n) := by
        unfold wtsIn
        rw [(drop_head hhk.out).1, if_pos h128, hn]
      have hq2 : ((n : Int) + 1) / 2 = (((n + 1) / 2 : Nat) : Int) := by omega
      obtain ⟨bd, hbd⟩ : ∃ x, x = (n + 1) / 2 := ⟨_, rfl⟩
      rw [← hbd] at hbn hq2
      have Hws := Lib.hid hws
      have Hbn := Lib.hid hbn
      have Hbd := Lib.hid hbd
      have hbd2 : bd ≤ 64 := by omega
      have h128b : decide ((h : Int) < 128) = false := decide_eq_false (by omega)
      clear hws hb hbn hbd hn
      by_cases hl : ds.length ≤ off + 1 + bd
      · have hlb : decide ((ds.length : Int) ≤ (off : Int) + 1 + (bd : Int)) = true := decide_eq_true (by omega)
        have hlb2 : decide ((off : Int) + 1 + (bd : Int) ≥ (ds.length : Int)) = true := decide_eq_true (by omega)
        obtain ⟨p2, _, _, _, _, _, hg2, _⟩ := heW
        go_wp2
        go_quiet (fail)
        go_wp2
        go_ret3
        refine ⟨((hkW.any _).drewN _), ⟨_, Blk.cast (hrbW.drewN _) Hset.out⟩, .inr ⟨_, ⟨_, _, rfl⟩, rfl, fun al m q ht _ => ?_⟩⟩
        have := (treeS_some ht).2.1
        rw [(drop_head hhk.out).1, Hbn.out] at this
        omega
      · have hlb : decide ((ds.length : Int) ≤ (off : Int) + 1 + (bd : Int)) = false := decide_eq_false (by omega)
        go_wp2
        go_loopg [2, 24] (n + 2) (fun f s2 s24 wr => ∃ t : Nat, n + 1 - 2 * t < f ∧ 2 * t ≤ n + 1 ∧ s2 = .int .i64 ((off : Int) + 1 + (t : Int)) ∧ s24 = .int .i64 ((2 * t : Nat) : Int) ∧ Blk wr wb 220 (u8s (nibs (ds.drop off) (2 * t) ++ List.replicate (256 - 2 * t) 0)) ∧ Keep (· = wb) W wr)
        case atStart => exact ⟨0, by omega, by omega, by simp, rfl, by rw [← Hzw0.out]; exact hbW, Keep.refl _ _⟩
        case round =>
          obtain ⟨t, q1, q2, rfl, rfl, qb, qk⟩ := hrel
          by_cases ht : 2 * t < n
          · obtain ⟨g3, o3, x, _, hA3, hcx, hxk⟩ := ((Hs.out.kept hkW).keep qk (fun k _ hR => by rintro rfl; have := HRw.out _ hR; omega)).u8 (k := off + 1 + t) (by have := Hbd.out; omega)
            obtain ⟨rfl, rfl⟩ : g = g3 ∧ o = o3 := by simpa using hA3
            have hx256 : x < 256 := Hd.out x (List.mem_of_getElem? hxk.out)
            have hn1 : nibAt (ds.drop off) (2 * t) = x / 16 := by
              unfold nibAt
              rw [show 1 + 2 * t / 2 = 1 + t by omega, show 2 * t % 2 = 0 by omega, List.getD_eq_getElem?_getD, List.getElem?_drop, show off + (1 + t) = off + 1 + t by omega, hxk.out]
              simp only [Option.getD_some, Nat.zero_mul, Nat.sub_zero]
              omega
            have hn2 : nibAt (ds.drop off) (2 * t + 1) = x % 16 := by
              unfold nibAt
              rw [show 1 + (2 * t + 1) / 2 = 1 + t by omega, show (2 * t + 1) % 2 = 1 by omega, List.getD_eq_getElem?_getD, List.getElem?_drop, show off + (1 + t) = off + 1 + t by omega, hxk.out]
              simp
            have cw1 : ∃ u, wr.cell? ⟨wb, 2 * t, none⟩ = some u := by
              rw [qb.cell]
              exact ⟨_, List.getElem?_eq_getElem (by simp [nibs_length]; omega)⟩
            have cw2 : ∃ u, wr.cell? ⟨wb, 2 * t + 1, none⟩ = some u := by
              rw [qb.cell]
              exact ⟨_, List.getElem?_eq_getElem (by simp [nibs_length]; omega)⟩
            obtain ⟨u1, cw1⟩ := cw1
            obtain ⟨u2, cw2⟩ := cw2
            have fw1 := qb.frozen (2 * t)
            have fw2 := qb.frozen (2 * t + 1)
            have hsh : (x : Int) / 2 ^ 4 = ((x / 16 : Nat) : Int) := by omega
            have hand : bits .and .u8 (x : Int) 15 = ((x % 16 : Nat) : Int) := and_15b hx256
            have hset : Blk ((wr.setCell ⟨wb, 2 * t, none⟩ (.int .u8 ((x / 16 : Nat) : Int))).setCell ⟨wb, 2 * t + 1, none⟩ (.int .u8 ((x % 16 : Nat) : Int))) wb 220 (u8s (nibs (ds.drop off) (2 * (t + 1)) ++ List.replicate (256 - 2 * (t + 1)) 0)) := by
              refine Blk.cast ((qb.set (2 * t) _).set (2 * t + 1) _) ?_
              rw [u8s_set, u8s_set, ← hn1, ← hn2, show 2 * (t + 1) = 2 * t + 1 + 1 by omega, nibs_succ, nibs_succ]
              congr 1
              have e : 256 - 2 * t = (256 - (2 * t + 1 + 1)) + 1 + 1 := by omega
              rw [e, List.replicate_succ, List.replicate_succ]
              rw [List.set_append_right _ _ (by rw [nibs_length]; exact Nat.le_refl _), nibs_length, Nat.sub_self, List.set_cons_zero]
              rw [List.set_append_right _ _ (by rw [nibs_length]; omega), nibs_length, show 2 * t + 1 - 2 * t = 1 by omega]
              simp [List.append_assoc]
            have Hset2 := Lib.hid hset
            have hlt3 : (2 * (t : Int)) < 256 := by omega
            clear hset qb hn1 hn2 hA3
            go_wp2
            go_roundg (n + 1 - 2 * t)
            case measure => exact q1
            case rel => exact ⟨t + 1, by omega, by omega, by congr 1, by congr 1, Hset2.out, (qk.set (.inl rfl) _).set (.inl rfl) _⟩
          · go_wp2
            go_meet
            case rel =>
              have hl1 := nibs_length (ds.drop off) n
              have htb : t = bd := by have := Hbd.out; omega
              refine ⟨nibs (ds.drop off) n, by rw [Hbn.out, htb]; congr 1; omega, by rw [hl1], ⟨Hws.out, by rw [Hbn.out]; omega, by rw [hl1]; omega, ?_, qk.mono (fun k _ h => .inr (by omega)), ⟨_, Blk.cast (hrbW.keep qk (fun h => hwrb h.symm)) Hset.out⟩⟩⟩
              by_cases h2 : 2 * t = n
              · exact ⟨List.replicate (256 - n) 0, by rw [hl1, List.length_replicate]; omega, by rw [h2] at qb; exact qb⟩
              · have h3 : 2 * t = n + 1 := by omega
                refine ⟨nibAt (ds.drop off) n :: List.replicate (256 - (n + 1)) 0, by rw [hl1, List.length_cons, List.length_replicate]; omega, ?_⟩
                rw [h3, nibs_succ, List.append_assoc] at qb
                exact qb
  case rest =>
    as_aux_lemma =>
    obtain ⟨ws, rfl, rfl, hmid⟩ := hcut
    obtain ⟨hws, hfit, hw255, ⟨tl, htl, hbw⟩, hkx, v21, hrbx⟩ := hmid.out
    have htr := treeS_wts hhk.out hfit hws
    have hfine := (wtsIn_fine (fun x hx => Hd.out x (List.mem_of_mem_drop hx)) hws).1
    obtain ⟨q, hq⟩ : ∃ q, q = 1 + bodyOf h := ⟨_, rfl⟩
    rw [← hq] at htr hfit ⊢
    obtain ⟨n, hn⟩ : ∃ n, n = ws.length := ⟨_, rfl⟩
    rw [← hn] at hw255 htl ⊢
    have hrun := fun wr => run_wts wb n (by omega) wr
    obtain ⟨x6, hx6⟩ := hrd
    rw [hrb.cell] at hx6
    have hE : ∀ wr, Keep (fun k => k = rb ∨ k = tb ∨ wb ≤ k) w wr → Blk wr rb 157 (rc.set 44 v21) → Errs B wr ∧ RdOff wr rb := fun wr hk hb =>
      ⟨he.keep hk (by rintro k (rfl | rfl | h) <;> omega), ⟨x6, by rw [hb.cell, List.getElem?_set_ne (by decide)]; exact hx6⟩⟩
    have hfail : ∀ wr w1 vt vx, Keep (fun k => k = rb ∨ k = tb ∨ wb ≤ k) w wr → Blk wr rb 157 (rc.set 44 v21) → Kept wr w1 → (∀ al m q, treeS (ds.drop off) = some (al, m, q) → 1 ∈ al → ds.length ≤ off + q) →
        HuffPost w rb tb rc ds off (.returned (.tuple #[.int .i64 0, .int .i64 0, .iface vt vx])) w1 := fun wr w1 vt vx hk hb hk1 hno =>
      ⟨(hk.kept hk1).mono (by rintro k hlt (h | h | h); exact .inl h; exact .inr h; omega), ⟨v21, hb.kept hk1⟩, .inr ⟨_, ⟨vt, vx, rfl⟩, rfl, hno⟩⟩
    have hkwx : Keep (fun k => k = rb ∨ k = tb ∨ wb ≤ k) w wc := (hkW.any _).trans (hkx.mono fun k _ h => by rcases h with h | h; exact .inl h; exact .inr (.inr h))
    have htbx : Blk wc tb 179 zs := (htb.kept hkW).keep hkx (by rintro (h | h); exact hrt h.symm; have := htb.lt; omega)
    have htbl := htb.lt
    have hwc : wb < wc.heap.size := hbw.lt
    have HE := Lib.hid hE
    have Hfail := Lib.hid hfail
    have Htr := Lib.hid htr
    have Hfine := Lib.hid hfine
    have Hn := Lib.hid hn
    have Hq := Lib.hid hq
    clear hE hfail htr hfine hn hq hmid hws hkx hx6 hrbW f21W heW hrdW hbW h21W hchW he hrb htb
    go_wp2
    obtain ⟨mb, hmb⟩ : ∃ x, x = wc.heap.size := ⟨_, rfl⟩
    obtain ⟨W2, hW2⟩ : ∃ x, x = wc.alloc (.cells #[.int .u32 0, .int .u32 0, .int .u32 0, .int .u32 0, .int .u32 0, .int .u32 0, .int .u32 0, .int .u32 0, .int .u32 0, .int .u32 0, .int .u32 0, .int .u32 0, .int .u32 0] 222) := ⟨_, rfl⟩
    have hm0 : Blk W2 mb 222 (u32s (wmarks [])) := by rw [hW2, hmb, wmarks_nil]; exact Blk.new wc 222 _
    have hkw2 : Kept wc W2 := by rw [hW2]; exact (Keep.refl _ _).alloc _
    have hbw2 := hbw.kept hkw2
    have hrb2 := hrbx.kept hkw2
    have htb2 := htbx.kept hkw2
    have hk2 : Keep (fun k => k = rb ∨ k = tb ∨ wb ≤ k) w W2 := hkwx.kept hkw2
    rw [← hmb, ← hW2]
    have hwm : wb ≠ mb := by omega
    have hrm : rb ≠ mb := by omega
    have htm : tb ≠ mb := by omega
    have hwbm : wb ≤ mb := by omega
    have hrbwb : rb ≠ wb := by omega
    have htbwb : tb ≠ wb := by omega
    clear hW2 hmb hkw2 hbw hrbx htbx hkwx hwc
    go_loopg [27, 281] (n + 1) (fun f s27 s281 wr => ∃ k M : Nat, n - k < f ∧ k ≤ n ∧ s27 = .int .u32 M ∧ s281 = .int .i64 k ∧ M ≤ 2048 * k ∧ Hid (M = wsum (ws.take k)) ∧ Hid (∀ x ∈ ws.take k, x ≤ 12) ∧ Blk wr mb 222 (u32s (wmarks (ws.take k))) ∧ Keep (· = mb) W2 wr)
    case atStart => exact ⟨0, 0, by omega, by omega, rfl, rfl, by omega, rfl, (fun x hx => by cases hx), hm0, Keep.refl _ _⟩
    case round =>
      clear hm0
      obtain ⟨k, M, q1, q2, rfl, rfl, q3, q4, q5, qm, qk⟩ := hrel
      have hbwr := hbw2.keep qk hwm
      have hrbr := hrb2.keep qk hrm
      have htbr := htb2.keep qk htm
      have hkr : Keep (fun k => k = rb ∨ k = tb ∨ wb ≤ k) w wr := hk2.trans (qk.mono fun k _ h => .inr (.inr (by omega)))
      by_cases hlt : k < n
      · obtain ⟨x, hx⟩ : ∃ x, ws[k]? = some x := ⟨_, List.getElem?_eq_getElem (by rw [← Hn.out]; exact hlt)⟩
        have hx256 := Hfine.out x (List.mem_of_getElem? hx)
        have cx : wr.cell? ⟨wb, k, none⟩ = some (.int .u8 (x : Int)) := by
          rw [hbwr.cell]
          exact u8s_get (by rw [List.getElem?_append_left (by rw [← Hn.out]; exact hlt)]; exact hx)
        have Hx := Lib.hid hx
        have lw := hbwr.lt
        by_cases h12 : 12 < x
        · have hno : treeS (ds.drop off) = none := by
            rw [Htr.out]
            unfold treeP
            rw [if_pos (.inl ⟨x, List.mem_of_getElem? hx, by omega⟩)]; rfl
          obtain ⟨heR, hrdR⟩ := HE.out wr hkr hrbr
          have Hno := Lib.hid hno
          clear hno hx
          go_wp2_with (go_at_call 93; refine (makeError (B := B) rb _ _ _ heR hrdR).mono ?_; rintro e w1 ⟨v, ⟨vt, vx, rfl⟩, rfl, hk1⟩)
          go_ret3
          exact Hfail.out wr w1 vt vx hkr hrbr hk1 (fun al m q h => by rw [Hno.out] at h; cases h)
        · obtain ⟨ct, hct⟩ : ∃ ct, ct = (ws.take k).count x := ⟨_, rfl⟩
          have hctk : ct ≤ k := by rw [hct]; exact Nat.le_trans List.count_le_length (by rw [List.length_take]; omega)
          have cm : wr.cell? ⟨mb, x, none⟩ = some (.int .u32 (ct : Int)) := by rw [qm.cell, hct]; exact u32s_get (wmarks_at _ (by omega))
          have fm := qm.frozen x
          have hmset : Blk (wr.setCell ⟨mb, x, none⟩ (.int .u32 ((ct : Int) + 1))) mb 222 (u32s (wmarks (ws.take (k + 1)))) := by
            rw [← wmarks_push hx (by omega), ← u32s_set, ← hct]
            exact qm.set x _
          have hpush := wsum_push hx
          rw [← q4.out] at hpush
          have hall : ∀ y ∈ ws.take (k + 1), y ≤ 12 := by
            intro y hy
            rw [take_push hx] at hy
            rcases List.mem_append.1 hy with hy | hy
            · exact q5.out y hy
            · simp only [List.mem_singleton] at hy; omega
          have Hpush := Lib.hid hpush
          have Hall := Lib.hid hall
          have Hmset := Lib.hid hmset
          clear hpush hall hmset hx hct
          rcases Nat.eq_zero_or_pos x with h0 | h0
          · subst h0
            go_wp2
            go_roundg (n - k)
            case measure => exact q1
            case rel => exact ⟨k + 1, M, by omega, by omega, rfl, rfl, by omega, (by show _ = _; rw [Hpush.out, wc_zero]; rfl), Hall.out, Hmset.out, qk.set (.inl rfl) _⟩
          · obtain ⟨v, rfl⟩ : ∃ v, x = v + 1 := ⟨x - 1, by omega⟩
            obtain ⟨p, hp⟩ : ∃ p, p = 2 ^ v := ⟨_, rfl⟩
            have hpi : (2 : Int) ^ v = (p : Int) := by rw [two_pow_int, hp]
            have hp10 : p ≤ 2048 := by rw [hp]; exact Nat.pow_le_pow_right (by decide) (show v ≤ 11 by omega)
            have Hp := Lib.hid hp
            clear hp
            go_wp2
            go_roundg (n - k)
            case measure => exact q1
            case rel => exact ⟨k + 1, M + p, by omega, by omega, rfl, rfl, by omega, (by show _ = _; rw [Hpush.out, wc_succ, ← Hp.out]), Hall.out, Hmset.out, qk.set (.inl rfl) _⟩
      · obtain rfl : k = n := by omega
        have hfull : ws.take k = ws := List.take_of_length_le (by rw [← Hn.out]; exact Nat.le_refl _)
        rw [hfull] at q4 q5 qm
        obtain ⟨heR, hrdR⟩ := HE.out wr hkr hrbr
        by_cases hM0 : M = 0
        · have hno : treeS (ds.drop off) = none := by
            rw [Htr.out]
            unfold treeP
            rw [if_pos (.inr (.inl (by rw [← q4.out]; exact hM0)))]; rfl
          have Hno := Lib.hid hno
          subst hM0
          clear hno
          go_wp2_with (go_at_call 93; refine (makeError (B := B) rb _ _ _ heR hrdR).mono ?_; rintro e w1 ⟨v, ⟨vt, vx, rfl⟩, rfl, hk1⟩)
          go_ret3
          exact Hfail.out wr w1 vt vx hkr hrbr hk1 (fun al m q h => by rw [Hno.out] at h; cases h)
        have hMb : ((M : Int) == 0) = false := beq_eq_false_iff_ne.2 (by omega)
        obtain ⟨m, hm⟩ : ∃ m, m = mostW ws := ⟨_, rfl⟩
        have hws0 : wsum ws ≠ 0 := by rw [← q4.out]; exact hM0
        have hbl : Lib.bitLen M = m := by rw [bitLen_log2 hM0 (by omega), hm, mostW, ← q4.out]
        have hlow := mostW_low hws0
        have hrp := restW_pos hws0
        rw [← hm, ← q4.out] at hlow
        have hm1 : 1 ≤ m := by rw [hm]; unfold mostW; omega
        have hm20 : m ≤ 20 := by rw [hm]; exact mostW_le q5.out (by rw [← Hn.out]; omega)
        have hm32 : (32 : Int) - (32 - (m : Int)) = (m : Int) := by omega
        have Hbl := Lib.hid hbl
        have Hm := Lib.hid hm
        by_cases hm11 : 11 < m
        · have hno : treeS (ds.drop off) = none := by
            rw [Htr.out]
            unfold treeP
            rw [if_pos (.inr (.inr (.inl (by rw [← hm]; exact hm11))))]; rfl
          have Hno := Lib.hid hno
          clear hno hm hbl hlow hws0 hrp
          go_wp2_with (first
            | (go_at_call 103; refine (Tryd.bits_LeadingZeros32 (M : Int) _ (by omega) (by omega)).mono ?_; rintro e w1 ⟨rfl, rfl⟩; rw [Int.toNat_natCast, Hbl.out])
            | (go_at_call 93; refine (makeError (B := B) rb _ _ _ heR hrdR).mono ?_; rintro e w1 ⟨v, ⟨vt, vx, rfl⟩, rfl, hk1⟩))
          go_ret3
          exact Hfail.out _ w1 vt vx hkr hrbr hk1 (fun al m q h => by rw [Hno.out] at h; cases h)
        obtain ⟨P, hP⟩ : ∃ P, P = 2 ^ m := ⟨_, rfl⟩
        have hPi : (2 : Int) ^ m = (P : Int) := by rw [two_pow_int, hP]
        have hP11 : P ≤ 2048 := by rw [hP]; exact Nat.pow_le_pow_right (by decide) (show m ≤ 11 by omega)
        obtain ⟨rs, hrs⟩ : ∃ x, x = restW ws := ⟨_, rfl⟩
        rw [← hrs] at hrp
        have hrsP : M + rs = P := by rw [hrs, restW, ← hm, ← hP, ← q4.out]; have := hlow.2; omega
        have hrsi : (P : Int) - (M : Int) = (rs : Int) := by omega
        have hrs0 : rs ≠ 0 := by omega
        have hrsb : ((rs : Int) == 0) = false := beq_eq_false_iff_ne.2 (by omega)
        obtain ⟨u, hu⟩ : ∃ u, u = Nat.log2 rs := ⟨_, rfl⟩
        have hbl2 : Lib.bitLen rs = u + 1 := by rw [bitLen_log2 hrs0 (by omega), hu]
        have hu32 : (31 : Int) - (32 - ((u : Int) + 1)) = (u : Int) := by omega
        have hul : 2 ^ u ≤ rs := by rw [hu]; exact Nat.log2_self_le hrs0
        obtain ⟨T, hT⟩ : ∃ T, T = 2 ^ u := ⟨_, rfl⟩
        have hTi : (2 : Int) ^ u = (T : Int) := by rw [two_pow_int, hT]
        rw [← hT] at hul
        have hum : u < m := by
          have h1 : 2 ^ u < 2 ^ m := by rw [← hT, ← hP]; omega
          exact (Nat.pow_lt_pow_iff_right (a := 2) (by decide)).1 h1
        have Hbl2 := Lib.hid hbl2
        have HP := Lib.hid hP
        have Hrs := Lib.hid hrs
        have Hu := Lib.hid hu
        have HT := Lib.hid hT
        clear hm hbl hlow hws0 hP hrs hu hT hbl2
        by_cases hTr : T = rs
        · as_aux_lemma =>
          subst hTr
          have hx12 : ∀ x ∈ ws, x ≤ 11 := by
            intro x hx
            have h1 := q5.out x hx
            have h2 := wsum_mem hx
            rw [← q4.out] at h2
            have h3 : x ≠ 12 := by
              rintro rfl
              have := wc_12
              omega
            omega
          have htp : treeP ws = some (ws ++ [u + 1], m) := by
            unfold treeP
            rw [← Hrs.out, ← Hm.out, if_neg, ← Hu.out]
            rintro (⟨x, hx, h⟩ | h | h | h)
            · have := hx12 x hx; omega
            · exact hM0 (by rw [q4.out]; exact h)
            · exact hm11 h
            · exact h (by rw [← Hu.out, ← HT.out])
          have hts := treeP_some htp
          obtain ⟨al, hal⟩ : ∃ al, al = ws ++ [u + 1] := ⟨_, rfl⟩
          rw [← hal] at htp hts
          have htr2 : treeS (ds.drop off) = some (al, m, q) := by rw [Htr.out, htp]; rfl
          have hle : ∀ w ∈ al, w ≤ m := hts.2.2.2.2.2.2.2
          have hsum : wsum al = 2 ^ m := hts.2.2.2.2.2.2.1
          obtain ⟨N1, hN1⟩ : ∃ x, x = k + 1 := ⟨_, rfl⟩
          have hall : al.length = N1 := by rw [hal, List.length_append, ← Hn.out, hN1]; rfl
          obtain ⟨ct, hct⟩ : ∃ ct, ct = ws.count (u + 1) := ⟨_, rfl⟩
          have hctk : ct ≤ k := by rw [hct, Hn.out]; exact List.count_le_length
          have cm : wr.cell? ⟨mb, u + 1, none⟩ = some (.int .u32 (ct : Int)) := by rw [qm.cell, hct]; exact u32s_get (wmarks_at _ (by omega))
          have fm := qm.frozen (u + 1)
          obtain ⟨y, tl2, htl2⟩ : ∃ y tl2, tl = y :: tl2 := by
            cases tl with
            | nil => simp at htl; omega
            | cons y t => exact ⟨y, t, rfl⟩
          have cw : wr.cell? ⟨wb, k, none⟩ = some (.int .u8 (y : Int)) := by
            rw [hbwr.cell]
            exact u8s_get (by rw [List.getElem?_append_right (by rw [← Hn.out]; exact Nat.le_refl _), htl2, ← Hn.out, Nat.sub_self]; rfl)
          have fw := hbwr.frozen k
          have hmw : mb ≠ wb := Ne.symm hwm
          have hk256 : (k : Int) < 256 := by omega
          have hu13 : (u : Int) + 1 < 13 := by omega
          obtain ⟨W4, hW4⟩ : ∃ x, x = (wr.setCell ⟨wb, k, none⟩ (.int .u8 ((u : Int) + 1))).setCell ⟨mb, u + 1, none⟩ (.int .u32 ((ct : Int) + 1)) := ⟨_, rfl⟩
          have hb4 : Blk W4 wb 220 (u8s (al ++ tl2)) := by
            rw [hW4]
            refine Blk.cast ((hbwr.set k _).far hwm _) ?_
            have := u8s_set (ws ++ tl) k (u + 1)
            rw [htl2, List.set_append_right _ _ (by rw [← Hn.out]; exact Nat.le_refl _), ← Hn.out, Nat.sub_self, List.set_cons_zero] at this
            rw [htl2, hal, List.append_assoc]
            exact this
          have hm4 : Blk W4 mb 222 (u32s (wmarks al)) := by
            rw [hW4, hal, ← wmarks_snoc _ (by omega), ← u32s_set, ← hct]
            exact (qm.far hmw _).set (u + 1) _
          have hr4 : Blk W4 rb 157 (rc.set 44 v21) := by rw [hW4]; exact (hrbr.far hrbwb _).far hrm _
          have ht4 : Blk W4 tb 179 zs := by rw [hW4]; exact (htbr.far htbwb _).far htm _
          have hk4 : Keep (fun k => k = rb ∨ k = tb ∨ wb ≤ k) w W4 := by
            rw [hW4]
            exact (hkr.set (p := ⟨wb, k, none⟩) (.inl (.inr (.inr (Nat.le_refl _)))) _).set (p := ⟨mb, u + 1, none⟩) (.inl (.inr (.inr hwbm))) _
          have HW4 := Lib.hid hW4
          have Htr2 := Lib.hid htr2
          have Hle := Lib.hid hle
          have Hsum := Lib.hid hsum
          have Hall := Lib.hid hall
          have HN1 := Lib.hid hN1
          have hN256 : N1 ≤ 256 := by omega
          clear hx12 htp hts hal htr2 hle hsum hall hct htl2 hW4 hN1
          go_upto_region 95 with (first
            | (go_at_call 103; (with_reducible refine (Tryd.bits_LeadingZeros32 (M : Int) _ (by omega) (by omega)).mono ?_); rintro e w1 ⟨rfl, rfl⟩; rw [Int.toNat_natCast, Hbl.out])
            | (go_at_call 103; (with_reducible refine (Tryd.bits_LeadingZeros32 (T : Int) _ (by omega) (by omega)).mono ?_); rintro e w1 ⟨rfl, rfl⟩; rw [Int.toNat_natCast, Hbl2.out]))
          rw [← HW4.out]
          clear cm fm cw fw qm qk hbwr hrbr htbr hkr hctk
          obtain ⟨heR, hrdR⟩ := HE.out W4 hk4 hr4
          obtain ⟨c1, hc1⟩ : ∃ x, x = al.count 1 := ⟨_, rfl⟩
          have d1 : W4.cell? ⟨mb, 1, none⟩ = some (.int .u32 (c1 : Int)) := by rw [hm4.cell, hc1]; exact u32s_get (wmarks_at _ (by omega))
          have hkN : (k : Int) + 1 = (N1 : Int) := by have := HN1.out; omega
          by_cases h1 : 1 ∈ al
          · have hev := one_even Hsum.out hm1
            have hpos : 0 < al.count 1 := List.count_pos_iff.2 h1
            rw [← hc1] at hev hpos
            have hc1k : c1 ≤ N1 := by rw [hc1, ← Hall.out]; exact List.count_le_length
            have hlt2 : decide ((c1 : Int) < 2) = false := decide_eq_false (by omega)
            have hand : bits .and .u32 (c1 : Int) 1 = 0 := by
              rw [show (1 : Int) = ((1 : Nat) : Int) from rfl, u32_and_nat _ _ (by omega) (by decide), nat_mask1, hev]; rfl
            have hsz : (rowsTo al m m).length = P := by rw [rows_length Hle.out, Hsum.out, HP.out]
            have hbnd : ∀ i, i ≤ m → (rowsTo al m i).length ≤ P := by
              intro i hi
              obtain ⟨r, hr, _⟩ := rowsTo_prefix (al := al) (most := m) hi
              rw [← hsz, hr, List.length_append]
              omega
            have hst0 : Blk W4 mb 222 (u32s (starts al m 0)) := by rw [starts_zero]; exact hm4
            have Hsz := Lib.hid hsz
            have Hbnd := Lib.hid hbnd
            clear hc1 hev hpos hsz hbnd hm4
            go_wp2
            go_loopg [32, 33] (m + 1) (fun f s32 s33 wr => ∃ i X : Nat, m - i < f ∧ i ≤ m ∧ s33 = .int .i64 i ∧ s32 = .int .u32 X ∧ X ≤ 2048 ∧ Hid (X = (rowsTo al m i).length) ∧ Blk wr mb 222 (u32s (starts al m i)) ∧ Keep (· = mb) W4 wr)
            case atStart => exact ⟨0, 0, by omega, by omega, rfl, rfl, by omega, rfl, hst0, Keep.refl _ _⟩
            case round =>
              clear hst0 d1
              obtain ⟨i, X, q1, q2, rfl, rfl, q3, q4, qm, qk⟩ := hrel
              by_cases him : i < m
              · obtain ⟨ci, hci⟩ : ∃ x, x = al.count (i + 1) := ⟨_, rfl⟩
                have d2 : wr.cell? ⟨mb, i + 1, none⟩ = some (.int .u32 (ci : Int)) := by rw [qm.cell, hci]; exact u32s_get (starts_at al m (by omega))
                have f2 := qm.frozen (i + 1)
                obtain ⟨p, hp⟩ : ∃ p, p = 2 ^ i := ⟨_, rfl⟩
                have hpi : (2 : Int) ^ i = (p : Int) := by rw [two_pow_int, hp]
                obtain ⟨Y, hY⟩ : ∃ Y, Y = ci * p := ⟨_, rfl⟩
                have hYi : (ci : Int) * (p : Int) = (Y : Int) := by rw [hY]; rfl
                have hX' : X + Y = (rowsTo al m (i + 1)).length := by rw [rows_next, ← q4.out, hY, hci, hp]
                have hXb : X + Y ≤ 2048 := by rw [hX']; exact Nat.le_trans (Hbnd.out (i + 1) (by omega)) hP11
                have hmset : Blk (wr.setCell ⟨mb, i + 1, none⟩ (.int .u32 (X : Int))) mb 222 (u32s (starts al m (i + 1))) := by
                  rw [← starts_step al m (by omega), ← u32s_set, ← q4.out]
                  exact qm.set (i + 1) _
                have Hmset := Lib.hid hmset
                have HX' := Lib.hid hX'
                have hi13 : (i : Int) + 1 < 13 := by omega
                clear hmset hX' hY hci hp
                go_wp2
                go_roundg (m - i)
                case measure => exact q1
                case rel => exact ⟨i + 1, X + Y, by omega, by omega, rfl, rfl, hXb, HX'.out, Hmset.out, qk.set (.inl rfl) _⟩
              · obtain rfl : i = m := by omega
                have hpl0 : Blk wr mb 222 (u32s (places al i 0)) := by rw [places_zero]; exact qm
                obtain ⟨Z, hZ⟩ : ∃ Z, Z = 2048 - P := ⟨_, rfl⟩
                have hfl0 : Blk wr tb 179 (u16s (filled al i 0 ++ List.replicate Z 0)) := by
                  have := ht4.keep qk htm
                  rw [Hzs.out] at this
                  rw [filled_zero, Hsz.out, List.replicate_append_replicate, hZ, show P + (2048 - P) = 2048 by omega]
                  exact this
                have hb5 := hb4.keep qk hwm
                have hr5 := hr4.keep qk hrm
                have hk5 : Keep (fun k => k = rb ∨ k = tb ∨ wb ≤ k) w wr := hk4.trans (qk.mono fun k _ h => .inr (.inr (by omega)))
                have hrun2 := fun wr => run_wts wb N1 hN256 wr
                have HZ := Lib.hid hZ
                clear hZ qm qk hrun
                obtain ⟨W5, rfl⟩ : ∃ x, x = wr := ⟨_, rfl⟩
                go_wp2
                go_loopg [394] (N1 + 1) (fun f s394 wr => ∃ j : Nat, N1 - j < f ∧ j ≤ N1 ∧ s394 = .int .i64 j ∧ Blk wr mb 222 (u32s (places al i j)) ∧ Blk wr tb 179 (u16s (filled al i j ++ List.replicate Z 0)) ∧ Keep (fun a => a = mb ∨ a = tb) W5 wr)
                case atStart => exact ⟨0, by omega, by omega, rfl, hpl0, hfl0, Keep.refl _ _⟩
                case round =>
                  clear hpl0 hfl0
                  obtain ⟨j, t1, t2, rfl, tm, tt, tk⟩ := hrel
                  have tb5 := hb5.keep tk (by rintro (h | h); exact hwm h; exact htbwb h.symm)
                  by_cases hj : j < N1
                  · obtain ⟨x, hx⟩ : ∃ x, al[j]? = some x := ⟨_, List.getElem?_eq_getElem (by rw [Hall.out]; exact hj)⟩
                    have hxm := Hle.out x (List.mem_of_getElem? hx)
                    have cx : wr.cell? ⟨wb, j, none⟩ = some (.int .u8 (x : Int)) := by
                      rw [tb5.cell]
                      exact u8s_get (by rw [List.getElem?_append_left (by rw [Hall.out]; exact hj)]; exact hx)
                    rcases Nat.eq_zero_or_pos x with h0 | h0
                    · subst h0
                      have tm2 : Blk wr mb 222 (u32s (places al i (j + 1))) := by rw [places_skip hx]; exact tm
                      have tt2 : Blk wr tb 179 (u16s (filled al i (j + 1) ++ List.replicate Z 0)) := by rw [filled_skip hx]; exact tt
                      have Tm2 := Lib.hid tm2
                      have Tt2 := Lib.hid tt2
                      clear tm2 tt2 hx tm tt
                      go_wp2
                      go_roundg (N1 - j)
                      case measure => exact t1
                      case rel => exact ⟨j + 1, by omega, by omega, rfl, Tm2.out, Tt2.out, tk⟩
                    · obtain ⟨v, rfl⟩ : ∃ v, x = v + 1 := ⟨x - 1, by omega⟩
                      obtain ⟨a, b, hf1, hf2, hfl⟩ := filled_cut hx hxm
                      obtain ⟨S, hS⟩ : ∃ S, S = (rowsTo al i v).length + (idxs (v + 1) 0 (al.take j)).length * 2 ^ v := ⟨_, rfl⟩
                      obtain ⟨p, hp⟩ : ∃ p, p = 2 ^ v := ⟨_, rfl⟩
                      have hpi : (2 : Int) ^ v = (p : Int) := by rw [two_pow_int, hp]
                      have cm : wr.cell? ⟨mb, v + 1, none⟩ = some (.int .u32 (S : Int)) := by rw [tm.cell, hS]; exact u32s_get (places_get al j hxm (by omega))
                      have Hcm := Lib.hid cm
                      have fm := tm.frozen (v + 1)
                      have hpn := places_next hx hxm (show i < 13 by omega)
                      rw [← hS, ← hp] at hpn
                      rw [← hS] at hfl
                      rw [← hp] at hf1 hf2
                      have hlen : S + p ≤ P := by
                        have h2 := filled_length Hle.out Hsum.out j
                        rw [hf1, List.length_append, List.length_append, List.length_replicate, hfl, ← HP.out] at h2
                        omega
                      obtain ⟨tv, htv⟩ : ∃ tv, tv = j * 256 + (i - v) := ⟨_, rfl⟩
                      rw [← htv] at hf2
                      have hj256 : (j : Int) < 256 := by omega
                      have hivi : (i : Int) + 1 - ((v : Int) + 1) = ((i - v : Nat) : Int) := by omega
                      have hivl : i - v ≤ 11 := by omega
                      have hor : bits .or .u16 ((j : Int) * 256) ((i - v : Nat) : Int) = (tv : Int) := by rw [u16_or_add (by omega) (by omega), htv]
                      have tt0 : Blk wr tb 179 (u16s (a ++ (List.replicate 0 tv ++ (List.replicate (p - 0) 0 ++ (b ++ List.replicate Z 0))))) := by
                        rw [hf1] at tt
                        simpa [List.append_assoc] using tt
                      have Hf2 := Lib.hid hf2
                      have Hfl := Lib.hid hfl
                      have Hpn := Lib.hid hpn
                      clear hp hf1 hf2 hfl hpn htv hS hx tt
                      go_wp2
                      obtain ⟨W6, rfl⟩ : ∃ x, x = wr := ⟨_, rfl⟩
                      go_loopg [40] (p + 1) (fun f s40 wr => ∃ y : Nat, p - y < f ∧ y ≤ p ∧ s40 = .int .u32 y ∧ Blk wr tb 179 (u16s (a ++ (List.replicate y tv ++ (List.replicate (p - y) 0 ++ (b ++ List.replicate Z 0))))) ∧ Keep (· = tb) W6 wr)
                      case atStart => exact ⟨0, by omega, by omega, rfl, tt0, Keep.refl _ _⟩
                      case round =>
                        clear tt0 cm fm
                        obtain ⟨y, z1, z2, rfl, zt, zk⟩ := hrel
                        by_cases hy : y < p
                        · have cz : wr.cell? ⟨tb, S + y, none⟩ = some (.int .u16 0) := by
                            rw [zt.cell, ← Hfl.out]
                            exact u16s_at (fill_get a _ hy)
                          have fz := zt.frozen (S + y)
                          have lz := zt.lt
                          have hzset : Blk (wr.setCell ⟨tb, S + y, none⟩ (.int .u16 (tv : Int))) tb 179 (u16s (a ++ (List.replicate (y + 1) tv ++ (List.replicate (p - (y + 1)) 0 ++ (b ++ List.replicate Z 0))))) := by
                            rw [← fill_step a _ hy, ← u16s_set, Hfl.out]
                            exact zt.set (S + y) _
                          have hSy : (S : Int) + (y : Int) < 2048 := by omega
                          have Hzset := Lib.hid hzset
                          clear hzset zt
                          go_wp2
                          go_roundg (p - y)
                          case measure => exact z1
                          case rel => exact ⟨y + 1, by omega, by omega, rfl, Hzset.out, zk.set (.inl rfl) _⟩
                        · obtain rfl : y = p := by omega
                          have zm := tm.keep zk (Ne.symm htm)
                          have cm : wr.cell? ⟨mb, v + 1, none⟩ = some (.int .u32 (S : Int)) := by
                            have := tm.cell (v + 1)
                            rw [zm.cell, ← this]
                            exact Hcm.out
                          have fm := zm.frozen (v + 1)
                          have zmset : Blk (wr.setCell ⟨mb, v + 1, none⟩ (.int .u32 ((S : Int) + (y : Int)))) mb 222 (u32s (places al i (j + 1))) := by
                            rw [← Hpn.out, ← u32s_set]
                            exact zm.set (v + 1) _
                          have ztf : Blk (wr.setCell ⟨mb, v + 1, none⟩ (.int .u32 ((S : Int) + (y : Int)))) tb 179 (u16s (filled al i (j + 1) ++ List.replicate Z 0)) := by
                            rw [Hf2.out]
                            have := zt.far (p := ⟨mb, v + 1, none⟩) htm (.int .u32 ((S : Int) + (y : Int)))
                            simpa [List.append_assoc] using this
                          have Zmset := Lib.hid zmset
                          have Ztf := Lib.hid ztf
                          clear zmset ztf zt zm
                          go_wp2
                          go_roundg (N1 - j)
                          case measure => exact t1
                          case rel => exact ⟨j + 1, by omega, by omega, rfl, Zmset.out, Ztf.out, (tk.trans (zk.mono fun a _ h => .inr h)).set (.inl (.inl rfl)) _⟩
                  · obtain rfl : j = N1 := by omega
                    have hfin : Blk wr tb 179 (u16s ((rowsTo al i i).map enc ++ List.replicate (2048 - 2 ^ i) 0)) := by
                      rw [← filled_all, ← HP.out, ← HZ.out, Hall.out]; exact tt
                    have hkf : Keep (fun k => k = rb ∨ k = tb ∨ wb ≤ k) w wr := hk5.trans (tk.mono fun k _ h => by rcases h with rfl | rfl; exact .inr (.inr hwbm); exact .inr (.inl rfl))
                    have hrf := hr5.keep tk (by rintro (h | h); exact hrm h; exact hrt h)
                    have Hfin := Lib.hid hfin
                    clear hfin tt tm
                    go_wp2
                    go_ret3
                    exact ⟨hkf.mono (by rintro k hlt (h | h | h); exact .inl h; exact .inr h; omega), ⟨v21, hrf⟩, .inl ⟨al, i, q, Htr2.out, h1, rfl, Hfin.out⟩⟩
          · have hc10 : c1 = 0 := by rw [hc1]; exact List.count_eq_zero.2 h1
            have hlt2 : decide ((c1 : Int) < 2) = true := decide_eq_true (by omega)
            clear hc1
            subst hc10
            go_wp2_with (go_at_call 93; refine (makeError (B := B) rb _ _ _ heR hrdR).mono ?_; rintro e w1 ⟨v, ⟨vt, vx, rfl⟩, rfl, hk1⟩)
            go_ret3
            exact Hfail.out _ w1 vt vx hk4 hr4 hk1 (fun al' m' q' h h' => by rw [Htr2.out] at h; simp only [Option.some.injEq, Prod.mk.injEq] at h; obtain ⟨rfl, _, _⟩ := h; exact absurd h' h1)
        · have hno : treeS (ds.drop off) = none := by
            rw [Htr.out]
            unfold treeP
            rw [if_pos (.inr (.inr (.inr (by rw [← Hrs.out, ← Hu.out, ← HT.out]; exact hTr))))]; rfl
          have hTb : ((T : Int) != (rs : Int)) = true := by rw [bne_iff_ne]; omega
          have hTb2 : (T != rs) = true := by rw [bne_iff_ne]; exact hTr
          have Hno := Lib.hid hno
          clear hno
          go_wp2_with (first
            | (go_at_call 103; (with_reducible refine (Tryd.bits_LeadingZeros32 (M : Int) _ (by omega) (by omega)).mono ?_); rintro e w1 ⟨rfl, rfl⟩; rw [Int.toNat_natCast, Hbl.out])
            | (go_at_call 103; (with_reducible refine (Tryd.bits_LeadingZeros32 (rs : Int) _ (by omega) (by omega)).mono ?_); rintro e w1 ⟨rfl, rfl⟩; rw [Int.toNat_natCast, Hbl2.out])
            | (go_at_call 93; refine (makeError (B := B) rb _ _ _ heR hrdR).mono ?_; rintro e w1 ⟨v, ⟨vt, vx, rfl⟩, rfl, hk1⟩))
          go_ret3
          exact Hfail.out _ w1 vt vx hkr hrbr hk1 (fun al m q h => by rw [Hno.out] at h; cases h)
end Go.Proofs.YtabaholflahepaaDoor
