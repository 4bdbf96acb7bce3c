/-
  Contracts of the package's readers of literals: le16. And more of its kind (LitI, LitJ, LitK).
-/
import Derived.Test.YtabaholflahepaaDoorLitP
import Derived.Test.YtabaholflahepaaDoorHuffA
import Derived.Test.YtabaholflahepaaDoorLitA
import Derived.Test.YtabaholflahepaaDoorHuffZ
namespace Go.Proofs.YtabaholflahepaaDoor
open Go.RowKit

section
/-- Two bytes, the lower one first. -/
theorem le16_any {R : Nat → Prop} (A : Option Addr) (n c x y : Nat) (ds : List Nat) (hn : n = ds.length) (w : World) (hs : Sl w R A (u8s ds)) (hx : ds[0]? = some x) (hy : ds[1]? = some y) (hx2 : x < 256) (hy2 : y < 256) :
    Calls Tryd.prog 117 #[.slice A n c] w fun e w' => e = .returned (.int .u16 ((x + 256 * y : Nat) : Int)) ∧ Kept w w' := by
  have hl := (List.getElem?_eq_some_iff.1 hy).1
  obtain ⟨g, o, x', _, hA, hcx, hxk⟩ := hs.u8 (k := 0) (by omega)
  obtain ⟨g2, o2, y', _, hA2, hcy, hyk⟩ := hs.u8 (k := 1) hl
  obtain rfl : x = x' := Option.some.inj (hx.symm.trans hxk.out)
  obtain rfl : y = y' := Option.some.inj (hy.symm.trans hyk.out)
  obtain ⟨rfl, rfl⟩ : g = g2 ∧ o = o2 := by rw [hA] at hA2; simpa using hA2
  rw [Nat.add_zero] at hcx
  have hn1 : 1 < n := by omega
  have hor : bits .or .u16 (x : Int) ((y : Int) * 256) = ((x + 256 * y : Nat) : Int) := by
    have e : bits .or .u16 (x : Int) ((y * 256 : Nat) : Int) = ((x ||| y * 256 : Nat) : Int) := u16_or_nat _ _ (by omega) (by omega)
    have e2 : x ||| y * 256 = x + 256 * y := by
      have := or_shift (a := x) (c := y) (n := 8) (by omega)
      rw [show (256 : Nat) = 2 ^ 8 by decide, this]; omega
    rw [e2] at e
    exact e
  subst hA
  clear hs hx hy hxk hyk hA2 hn hl
  go_enter Tryd.func117, Tryd.ntmps117
  go_wp2
  go_quiet (fail)
  go_wp2
  go_ret
  exact ⟨rfl, (Keep.refl _ _).drewN _⟩
end

section
/-- A Reader with a tree's table: rows of at most m bits. -/
structure TabAt (w : World) (rb tb : Nat) (rc : List Value) (m : Nat) (rs : List (Nat × Nat)) : Prop where
  rd : Blk w rb 157 rc
  off : ∃ x : Int, rc[6]? = some (.int .i64 x)
  slice : rc[12]? = some (.slice (some ⟨tb, 0, none⟩) 2048 2048)
  log : rc[13]? = some (.int .i64 (m : Int))
  tab : ∃ tl, Blk w tb 179 (u16s (rs.map enc ++ tl))
  one : 1 ≤ m
  top : m ≤ 11
  len : rs.length = 2 ^ m
  row : ∀ x ∈ rs, x.1 < 256 ∧ x.2 ≤ m
theorem TabAt.keep {w w' : World} {rb tb : Nat} {rc : List Value} {m : Nat} {rs : List (Nat × Nat)} {S : Nat → Prop} (h : TabAt w rb tb rc m rs) (hk : Keep S w w') (h1 : ¬ S rb) (h2 : ¬ S tb) : TabAt w' rb tb rc m rs := by
  obtain ⟨a1, a2, a3, a4, ⟨tl, a5⟩, a6, a7, a8, a9⟩ := h
  exact ⟨a1.keep hk h1, a2, a3, a4, ⟨tl, a5.keep hk h2⟩, a6, a7, a8, a9⟩
theorem TabAt.rdOff {w : World} {rb tb : Nat} {rc : List Value} {m : Nat} {rs : List (Nat × Nat)} (h : TabAt w rb tb rc m rs) : RdOff w rb := by
  obtain ⟨x, hx⟩ := h.off
  exact ⟨x, by rw [h.rd.cell]; exact hx⟩
/-- A row of the table. -/
theorem TabAt.cell {w : World} {rb tb : Nat} {rc : List Value} {m k s n : Nat} {rs : List (Nat × Nat)} (h : TabAt w rb tb rc m rs) (hk : rs[k]? = some (s, n)) : w.cell? ⟨tb, k, none⟩ = some (.int .u16 ((s * 256 + n : Nat) : Int)) := by
  obtain ⟨tl, ht⟩ := h.tab
  have hl := (List.getElem?_eq_some_iff.1 hk).1
  rw [ht.cell]
  exact u16s_at (by rw [List.getElem?_append_left (by rw [List.length_map]; exact hl), List.getElem?_map, hk]; rfl)

/-- The mask of m bits. -/
theorem mask_of {m M : Nat} (hm : m ≤ 11) (hM : M = 2 ^ m - 1) : ((2 : Int) ^ m % 4294967296 - 1) % 4294967296 = (M : Int) ∧ ((2 : Int) ^ m - 1) % 4294967296 = (M : Int) := by
  have h3 := pow_le_31 (n := m) (by omega)
  have h4 := pow_pos' m
  have h5 : ((2 : Int) ^ m) = ((2 ^ m : Nat) : Int) := (cast_pow m).symm
  rw [h5]
  omega
/-- The bits of a reader as an index. -/
theorem idx_of {ds : List Nat} {start p o bits q m M : Nat} (h : RevAt ds start p o bits (q + m)) (h0 : 8 * start + m ≤ p) (hm : m ≤ 11) (hM : M = 2 ^ m - 1) :
    Go.bits .and .u32 ((bits : Int) / 2 ^ q) (M : Int) = ((num ds / 2 ^ (p - m) % 2 ^ m : Nat) : Int) := by
  rw [← (mask_of hm hM).2, cast_div_pow, u32_mask (Nat.lt_of_le_of_lt (Nat.div_le_self _ _) h.word) (by omega), (rev_val h h0).1]

/-- What readLiteralsOneStream hands back where the stream is right. -/
def OnePost (w : World) (t : List Nat) (n : Nat) (e : Ending) (w' : World) : Prop :=
  Kept w w' ∧ ∃ A' c', e = .returned (.tuple #[.slice A' n c', .nilIface]) ∧ w'.ownsRow w.heap.size 5 1 (.slice A' n c') n (u8s t)
/-- What hands back an error. -/
def NoPost (w : World) (e : Ending) (w' : World) : Prop := Kept w w' ∧ ∃ t x, e = .returned (.tuple #[.slice none 0 0, .iface t x])

set_option maxHeartbeats 4000000 in
set_option maxRecDepth 4000 in
theorem oneStream_right {R : Nat → Prop} (rb tb : Nat) (A : Option Addr) (c : Nat) (ds : List Nat) (rc : List Value) (o s n m : Nat) (rs : List (Nat × Nat)) (t : List Nat) (w : World) (hs : Sl w R A (u8s ds)) (hRw : ∀ k, R k → k < w.heap.size)
    (ht : TabAt w rb tb rc m rs) (hd : Bytes ds) (hlen : ds.length < 2 ^ 24) (ho : 2 ≤ o) (hos : o + s ≤ ds.length) (hn : n ≤ 131072) (h : OneR ds m rs o s n t) :
    Calls Tryd.prog 115 #[.pointer (some ⟨rb, 0, none⟩), .slice A ds.length c, .int .i64 o, .int .i64 s, .int .i64 n, .slice none 0 0] w (OnePost w t n) := by
  obtain ⟨hs1, x, k, hx, hlo, hhi, hk7, hdec⟩ := h
  obtain ⟨oh, hoh⟩ : ∃ oh, oh = o + s - 1 := ⟨_, rfl⟩
  obtain ⟨st, hst⟩ : ∃ st, st = o - 2 := ⟨_, rfl⟩
  rw [← hoh] at hx hdec
  rw [← hst] at hdec
  have hi1 : (o : Int) + (s : Int) - 1 = (oh : Int) := by omega
  have hi2 : (o : Int) - 2 = (st : Int) := by omega
  have hmk := makeRev_ok rb A c ds oh st k x w hs hd (by omega) hx hlo hhi (by omega)
  obtain ⟨p0, hp0⟩ : ∃ p, p = 8 * oh + k := ⟨_, rfl⟩
  rw [← hp0] at hmk hdec
  obtain ⟨P, hP⟩ : ∃ P, P = 2 ^ m := ⟨_, rfl⟩
  have hm1 := ht.one
  have hm11 := ht.top
  have hohl : oh < ds.length := by omega
  have Hmk := Lib.hid hmk
  have Hdec := Lib.hid hdec
  have Ht := Lib.hid ht
  have Hs := Lib.hid hs
  have HRw := Lib.hid hRw
  have Hd := Lib.hid hd
  have d12 : w.cell? ⟨rb, 12, none⟩ = some (.slice (some ⟨tb, 0, none⟩) 2048 2048) := by rw [ht.rd.cell]; exact ht.slice
  have d13 : w.cell? ⟨rb, 13, none⟩ = some (.int .i64 (m : Int)) := by rw [ht.rd.cell]; exact ht.log
  have hrbl := ht.rd.lt
  clear hmk hdec ht hs hRw hd hx hlo hhi hoh hst hp0
  go_enter Tryd.func115, Tryd.ntmps115
  go_upto_region 2 with (go_at_call 72; (with_reducible refine Hmk.out.mono ?_); rintro e w1 ⟨rfl, hra, hk1⟩)
  obtain ⟨b, hbe⟩ : ∃ x, x = w1.heap.size := ⟨_, rfl⟩
  obtain ⟨W, hW⟩ : ∃ x', x' = w1.alloc (.cells #[.pointer (some ⟨rb, 0, none⟩), .slice A ds.length c, .int .u32 (oh : Int), .int .u32 (st : Int), .int .u32 (x : Int), .int .u32 (k : Int)] 167) := ⟨_, rfl⟩
  have hrev : Rev W b rb A c ds st p0 := ⟨oh, x, k, by rw [hW, hbe]; exact Blk.new w1 167 _, hra⟩
  have hkW : Kept w W := by rw [hW]; exact hk1.alloc _
  have hbw : w.heap.size ≤ b := by rw [hbe]; exact hk1.size
  have e12 := hkW.cell d12 (fun h => h)
  have e13 := hkW.cell d13 (fun h => h)
  rw [← hbe, ← hW]
  clear hbe hW hra hk1 d12 d13
  have hRb : ¬ R b := fun h => by have := HRw.out b h; omega
  have hB : ∀ wr, Keep (· = b) W wr → TabAt wr rb tb rc m rs ∧ Sl wr R A (u8s ds) := fun wr hk =>
    have ht2 := Ht.out.tab
    ⟨(Ht.out.keep hkW (fun h => h) (fun h => h)).keep hk (by omega) (by obtain ⟨tl, h⟩ := ht2; have := h.lt; omega), ((Hs.out.kept hkW).keep hk (fun k _ h1 h2 => hRb (h2 ▸ h1)))⟩
  have HB := Lib.hid hB
  have hkw2 : ∀ wr, Keep (· = b) W wr → Kept w wr := fun wr hk => hkW.then hk (fun k hk h => by omega)
  have Hkw2 := Lib.hid hkw2
  obtain ⟨M, hM⟩ : ∃ M, M = 2 ^ m - 1 := ⟨_, rfl⟩
  have HM := Lib.hid hM
  have hmk := (mask_of hm11 hM).1
  have Hmk2 := Lib.hid hmk
  clear hB hkw2 hP hM hmk
  go_wp2
  rw [Hmk2.out]
  go_loopg [5, 19] (n + 1) (fun f s5 s19 wr => ∃ (i p c' : Nat) (A' : Option Addr) (out : List Nat), n - i < f ∧ i ≤ n ∧ s5 = .slice A' i c' ∧ s19 = .int .i64 i ∧ Rev wr b rb A c ds st p ∧ wr.ownsRow W.heap.size 5 1 (.slice A' i c') i (u8s out) ∧ Hid (i = out.length) ∧ Hid (decI (num ds) m (8 * st) rs (n - i) p out = some t) ∧ Keep (· = b) W wr)
  case atStart => exact ⟨0, p0, 0, none, [], by omega, by omega, rfl, rfl, hrev, World.ownsRow_nil _ _ _ _, rfl, Hdec.out, Keep.refl _ _⟩
  case round =>
    clear hrev
    obtain ⟨i, p, c', A', out, q1, q2, rfl, rfl, qr, qo, ql, qd, qk⟩ := hrel
    by_cases hlt : i < n
    · obtain ⟨hp, hdec2, _⟩ := decI_next (by have := qd.out; rw [show n - i = (n - (i + 1)) + 1 by omega] at this; exact this)
      obtain ⟨ki, hki⟩ : ∃ x, x = num ds / 2 ^ (p - m) % 2 ^ m := ⟨_, rfl⟩
      rw [← hki] at hdec2
      obtain ⟨hT, hS⟩ := HB.out wr qk
      have hkl : ki < rs.length := by rw [hki, hT.len]; exact Nat.mod_lt _ (pow_pos' _)
      obtain ⟨⟨sy, bt⟩, hx⟩ : ∃ x, rs[ki]? = some x := ⟨_, List.getElem?_eq_getElem hkl⟩
      have hgd : rs.getD ki (0, 0) = (sy, bt) := by rw [List.getD_eq_getElem?_getD, hx]; rfl
      rw [hgd] at hdec2
      simp only at hdec2
      have hsb := hT.row _ (List.mem_of_getElem? hx)
      have hs256 : sy < 256 := hsb.1
      have hbm : bt ≤ m := hsb.2
      have hk2048 : ki < 2048 := by
        have h1 : ki < 2 ^ m := by rw [hki]; exact Nat.mod_lt _ (pow_pos' _)
        have h2 : 2 ^ m ≤ 2 ^ 11 := Nat.pow_le_pow_right (by decide) hm11
        have h3 : (2 : Nat) ^ 11 = 2048 := by decide
        omega
      obtain ⟨en, hen⟩ : ∃ x, x = sy * 256 + bt := ⟨_, rfl⟩
      have hne : (Value.slice A' i c').ownBlock ≠ some b := by obtain ⟨_, _, _, hb9, _⟩ := qr; exact own_ne qo hb9 (by decide)
      have hf := fetch_ok b rb A c ds st p m wr qr hS hRb Hd.out (by omega) (by omega) hp
      have Hf := Lib.hid hf
      have Hdec2 := Lib.hid hdec2
      have HT := Lib.hid hT
      have Hki := Lib.hid hki
      have Hx := Lib.hid hx
      have Hen := Lib.hid hen
      clear hf hdec2 hT hki hx hgd hsb hS qr qd hen
      go_wp2_with fail
      (with_reducible refine Hf.out.mono ?_)
      rintro e w2 ⟨rfl, ⟨off, bits, cnt, hb2, ha2, hmc⟩, hk2⟩
      obtain ⟨q, rfl⟩ : ∃ q, cnt = q + m := ⟨cnt - m, by omega⟩
      have b2 := ha2.word
      have b5 := ha2.cnt
      have c4 : w2.cell? ⟨b, 4, none⟩ = some (.int .u32 (bits : Int)) := hb2.cell 4
      have c5 : w2.cell? ⟨b, 5, none⟩ = some (.int .u32 ((q + m : Nat) : Int)) := hb2.cell 5
      have f5 := hb2.frozen 5
      have hidx := idx_of ha2 hp hm11 HM.out
      rw [← Hki.out] at hidx
      have ct : w2.cell? ⟨tb, ki, none⟩ = some (.int .u16 (en : Int)) := by
        have := (HB.out w2 (qk.trans hk2)).1.cell Hx.out
        rw [Hen.out]; exact this
      have hen16 : en < 65536 := by have := Hen.out; omega
      have hsh : (en : Int) / 256 = (sy : Int) := by have := Hen.out; omega
      have hand : Go.bits .and .u16 (en : Int) 255 = (bt : Int) := by rw [Hen.out]; exact and_255 hs256 (by omega)
      have Ha2 := Lib.hid ha2
      have qo2 := own_keep qo hk2 (fun g hg h => hne (h ▸ hg))
      clear ha2 hmc Hki Hf
      go_wp2_with (at_builtin; refine wpList_push rfl _ _ rfl elByte (qk.trans hk2) A' i c' (u8s out) rfl qo2 [.int .u8 (sy : Int)] rfl rfl (by simp [Value.oneCell']) (by omega) ?_; intro A6 c6 w6 o6 k6 g6; have hb6 := blk_grown hb2 g6 (own_ne qo2 hb2 (by decide)); have d5 : w6.cell? ⟨b, 5, none⟩ = some (.int .u32 ((q + m : Nat) : Int)) := hb6.cell 5; have e5 := hb6.frozen 5)
      go_roundg (n - i)
      case measure => exact q1
      case rel =>
        have hne6 := own_ne o6 hb6 (by decide)
        refine ⟨i + 1, p - bt, c6, A6, out ++ [sy], by omega, by omega, rfl, by go_num, ⟨off, bits, q + m - bt, Blk.cast (hb6.set 5 _) ?_, ?_⟩, ?_, ?_, Hdec2.out, k6.set (p := ⟨b, 5, none⟩) (.inl rfl) _⟩
        · simp only [rbCells, List.set_cons_succ, List.set_cons_zero]
          rw [show (q : Int) + (m : Int) - (bt : Int) = ((q + m - bt : Nat) : Int) by omega]
        · have := Ha2.out
          rw [show q + m = (q + m - bt) + bt by omega] at this
          exact (rev_val this (by omega)).2
        · rw [show u8s (out ++ [sy]) = u8s out ++ [.int .u8 (sy : Int)] by simp [u8s]]
          exact own_keep o6 ((Keep.refl (· = b) w6).set (p := ⟨b, 5, none⟩) (.inl rfl) _) (fun g hg h => hne6 (h ▸ hg))
        · show _ = _
          rw [List.length_append, ← ql.out]; rfl
    · obtain rfl : i = n := by omega
      have hfin := qd.out
      rw [Nat.sub_self, decI] at hfin
      obtain rfl := Option.some.inj hfin
      go_wp2
      go_ret2
      exact ⟨Hkw2.out _ qk, A', c', rfl, own_mono qo hkW.size⟩
end

section
set_option maxHeartbeats 1000000 in
theorem oneStream_wrong {R : Nat → Prop} {B : Nat} (rb : Nat) (A : Option Addr) (c : Nat) (ds : List Nat) (o s n : Nat) (w : World) (hs : Sl w R A (u8s ds)) (he : Errs B w) (hr : RdOff w rb) (ho : 2 ≤ o) (hos : o + s ≤ ds.length) (hlen : ds.length < 2 ^ 24) (h : OneW ds o s) :
    Calls Tryd.prog 115 #[.pointer (some ⟨rb, 0, none⟩), .slice A ds.length c, .int .i64 o, .int .i64 s, .int .i64 n, .slice none 0 0] w (NoPost w) := by
  obtain ⟨hs1, hx⟩ := h
  obtain ⟨oh, hoh⟩ : ∃ oh, oh = o + s - 1 := ⟨_, rfl⟩
  obtain ⟨st, hst⟩ : ∃ st, st = o - 2 := ⟨_, rfl⟩
  rw [← hoh] at hx
  have hi1 : (o : Int) + (s : Int) - 1 = (oh : Int) := by omega
  have hi2 : (o : Int) - 2 = (st : Int) := by omega
  have hmk := makeRev_bad rb A c ds oh st w hs hx he hr
  have Hmk := Lib.hid hmk
  clear hmk hs he hr hx hoh hst
  go_enter Tryd.func115, Tryd.ntmps115
  go_wp2_with (go_at_call 72; (with_reducible refine Hmk.out.mono ?_); rintro e w1 ⟨v, ⟨vt, vx, rfl⟩, rfl, hk1⟩)
  go_ret2
  exact ⟨hk1.alloc _, _, _, rfl⟩

set_option maxHeartbeats 1000000 in
/-- The closure reads a row of the table. -/
theorem fetchHuff_ok {R : Nat → Prop} (rb tb b c1 c2 c3 : Nat) (A : Option Addr) (c : Nat) (ds : List Nat) (rc : List Value) (st p m M : Nat) (rs : List (Nat × Nat)) (w : World) (hr : Rev w b rb A c ds st p) (hT : TabAt w rb tb rc m rs) (hs : Sl w R A (u8s ds)) (hRb : ¬ R b)
    (hd : Bytes ds) (hlen : ds.length < 2 ^ 24) (h1 : w.cell? ⟨c1, 0, none⟩ = some (.int .u32 (m : Int))) (h2 : w.cell? ⟨c2, 0, none⟩ = some (.int .u32 (M : Int))) (h3 : w.cell? ⟨c3, 0, none⟩ = some (.slice (some ⟨tb, 0, none⟩) 2048 2048))
    (hM : M = 2 ^ m - 1) (hb1 : c1 ≠ b) (hb2 : c2 ≠ b) (hb3 : c3 ≠ b) (htb : tb ≠ b) (hgo : 8 * st + m ≤ p) (ki sy bt en : Nat) (hki : ki = num ds / 2 ^ (p - m) % 2 ^ m) (hx : rs[ki]? = some (sy, bt)) (hen : en = sy * 256 + bt) :
    Calls Tryd.prog 118 #[.pointer (some ⟨b, 0, none⟩), .pointer (some ⟨c1, 0, none⟩), .pointer (some ⟨c2, 0, none⟩), .pointer (some ⟨c3, 0, none⟩)] w fun e w' => e = .returned (.tuple #[.int .u16 (en : Int), .nilIface]) ∧
      (∃ off bits q, Blk w' b 167 (rbCells rb A c ds.length st off bits (q + m)) ∧ RevAt ds st p off bits (q + m)) ∧ Keep (· = b) w w' := by
  have hm1 := hT.one
  have hm11 := hT.top
  have hkl := (List.getElem?_eq_some_iff.1 hx).1
  have hk2048 : ki < 2048 := by
    have h1 : ki < 2 ^ m := by rw [hki]; exact Nat.mod_lt _ (pow_pos' _)
    have h2 : 2 ^ m ≤ 2 ^ 11 := Nat.pow_le_pow_right (by decide) hm11
    have h3 : (2 : Nat) ^ 11 = 2048 := by decide
    omega
  have ct : w.cell? ⟨tb, ki, none⟩ = some (.int .u16 (en : Int)) := by rw [hen]; exact hT.cell hx
  have hf := fetch_ok b rb A c ds st p m w hr hs hRb hd (by omega) (by omega) hgo
  have Hf := Lib.hid hf
  have Hki := Lib.hid hki
  have HM := Lib.hid hM
  clear hf hki hM hx hen hr hT hs
  go_enter Tryd.func118, Tryd.ntmps118
  go_wp2_with fail
  (with_reducible refine Hf.out.mono ?_)
  rintro e w2 ⟨rfl, ⟨off, bits, cnt, hb2', ha2, hmc⟩, hk2⟩
  obtain ⟨q, rfl⟩ : ∃ q, cnt = q + m := ⟨cnt - m, by omega⟩
  have b2 := ha2.word
  have b5 := ha2.cnt
  have c4 : w2.cell? ⟨b, 4, none⟩ = some (.int .u32 (bits : Int)) := hb2'.cell 4
  have c5 : w2.cell? ⟨b, 5, none⟩ = some (.int .u32 ((q + m : Nat) : Int)) := hb2'.cell 5
  have hidx := idx_of ha2 hgo hm11 HM.out
  rw [← Hki.out] at hidx
  have d1 := hk2.cell h1 hb1
  have d2 := hk2.cell h2 hb2
  have d3 := hk2.cell h3 hb3
  have dt := hk2.cell ct htb
  have hsub : IntKind.u32.wrap (((q + m : Nat) : Int) - (m : Int)) = (q : Int) := by
    rw [show ((q + m : Nat) : Int) - (m : Int) = (q : Int) by omega]
    simp [IntKind.wrap, IntKind.signed, IntKind.bits]
    omega
  have Ha2 := Lib.hid ha2
  clear ha2 hmc h1 h2 h3 ct Hf
  go_wp2
  go_quiet (fail)
  go_wp2
  go_ret2
  exact ⟨rfl, ⟨off, bits, q, hb2'.drewN _, Ha2.out⟩, hk2.drewN _⟩
end
end Go.Proofs.YtabaholflahepaaDoor
