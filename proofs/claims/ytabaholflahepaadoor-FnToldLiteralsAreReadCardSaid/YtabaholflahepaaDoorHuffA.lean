/-
  Contracts of the reverse bit reader where it begins at or below its start: what it holds is all there is. And more of its kind (HuffS, HuffP).
-/
import Derived.Test.YtabaholflahepaaDoorSpecLow
import Derived.Test.YtabaholflahepaaDoorSpecB
import Derived.Test.YtabaholflahepaaDoorTreeA
import Derived.Test.YtabaholflahepaaDoorTreeB
namespace Go.Proofs.YtabaholflahepaaDoor
open Go.RowKit

section
section
variable {B : Nat} {R : Nat → Prop}

set_option maxHeartbeats 400000 in
theorem fetch_short (b rb : Nat) (A : Option Addr) (c len start off bits cnt n : Nat) (w : World) (hb : Blk w b 167 (rbCells rb A c len start off bits cnt)) (hle : off ≤ start) (_hst : start < 4294967296) (_hbits : bits < 4294967296) (_hc : cnt ≤ 23) (hn : n ≤ 16) :
    Calls Tryd.prog 95 #[.pointer (some ⟨b, 0, none⟩), .int .u8 (n : Int)] w fun e w' => e = .returned (.bool (decide (n ≤ cnt))) ∧ Kept w w' := by
  have c1 : w.cell? ⟨b, 1, none⟩ = some (.slice A len c) := hb.cell 1
  have c2 : w.cell? ⟨b, 2, none⟩ = some (.int .u32 (off : Int)) := hb.cell 2
  have c3 : w.cell? ⟨b, 3, none⟩ = some (.int .u32 (start : Int)) := hb.cell 3
  have c4 : w.cell? ⟨b, 4, none⟩ = some (.int .u32 (bits : Int)) := hb.cell 4
  have c5 : w.cell? ⟨b, 5, none⟩ = some (.int .u32 (cnt : Int)) := hb.cell 5
  go_enter Tryd.func95, Tryd.ntmps95
  go_wp2
  go_loopg [] 1 (fun k wr => 0 < k ∧ w = wr)
  case atStart => exact ⟨by omega, rfl⟩
  case round =>
    obtain ⟨q1, rfl⟩ := hrel
    by_cases hlt : cnt < n
    · have hd : decide (n ≤ cnt) = false := decide_eq_false (by omega)
      have Hd := Lib.hid hd
      clear hd
      go_wp2
      go_quiet (fail)
      go_wp2
      go_ret
      exact ⟨by rw [Hd.out]; rfl, (Keep.refl _ _).drewN _⟩
    · have hd : decide (n ≤ cnt) = true := decide_eq_true (by omega)
      have Hd := Lib.hid hd
      clear hd
      go_wp2
      go_ret
      exact ⟨by rw [Hd.out]; rfl, Keep.refl _ _⟩

/-- So many bits are held. -/
theorem rval_short (b rb : Nat) (A : Option Addr) (c len start off bits cnt n : Nat) (w : World) (hb : Blk w b 167 (rbCells rb A c len start off bits cnt)) (hle : off ≤ start) (hst : start < 4294967296) (hbits : bits < 4294967296) (hc : cnt ≤ 23) (hn : n ≤ 16) (hgo : n ≤ cnt) :
    Calls Tryd.prog 73 #[.pointer (some ⟨b, 0, none⟩), .int .u8 (n : Int)] w fun e w' => ∃ x : Int, e = .returned (.tuple #[.int .u32 x, .nilIface]) ∧
      Blk w' b 167 (rbCells rb A c len start off bits (cnt - n)) ∧ Keep (· = b) w w' := by
  have hf := fetch_short b rb A c len start off bits cnt n w hb hle hst hbits hc hn
  rw [decide_eq_true hgo] at hf
  have Hf := Lib.hid hf
  clear hf
  go_enter Tryd.func73, Tryd.ntmps73
  go_wp2_with fail
  refine Hf.out.mono ?_
  rintro e w1 ⟨rfl, hk⟩
  have qb := hb.kept hk
  obtain ⟨m, rfl⟩ : ∃ m, cnt = m + n := ⟨cnt - n, by omega⟩
  have c2 : w1.cell? ⟨b, 2, none⟩ = some (.int .u32 (off : Int)) := qb.cell 2
  have c4 : w1.cell? ⟨b, 4, none⟩ = some (.int .u32 (bits : Int)) := qb.cell 4
  have c5 : w1.cell? ⟨b, 5, none⟩ = some (.int .u32 ((m + n : Nat) : Int)) := qb.cell 5
  have f5 := qb.frozen 5
  clear hb
  go_wp2
  go_region
  go_wp2
  go_ret2
  refine ⟨_, rfl, Blk.cast (qb.set 5 _).drew ?_, (((hk.any (· = b)).set (.inl rfl) _).drew)⟩
  rw [Nat.add_sub_cancel]
  rfl

set_option maxHeartbeats 400000 in
/-- Not so many bits are held: an error. -/
theorem rval_short_bad (b rb : Nat) (A : Option Addr) (c len start off bits cnt n : Nat) (w : World) (hb : Blk w b 167 (rbCells rb A c len start off bits cnt)) (hle : off ≤ start) (hst : start < 4294967296) (hbits : bits < 4294967296) (hc : cnt ≤ 23) (hn : n ≤ 16) (hgo : cnt < n)
    (he : Errs B w) (hr : RdOff w rb) :
    Calls Tryd.prog 73 #[.pointer (some ⟨b, 0, none⟩), .int .u8 (n : Int)] w fun e w' => ∃ v, IsErr v ∧ e = .returned (.tuple #[.int .u32 0, v]) ∧ Kept w w' := by
  have hf := fetch_short b rb A c len start off bits cnt n w hb hle hst hbits hc hn
  rw [decide_eq_false (by omega)] at hf
  have Hf := Lib.hid hf
  clear hf
  go_enter Tryd.func73, Tryd.ntmps73
  go_wp2_with fail
  refine Hf.out.mono ?_
  rintro e w1 ⟨rfl, hk0⟩
  have qb := hb.kept hk0
  have he' := he.kept hk0
  have hr' := hr.kept hk0
  have c0 : w1.cell? ⟨b, 0, none⟩ = some (.pointer (some ⟨rb, 0, none⟩)) := qb.cell 0
  have c2 : w1.cell? ⟨b, 2, none⟩ = some (.int .u32 (off : Int)) := qb.cell 2
  clear hb
  go_wp2
  go_region_held3 (fun w' => w'.cell? ⟨b, 0, none⟩ = some (.pointer (some ⟨rb, 0, none⟩)) ∧ w'.cell? ⟨b, 2, none⟩ = some (.int .u32 (off : Int))) (first | exact ⟨hk.cell c0 (fun h => h), hk.cell c2 (fun h => h)⟩ | go_keep)
    (first | (go_at_call 92; refine (makeEOFError (B := B) rb _ _ (he'.kept ((Keep.refl _ _).drewN _)) (hr'.kept ((Keep.refl _ _).drewN _))).mono ?_; rintro e w' ⟨v, hv, rfl, hk⟩))
  go_wp2
  go_ret2
  exact ⟨v, hv, rfl, (hk0.drewN _).kept hk⟩
/-- Whether so many bits are there. -/
theorem fetch_any (b rb : Nat) (A : Option Addr) (c : Nat) (ds : List Nat) (start p n : Nat) (w : World) (hb : Rev w b rb A c ds start p) (hs : Sl w R A (u8s ds)) (hR : ¬ R b)
    (hd : Bytes ds) (hlen : ds.length < 2 ^ 27) (hn : n ≤ 16) (h0 : 8 * start ≤ p) :
    Calls Tryd.prog 95 #[.pointer (some ⟨b, 0, none⟩), .int .u8 (n : Int)] w fun e w' => e = .returned (.bool (decide (8 * start + n ≤ p))) ∧ Rev w' b rb A c ds start p ∧ Keep (· = b) w w' := by
  by_cases hgo : 8 * start + n ≤ p
  · refine (fetch_ok b rb A c ds start p n w hb hs hR hd hlen hn hgo).mono ?_
    rintro e w' ⟨he, ⟨off, bits, cnt, h1, h2, _⟩, hk⟩
    exact ⟨by rw [he, decide_eq_true hgo], ⟨off, bits, cnt, h1, h2⟩, hk⟩
  · refine (fetch_bad b rb A c ds start p n w hb hs hR hd hlen hn h0 (by omega)).mono ?_
    rintro e w' ⟨he, hr, hk⟩
    exact ⟨by rw [he, decide_eq_false hgo], hr, hk⟩

theorem rbrError (b rb : Nat) (A : Option Addr) (c : Nat) (ds : List Nat) (start p : Nat) (s : ByteArray) (w : World) (hb : Rev w b rb A c ds start p) (he : Errs B w) (hr : RdOff w rb) (hlen : ds.length < 2 ^ 27) :
    Calls Tryd.prog 102 #[.pointer (some ⟨b, 0, none⟩), .string s] w (ErrPost w) := by
  obtain ⟨off, bits, cnt, hb, ha⟩ := hb
  have c0 : w.cell? ⟨b, 0, none⟩ = some (.pointer (some ⟨rb, 0, none⟩)) := hb.cell 0
  have c2 : w.cell? ⟨b, 2, none⟩ = some (.int .u32 (off : Int)) := hb.cell 2
  have ho2 : off ≤ 134217728 := by have := ha.off; omega
  clear hb ha
  go_enter Tryd.func102, Tryd.ntmps102
  go_wp2
  go_region_held3 (fun w' => w'.cell? ⟨b, 0, none⟩ = some (.pointer (some ⟨rb, 0, none⟩)) ∧ w'.cell? ⟨b, 2, none⟩ = some (.int .u32 (off : Int))) (first | exact ⟨hk.cell c0 (fun h => h), hk.cell c2 (fun h => h)⟩ | go_keep)
    (first | (go_at_call 93; refine (makeError (B := B) rb _ _ _ (he.kept ((Keep.refl _ _).drewN _)) (hr.kept ((Keep.refl _ _).drewN _))).mono ?_; rintro e w' ⟨v, hv, rfl, hk⟩))
  go_wp2
  go_ret
  exact ⟨v, hv, rfl, ((Keep.refl _ _).drewN _).kept hk⟩

set_option maxHeartbeats 400000 in
/-- The reader that begins at a byte that is not 0, wherever its start lies. -/
theorem makeRev_cells (rb : Nat) (A : Option Addr) (c : Nat) (ds : List Nat) (off start n x : Nat) (w : World) (hs : Sl w R A (u8s ds)) (hd : Bytes ds) (hlen : ds.length < 2 ^ 27)
    (hx : ds[off]? = some x) (h1 : 2 ^ n ≤ x) (h2 : x < 2 ^ (n + 1)) (hst : start < 2 ^ 27) :
    Calls Tryd.prog 72 #[.pointer (some ⟨rb, 0, none⟩), .slice A ds.length c, .int .i64 (off : Int), .int .i64 (start : Int)] w fun e w' =>
      e = .returned (.tuple #[.agg #[.pointer (some ⟨rb, 0, none⟩), .slice A ds.length c, .int .u32 (off : Int), .int .u32 (start : Int), .int .u32 (x : Int), .int .u32 (n : Int)], .nilIface]) ∧ n ≤ 7 ∧ Kept w w' := by
  have ho := (List.getElem?_eq_some_iff.1 hx).1
  have hx2 : x < 256 := hd x (List.mem_of_getElem? hx)
  have ht := byte_top h1 h2 hx2
  have hpos := pow_pos' n
  have Ht := Lib.hid ht
  have Hx := Lib.hid hx
  have hn := ht.2
  clear ht hx
  obtain ⟨g, o, y, hR, rfl, hcy, hyk⟩ := hs.u8 (k := off) ho
  obtain rfl : x = y := Option.some.inj (Hx.out.symm.trans hyk.out)
  have hx0 : ((x : Int) == 0) = false := by rw [beq_eq_false_iff_ne]; omega
  have hst2 : start < 134217728 := by omega
  clear h1 h2 hpos hst
  have hk0 : Kept w (w.alloc (.cells #[.pointer none, .slice none 0 0, .int .u32 0, .int .u32 0, .int .u32 0, .int .u32 0] 167)) := (Keep.refl _ _).alloc _
  have hcy' := hk0.cell hcy (fun h => h)
  go_enter Tryd.func72, Tryd.ntmps72
  go_wp2_with (go_at_call 94; refine (Tryd.bits_LeadingZeros8 (x : Int) _ (by omega) (by omega)).mono ?_; rintro e w1 ⟨rfl, rfl⟩; rw [Int.toNat_natCast, Ht.out.1])
  have en : (7 : Int) - (8 - ((n : Int) + 1)) = (n : Int) := by omega
  go_returns
  rw [en]
  exact ⟨rfl, hn, ((Keep.refl _ _).alloc _).alloc _⟩
end
end

section
theorem bitLen_log2 {x : Nat} (h0 : x ≠ 0) (h : x < 4294967296) : Lib.bitLen x = Nat.log2 x + 1 := by
  have h1 := Nat.log2_self_le h0
  have h2 : x < 2 ^ (Nat.log2 x + 1) := Nat.lt_log2_self
  have e := Lib.bitLen_shift (Nat.log2 x) x h1 (by omega)
  have h4 : x / 2 ^ Nat.log2 x = 1 := by
    have a1 : 1 ≤ x / 2 ^ Nat.log2 x := (Nat.le_div_iff_mul_le (pow_pos' _)).2 (by omega)
    have a2 : x / 2 ^ Nat.log2 x < 2 := (Nat.div_lt_iff_lt_mul (pow_pos' _)).2 (by rw [Nat.pow_succ] at h2; omega)
    omega
  rw [e, h4]; rfl

section
variable {ds : List Nat} {off h : Nat}

theorem drop_head (hx : ds[off]? = some h) : (ds.drop off).getD 0 0 = h ∧ off < ds.length := by
  refine ⟨?_, (List.getElem?_eq_some_iff.1 hx).1⟩
  rw [List.getD_eq_getElem?_getD, List.getElem?_drop, Nat.add_zero, hx]; rfl

/-- The tree, told by the weights. -/
theorem treeS_wts (hx : ds[off]? = some h) (hl : off + (1 + bodyOf h) ≤ ds.length) {ws : List Nat} (hw : wtsIn (ds.drop off) = some ws) : treeS (ds.drop off) = (treeP ws).map fun t => (t.1, t.2, 1 + bodyOf h) := by
  have h1 := drop_head hx
  unfold treeS
  rw [h1.1, if_neg (by rw [List.length_drop]; omega), if_neg (by rw [List.length_drop]; omega), hw]
  rfl
theorem treeS_no (hw : wtsIn (ds.drop off) = none) : treeS (ds.drop off) = none := by
  unfold treeS
  rw [hw]
  split
  · rfl
  · split <;> rfl
theorem treeS_short (hx : ds[off]? = some h) (hl : ds.length < off + (1 + bodyOf h)) : treeS (ds.drop off) = none := by
  have h1 := drop_head hx
  unfold treeS
  rw [h1.1]
  split
  · rfl
  · rw [if_pos (by rw [List.length_drop]; omega)]

/-- The bytes behind the head. -/
def win (ds : List Nat) (off h : Nat) : List Nat := (ds.drop (off + 1)).take h
theorem win_length (hl : off + 1 + h ≤ ds.length) : (win ds off h).length = h := by rw [win, List.length_take, List.length_drop]; omega
theorem win_last {x : Nat} (hy : ds[off + h]? = some x) (h1 : 1 ≤ h) : (win ds off h)[h - 1]? = some x := by
  rw [win, List.getElem?_take, if_pos (by omega), List.getElem?_drop, show off + 1 + (h - 1) = off + h by omega, hy]
theorem wtsIn_win (hx : ds[off]? = some h) (hh : h < 128) : wtsIn (ds.drop off) = wtsOf (win ds off h) := by
  have h1 := drop_head hx
  unfold wtsIn win
  rw [h1.1, if_neg (by omega), List.drop_drop]
theorem win_bits (hd : Bytes ds) {pos n : Nat} (hf : pos + n ≤ 8 * h) : rdb (num (win ds off h)) pos n = rdb (num ds) (8 * (off + 1) + pos) n := rdb_window hd hf
theorem win_desc (hd : Bytes ds) (hl : off + 1 + h ≤ ds.length) (L : Nat) (ps : List Int) (e : Nat) :
    desc (num (win ds off h)) (8 * h) 256 6 0 = some (L, ps, e) ↔ desc (num ds) (8 * ds.length) 256 6 (8 * (off + 1)) = some (L, ps, 8 * (off + 1) + e) ∧ e ≤ 8 * h :=
  desc_window (fun _ _ hf => win_bits hd hf) (by omega) L ps e

/-- Behind a description of shares there is a byte at least. -/
theorem wtsOf_room {l ws : List Nat} (h : wtsOf l = some ws) : ∃ L ps e, desc (num l) (8 * l.length) 256 6 0 = some (L, ps, e) ∧ (e + 7) / 8 < l.length ∧ l.getD (l.length - 1) 0 ≠ 0 := by
  cases hde : desc (num l) (8 * l.length) 256 6 0 with
  | none => rw [wtsOf_none hde] at h; cases h
  | some x =>
    obtain ⟨L, ps, e⟩ := x
    rw [wtsOf_some hde rfl rfl] at h
    refine ⟨L, ps, e, rfl, ?_⟩
    split at h
    · cases h
    · rename_i hne
      by_cases hlt : (e + 7) / 8 < l.length
      · refine ⟨hlt, fun h0 => hne ?_⟩
        rw [List.getD_eq_getElem?_getD, List.getElem?_drop, List.length_drop, show (e + 7) / 8 + (l.length - (e + 7) / 8 - 1) = l.length - 1 by omega, ← List.getD_eq_getElem?_getD]
        exact h0
      · exfalso
        apply hne
        rw [List.drop_eq_nil_of_le (by omega)]
        rfl

/-- readFSE has refused. -/
theorem huff_refused (hd : Bytes ds) (hx : ds[off]? = some h) (hh : h < 128) (hno : ∀ L ps q, desc (num ds) (8 * ds.length) 256 6 (8 * (off + 1)) = some (L, ps, q) → 8 * ds.length < q + 16) :
    ∀ al m q, treeS (ds.drop off) = some (al, m, q) → 1 ∈ al → ds.length ≤ off + q := by
  intro al m q ht _
  obtain ⟨h0, hq, hl, ws, hw, _⟩ := treeS_some ht
  have h1 := drop_head hx
  have hb : bodyOf h = h := by unfold bodyOf; rw [if_neg (by omega)]
  rw [h1.1, hb] at hq
  rw [List.length_drop] at hl
  rw [wtsIn_win hx hh] at hw
  have hwl := win_length (ds := ds) (off := off) (h := h) (by omega)
  obtain ⟨L, ps, e, hde, he, _⟩ := wtsOf_room hw
  rw [hwl] at hde he
  have h2 := ((win_desc hd (by omega) L ps e).1 hde).1
  have := hno _ _ _ h2
  omega
/-- The last byte is 0. -/
theorem huff_zero (hx : ds[off]? = some h) (hh : h < 128) (hl : off + 1 + h ≤ ds.length) (hz : ds[off + h]? = some 0) : treeS (ds.drop off) = none := by
  refine treeS_no ?_
  rw [wtsIn_win hx hh]
  cases hw : wtsOf (win ds off h) with
  | none => rfl
  | some ws =>
    exfalso
    have hwl := win_length hl
    obtain ⟨L, ps, e, _, he, hne⟩ := wtsOf_room hw
    rw [hwl] at he hne
    apply hne
    rw [List.getD_eq_getElem?_getD, win_last hz (by omega)]
    rfl
/-- The shares leave no byte. -/
theorem huff_full (hd : Bytes ds) (hx : ds[off]? = some h) (hh : h < 128) (hl : off + 1 + h ≤ ds.length) {L E : Nat} {ps : List Int} (hde : desc (num ds) (8 * ds.length) 256 6 (8 * (off + 1)) = some (L, ps, E)) (hE : off + h < (E + 7) / 8) : treeS (ds.drop off) = none := by
  refine treeS_no ?_
  rw [wtsIn_win hx hh]
  cases hw : wtsOf (win ds off h) with
  | none => rfl
  | some ws =>
    exfalso
    have hwl := win_length hl
    obtain ⟨L', ps', e, hde', he, _⟩ := wtsOf_room hw
    rw [hwl] at he hde'
    have h2 := ((win_desc hd hl L' ps' e).1 hde').1
    rw [hde] at h2
    simp only [Option.some.injEq, Prod.mk.injEq] at h2
    omega
/-- The weights behind the shares. -/
theorem huff_wts (hd : Bytes ds) (hx : ds[off]? = some h) (hh : h < 128) (hl : off + 1 + h ≤ ds.length) {L E x : Nat} {ps : List Int} (hde : desc (num ds) (8 * ds.length) 256 6 (8 * (off + 1)) = some (L, ps, E)) (hE : (E + 7) / 8 ≤ off + h) (hy : ds[off + h]? = some x) (hx0 : x ≠ 0)
    {no : Nat} (hno : no = (E + 7) / 8) {rs : List Nat} (hrs : rs = (ds.drop no).take (off + 1 + h - no)) {lf : Nat} (hlf : lf = 8 * (off + h - no) + Nat.log2 x) :
    off + 1 ≤ no ∧ (∀ pos n, pos + n ≤ 8 * rs.length → rdb (num rs) pos n = rdb (num ds) (8 * no + pos) n) ∧ rs.length = off + 1 + h - no ∧
      wtsIn (ds.drop off) = if lf < 2 * L then none else wts (num rs) (tab L ps) 256 (num rs / 2 ^ (lf - L) % 2 ^ L) (num rs / 2 ^ (lf - 2 * L) % 2 ^ L) (lf - 2 * L) [] := by
  have h4 := (desc_some hde (by decide)).2.2.2.2.2.2.2.1
  obtain ⟨e, rfl⟩ : ∃ e, E = 8 * (off + 1) + e := ⟨E - 8 * (off + 1), by omega⟩
  have hne : no = off + 1 + (e + 7) / 8 := by omega
  have hwl := win_length hl
  have hrl : rs.length = off + 1 + h - no := by rw [hrs, List.length_take, List.length_drop]; omega
  have hw := (win_desc hd hl L ps e).2 ⟨hde, by omega⟩
  have hrw : rs = (win ds off h).drop ((e + 7) / 8) := by
    rw [hrs, win, List.drop_take, List.drop_drop, hne]
    congr 1
    omega
  have hlast : x = rs.getD (rs.length - 1) 0 := by
    rw [hrl, hrs, List.getD_eq_getElem?_getD, List.getElem?_take, if_pos (by omega), List.getElem?_drop, show no + (off + 1 + h - no - 1) = off + h by omega, hy]
    rfl
  refine ⟨by omega, fun pos n hf => ?_, hrl, ?_⟩
  · rw [hrl] at hf
    rw [hrs]
    exact rdb_window hd hf
  · rw [wtsIn_win hx hh]
    have hw' : desc (num (win ds off h)) (8 * (win ds off h).length) 256 6 0 = some (L, ps, e) := by rw [hwl]; exact hw
    rw [wtsOf_some hw' hrw hlast, if_neg hx0, hrl, show 8 * (off + 1 + h - no - 1) + Nat.log2 x = lf by rw [hlf]; omega]
end
end
end Go.Proofs.YtabaholflahepaaDoor
