/-
  Contracts of the reverse bit reader: makeReverseBitReader, fetch, val. Its state is told by the number p of bits that lie below (from the first byte on).
-/
import Derived.Test.YtabaholflahepaaDoorBits
import Derived.Test.YtabaholflahepaaDoorShelf
namespace Go.Proofs.YtabaholflahepaaDoor
open Go.RowKit

def rbCells (rb : Nat) (A : Option Addr) (c : Nat) (len start off bits cnt : Nat) : List Value :=
  [.pointer (some ⟨rb, 0, none⟩), .slice A len c, .int .u32 (off : Int), .int .u32 (start : Int), .int .u32 (bits : Int), .int .u32 (cnt : Int)]

/-- What its numbers are. -/
structure RevAt (ds : List Nat) (start p off bits cnt : Nat) : Prop where
  pos : p = 8 * off + cnt
  word : bits < 4294967296
  low : bits % 2 ^ cnt = num ds / 2 ^ (8 * off) % 2 ^ cnt
  start : start ≤ off
  off : off ≤ ds.length
  cnt : cnt ≤ 23

/-- The reverse reader at b, with p bits below. -/
def Rev (w : World) (b rb : Nat) (A : Option Addr) (c : Nat) (ds : List Nat) (start p : Nat) : Prop :=
  ∃ off bits cnt, Blk w b 167 (rbCells rb A c ds.length start off bits cnt) ∧ RevAt ds start p off bits cnt

theorem Rev.keep {S : Nat → Prop} {w w' : World} {b rb : Nat} {A : Option Addr} {c : Nat} {ds : List Nat} {start p : Nat} (h : Rev w b rb A c ds start p) (hk : Keep S w w') (hn : ¬ S b) : Rev w' b rb A c ds start p := by
  obtain ⟨o, x, n, h1, h2⟩ := h
  exact ⟨o, x, n, h1.keep hk hn, h2⟩
theorem Rev.kept {w w' : World} {b rb : Nat} {A : Option Addr} {c : Nat} {ds : List Nat} {start p : Nat} (h : Rev w b rb A c ds start p) (hk : Kept w w') : Rev w' b rb A c ds start p := h.keep hk fun hf => hf

theorem byte_under (a x : Nat) (h : x < 256) : (a * 256 + x) % 2 ^ 8 = x ∧ (a * 256 + x) / 2 ^ 8 = a := by
  have hp8 : (2 ^ 8 : Nat) = 256 := by decide
  rw [hp8]; omega

theorem rev_refill {ds : List Nat} (hd : Bytes ds) {start p o bits cnt x : Nat} (h : RevAt ds start p o bits cnt) (hlt : cnt < 16) (ho : start < o) (hx : x = ds.getD (o - 1) 0) :
    RevAt ds start p (o - 1) (bits * 256 % 4294967296 + x) (cnt + 8) ∧ Go.bits .or .u32 ((bits * 256 % 4294967296 : Nat) : Int) (x : Int) = ((bits * 256 % 4294967296 + x : Nat) : Int) := by
  obtain ⟨h1, h2, h3, h4, h5, h6⟩ := h
  have hx2 : x < 256 := hx ▸ hd.getD _
  have e0 : bits * 256 % 4294967296 = bits % 16777216 * 256 := by omega
  have e1 : x ||| bits % 16777216 * 2 ^ 8 = x + bits % 16777216 * 2 ^ 8 := or_shift (by omega)
  refine ⟨⟨by omega, by omega, ?_, by omega, by omega, by omega⟩, ?_⟩
  · have a1 : (bits * 256 % 4294967296 + x) % 2 ^ (cnt + 8) = bits % 2 ^ cnt * 256 + x := by
      have hd1 : (2 ^ (cnt + 8) : Nat) ∣ 4294967296 := by
        rw [show (4294967296 : Nat) = 2 ^ 32 by decide]
        exact Nat.pow_dvd_pow 2 (by omega)
      rw [Nat.add_mod, Nat.mod_mod_of_dvd _ hd1, ← Nat.add_mod, Nat.add_comm cnt 8, mod_pow_add]
      rw [(byte_under bits x hx2).1, (byte_under bits x hx2).2, Nat.add_comm, Nat.mul_comm]
    rw [a1, h3]
    have a2 : num ds / 2 ^ (8 * (o - 1)) % 2 ^ (8 + cnt) = x + 256 * (num ds / 2 ^ (8 * o) % 2 ^ cnt) := by
      rw [mod_pow_add, div_pow_div, show 8 * (o - 1) + 8 = 8 * o by omega, show (2 ^ 8 : Nat) = 256 by decide, num_byte hd, ← hx]
    rw [Nat.add_comm cnt 8, a2]
    omega
  · rw [u32_or_nat _ _ (by omega) (by omega), Nat.or_comm, e0, e1]
    congr 1; omega

section
variable {R : Nat → Prop}

set_option maxHeartbeats 400000 in
/-- So many bits are there. -/
theorem fetch_ok (b rb : Nat) (A : Option Addr) (c : Nat) (ds : List Nat) (start p n : Nat) (w : World) (hb : Rev w b rb A c ds start p) (hs : Sl w R A (u8s ds)) (hR : ¬ R b)
    (hd : Bytes ds) (hlen : ds.length < 2 ^ 27) (hn : n ≤ 16) (hgo : 8 * start + n ≤ p) :
    Calls Tryd.prog 95 #[.pointer (some ⟨b, 0, none⟩), .int .u8 (n : Int)] w fun e w' => e = .returned (.bool true) ∧
      (∃ off bits cnt, Blk w' b 167 (rbCells rb A c ds.length start off bits cnt) ∧ RevAt ds start p off bits cnt ∧ n ≤ cnt) ∧ Keep (· = b) w w' := by
  go_enter Tryd.func95, Tryd.ntmps95
  go_wp2
  go_loopg [] (ds.length + 1) (fun k wr => ∃ o bits cnt, o < k ∧ Blk wr b 167 (rbCells rb A c ds.length start o bits cnt) ∧ Hid (RevAt ds start p o bits cnt) ∧ Keep (· = b) w wr)
  case atStart =>
    obtain ⟨o, x, m, h1, h2⟩ := hb
    exact ⟨o, x, m, by have := h2.off; omega, h1, h2, Keep.refl _ _⟩
  case round =>
    obtain ⟨o, bits, cnt, q1, qb, qa, qk⟩ := hrel
    have hs' := hs.keep qk (fun k _ hk => by rintro rfl; exact hR hk)
    have c1 : wr.cell? ⟨b, 1, none⟩ = some (.slice A ds.length c) := qb.cell 1
    have c2 : wr.cell? ⟨b, 2, none⟩ = some (.int .u32 (o : Int)) := qb.cell 2
    have c3 : wr.cell? ⟨b, 3, none⟩ = some (.int .u32 (start : Int)) := qb.cell 3
    have c4 : wr.cell? ⟨b, 4, none⟩ = some (.int .u32 (bits : Int)) := qb.cell 4
    have c5 : wr.cell? ⟨b, 5, none⟩ = some (.int .u32 (cnt : Int)) := qb.cell 5
    have f2 := qb.frozen 2
    have f4 := qb.frozen 4
    have f5 := qb.frozen 5
    have b1 := qa.out.pos
    have b2 := qa.out.word
    have b3 := qa.out.off
    have b4 := qa.out.start
    have b5 := qa.out.cnt
    have Hb1 := Lib.hid b1
    by_cases hlt : cnt < n
    · have ho : start < o := by omega
      obtain ⟨o, rfl⟩ : ∃ m, o = m + 1 := ⟨o - 1, by omega⟩
      obtain ⟨g, go, hg, rfl, hcell⟩ := hs'.get (by simp; omega)
      have hx := hcell o _ (u8s_at (by omega))
      clear hcell
      have hx2 := hd.getD o
      obtain ⟨x, hxe⟩ : ∃ x, x = ds.getD o 0 := ⟨_, rfl⟩
      rw [← hxe] at hx hx2
      have hr := rev_refill hd qa.out (by omega) ho hxe
      rw [Nat.add_sub_cancel] at hr
      have Hr1 := Lib.hid hr.1
      have Hr2 := Lib.hid hr.2
      have hgb : b ≠ g := by rintro rfl; exact hR hg
      have hgb' : g ≠ b := by rintro rfl; exact hR hg
      clear hr hxe b1
      have ha : cnt < 16 := by omega
      go_wp2
      go_quiet (fail)
      go_wp2
      go_quiet (fail)
      go_wp2
      go_roundg (o + 1)
      case measure => exact q1
      case rel =>
        refine ⟨o, _, _, Nat.lt_succ_self o, Blk.cast (((((qb.drewN _).set 2 _).drewN _).set 4 _).set 4 _ |>.set 5 _) ?_, Hr1.out, (((((qk.drewN _).set (.inl rfl) _).drewN _).set (.inl rfl) _).set (.inl rfl) _).set (.inl rfl) _⟩
        simp only [rbCells, List.set_cons_succ, List.set_cons_zero, ← Hr2.out]
        rfl
    · go_wp2
      go_ret
      exact ⟨rfl, ⟨o, bits, cnt, qb, qa, by omega⟩, qk⟩
set_option maxHeartbeats 400000 in
/-- Not so many bits are there. -/
theorem fetch_bad (b rb : Nat) (A : Option Addr) (c : Nat) (ds : List Nat) (start p n : Nat) (w : World) (hb : Rev w b rb A c ds start p) (hs : Sl w R A (u8s ds)) (hR : ¬ R b)
    (hd : Bytes ds) (hlen : ds.length < 2 ^ 27) (hn : n ≤ 16) (h0 : 8 * start ≤ p) (hgo : p < 8 * start + n) :
    Calls Tryd.prog 95 #[.pointer (some ⟨b, 0, none⟩), .int .u8 (n : Int)] w fun e w' => e = .returned (.bool false) ∧ Rev w' b rb A c ds start p ∧ Keep (· = b) w w' := by
  go_enter Tryd.func95, Tryd.ntmps95
  go_wp2
  go_loopg [] (ds.length + 1) (fun k wr => ∃ o bits cnt, o < k ∧ Blk wr b 167 (rbCells rb A c ds.length start o bits cnt) ∧ Hid (RevAt ds start p o bits cnt) ∧ Keep (· = b) w wr)
  case atStart =>
    obtain ⟨o, x, m, h1, h2⟩ := hb
    exact ⟨o, x, m, by have := h2.off; omega, h1, h2, Keep.refl _ _⟩
  case round =>
    obtain ⟨o, bits, cnt, q1, qb, qa, qk⟩ := hrel
    have hs' := hs.keep qk (fun k _ hk => by rintro rfl; exact hR hk)
    have c1 : wr.cell? ⟨b, 1, none⟩ = some (.slice A ds.length c) := qb.cell 1
    have c2 : wr.cell? ⟨b, 2, none⟩ = some (.int .u32 (o : Int)) := qb.cell 2
    have c3 : wr.cell? ⟨b, 3, none⟩ = some (.int .u32 (start : Int)) := qb.cell 3
    have c4 : wr.cell? ⟨b, 4, none⟩ = some (.int .u32 (bits : Int)) := qb.cell 4
    have c5 : wr.cell? ⟨b, 5, none⟩ = some (.int .u32 (cnt : Int)) := qb.cell 5
    have f2 := qb.frozen 2
    have f4 := qb.frozen 4
    have f5 := qb.frozen 5
    have b1 := qa.out.pos
    have b2 := qa.out.word
    have b3 := qa.out.off
    have b4 := qa.out.start
    have b5 := qa.out.cnt
    have Hb1 := Lib.hid b1
    have hlt : cnt < n := by omega
    by_cases ho : start < o
    · obtain ⟨o, rfl⟩ : ∃ m, o = m + 1 := ⟨o - 1, by omega⟩
      obtain ⟨g, go, hg, rfl, hcell⟩ := hs'.get (by simp; omega)
      have hx := hcell o _ (u8s_at (by omega))
      clear hcell
      have hx2 := hd.getD o
      obtain ⟨x, hxe⟩ : ∃ x, x = ds.getD o 0 := ⟨_, rfl⟩
      rw [← hxe] at hx hx2
      have hr := rev_refill hd qa.out (by omega) ho hxe
      rw [Nat.add_sub_cancel] at hr
      have Hr1 := Lib.hid hr.1
      have Hr2 := Lib.hid hr.2
      have hgb : b ≠ g := by rintro rfl; exact hR hg
      have hgb' : g ≠ b := by rintro rfl; exact hR hg
      clear hr hxe b1
      have ha : cnt < 16 := by omega
      go_wp2
      go_quiet (fail)
      go_wp2
      go_quiet (fail)
      go_wp2
      go_roundg (o + 1)
      case measure => exact q1
      case rel =>
        refine ⟨o, _, _, Nat.lt_succ_self o, Blk.cast (((((qb.drewN _).set 2 _).drewN _).set 4 _).set 4 _ |>.set 5 _) ?_, Hr1.out, (((((qk.drewN _).set (.inl rfl) _).drewN _).set (.inl rfl) _).set (.inl rfl) _).set (.inl rfl) _⟩
        simp only [rbCells, List.set_cons_succ, List.set_cons_zero, ← Hr2.out]
        rfl
    · go_wp2
      go_quiet (fail)
      go_wp2
      go_ret
      exact ⟨rfl, ⟨o, bits, cnt, qb.drewN _, qa⟩, qk.drewN _⟩

theorem rev_val {ds : List Nat} {start p o bits m n : Nat} (h : RevAt ds start p o bits (m + n)) (h0 : 8 * start + n ≤ p) :
    bits / 2 ^ m % 2 ^ n = num ds / 2 ^ (p - n) % 2 ^ n ∧ RevAt ds start (p - n) o bits m := by
  obtain ⟨h1, h2, h3, h4, h5, h6⟩ := h
  refine ⟨?_, ⟨by omega, h2, ?_, h4, h5, by omega⟩⟩
  · have e1 : bits % 2 ^ (m + n) / 2 ^ m = bits / 2 ^ m % 2 ^ n := by rw [mod_pow_div (by omega), Nat.add_sub_cancel_left]
    rw [← e1, h3, mod_pow_div (by omega), Nat.add_sub_cancel_left, div_pow_div, show 8 * o + m = p - n by omega]
  · have e2 := congrArg (· % 2 ^ m) h3
    simp only [mod_pow_mod (show m ≤ m + n by omega)] at e2
    exact e2

/-- A number of n bits. -/
theorem rval_ok (b rb : Nat) (A : Option Addr) (c : Nat) (ds : List Nat) (start p n : Nat) (w : World) (hb : Rev w b rb A c ds start p) (hs : Sl w R A (u8s ds)) (hR : ¬ R b)
    (hd : Bytes ds) (hlen : ds.length < 2 ^ 27) (hn : n ≤ 16) (hgo : 8 * start + n ≤ p) :
    Calls Tryd.prog 73 #[.pointer (some ⟨b, 0, none⟩), .int .u8 (n : Int)] w fun e w' => e = .returned (.tuple #[.int .u32 (num ds / 2 ^ (p - n) % 2 ^ n : Nat), .nilIface]) ∧
      Rev w' b rb A c ds start (p - n) ∧ Keep (· = b) w w' := by
  have hf := fetch_ok b rb A c ds start p n w hb hs hR hd hlen hn hgo
  have Hf := Lib.hid hf
  clear hf hb hs
  go_enter Tryd.func73, Tryd.ntmps73
  go_wp2_with fail
  refine Hf.out.mono ?_
  rintro e w1 ⟨rfl, ⟨o, bits, cnt, qb, qa, hc⟩, qk⟩
  obtain ⟨m, rfl⟩ : ∃ m, cnt = m + n := ⟨cnt - n, by omega⟩
  have hv := rev_val qa hgo
  have Hv := Lib.hid hv
  have b2 := qa.word
  have b5 := qa.cnt
  have c2 : w1.cell? ⟨b, 2, none⟩ = some (.int .u32 (o : Int)) := qb.cell 2
  have c4 : w1.cell? ⟨b, 4, none⟩ = some (.int .u32 (bits : Int)) := qb.cell 4
  have c5 : w1.cell? ⟨b, 5, none⟩ = some (.int .u32 ((m + n : Nat) : Int)) := qb.cell 5
  have f5 := qb.frozen 5
  clear hv qa
  go_wp2
  go_region
  go_wp2
  go_ret2
  have e1 : Go.bits .and .u32 ((bits : Int) / 2 ^ m) ((2 ^ n - 1) % 4294967296) = ((num ds / 2 ^ (p - n) % 2 ^ n : Nat) : Int) := by
    rw [cast_div_pow, u32_mask (Nat.lt_of_le_of_lt (Nat.div_le_self _ _) b2) (by omega), Hv.out.1]
  refine ⟨?_, ⟨o, bits, m, Blk.cast (qb.set 5 _).drew ?_, Hv.out.2⟩, (qk.set (.inl rfl) _).drew⟩
  · rw [← e1]; rfl
  · rfl

set_option maxHeartbeats 400000 in
/-- Not so many bits: an error. -/
theorem rval_bad {B : Nat} (b rb : Nat) (A : Option Addr) (c : Nat) (ds : List Nat) (start p n : Nat) (w : World) (hb : Rev w b rb A c ds start p) (hs : Sl w R A (u8s ds)) (hR : ¬ R b)
    (he : Errs B w) (hB : B ≤ b) (hr : RdOff w rb) (hrb : rb ≠ b)
    (hd : Bytes ds) (hlen : ds.length < 2 ^ 27) (hn : n ≤ 16) (h0 : 8 * start ≤ p) (hgo : p < 8 * start + n) :
    Calls Tryd.prog 73 #[.pointer (some ⟨b, 0, none⟩), .int .u8 (n : Int)] w fun e w' => ∃ v, IsErr v ∧ e = .returned (.tuple #[.int .u32 0, v]) ∧ Keep (· = b) w w' := by
  have hf := fetch_bad b rb A c ds start p n w hb hs hR hd hlen hn h0 hgo
  have Hf := Lib.hid hf
  clear hf hb hs
  go_enter Tryd.func73, Tryd.ntmps73
  go_wp2_with fail
  refine Hf.out.mono ?_
  rintro e w1 ⟨rfl, ⟨o, bits, cnt, qb, qa⟩, qk⟩
  have he' := he.keep qk (fun k hk => by rw [hk]; exact hB)
  have hr' := hr.keep qk hrb
  have b3 := qa.off
  have c0 : w1.cell? ⟨b, 0, none⟩ = some (.pointer (some ⟨rb, 0, none⟩)) := qb.cell 0
  have c2 : w1.cell? ⟨b, 2, none⟩ = some (.int .u32 (o : Int)) := qb.cell 2
  clear qa
  go_wp2
  go_region_held3 (fun w' => w'.cell? ⟨b, 0, none⟩ = some (.pointer (some ⟨rb, 0, none⟩)) ∧ w'.cell? ⟨b, 2, none⟩ = some (.int .u32 (o : Int))) (first | exact ⟨hk.cell c0 (fun h => h), hk.cell c2 (fun h => h)⟩ | go_keep)
    (first | (go_at_call 92; refine (makeEOFError (B := B) rb _ _ (he'.kept ((Keep.refl _ _).drewN _)) (hr'.kept ((Keep.refl _ _).drewN _))).mono ?_; rintro e w' ⟨v, hv, rfl, hk⟩))
  go_wp2
  go_ret2
  exact ⟨v, hv, rfl, (qk.drewN _).kept hk⟩

/-- The highest bit that is set. -/
theorem byte_top {x n : Nat} (h1 : 2 ^ n ≤ x) (h2 : x < 2 ^ (n + 1)) (h3 : x < 256) : Lib.bitLen x = n + 1 ∧ n ≤ 7 := by
  have hn : n ≤ 7 := by
    refine Classical.byContradiction fun h => ?_
    have := Nat.pow_le_pow_right (n := 2) (by decide) (show 8 ≤ n by omega)
    have h8 : (2 ^ 8 : Nat) = 256 := by decide
    omega
  refine ⟨?_, hn⟩
  have e := Lib.bitLen_shift n x h1 (by omega)
  have h4 : x / 2 ^ n = 1 := by
    have a1 : 1 ≤ x / 2 ^ n := (Nat.le_div_iff_mul_le (pow_pos' n)).2 (by omega)
    have a2 : x / 2 ^ n < 2 := (Nat.div_lt_iff_lt_mul (pow_pos' n)).2 (by rw [Nat.pow_succ] at h2; omega)
    omega
  rw [e, h4]; rfl

/-- A byte that is not 0 is mark: 2^n and what lies below. -/
theorem exists_top {x : Nat} (h : 0 < x) (h2 : x < 256) : ∃ n, 2 ^ n ≤ x ∧ x < 2 ^ (n + 1) ∧ n ≤ 7 := by
  refine ⟨Nat.log2 x, Nat.log2_self_le (by omega), Nat.lt_log2_self, ?_⟩
  have := (Nat.log2_lt (n := x) (k := 8) (by omega)).2 (by simpa using h2)
  omega

set_option maxHeartbeats 400000 in
theorem makeRev_ok (rb : Nat) (A : Option Addr) (c : Nat) (ds : List Nat) (off start n x : Nat) (w : World) (hs : Sl w R A (u8s ds)) (hd : Bytes ds) (hlen : ds.length < 2 ^ 27)
    (hx : ds[off]? = some x) (h1 : 2 ^ n ≤ x) (h2 : x < 2 ^ (n + 1)) (hst : start ≤ off) :
    Calls Tryd.prog 72 #[.pointer (some ⟨rb, 0, none⟩), .slice A ds.length c, .int .i64 (off : Int), .int .i64 (start : Int)] w fun e w' =>
      e = .returned (.tuple #[.agg #[.pointer (some ⟨rb, 0, none⟩), .slice A ds.length c, .int .u32 (off : Int), .int .u32 (start : Int), .int .u32 (x : Int), .int .u32 (n : Int)], .nilIface]) ∧ RevAt ds start (8 * off + n) off x n ∧ Kept w w' := by
  have ho := (List.getElem?_eq_some_iff.1 hx).1
  have hx2 : x < 256 := hd x (List.mem_of_getElem? hx)
  have ht := byte_top h1 h2 hx2
  have hpos := pow_pos' n
  have hr : RevAt ds start (8 * off + n) off x n := by
    refine ⟨rfl, by omega, ?_, hst, by omega, by omega⟩
    have e1 : ds.getD off 0 = x := by rw [List.getD_eq_getElem?_getD, hx]; rfl
    rw [← e1, ← num_byte hd off, show (256 : Nat) = 2 ^ 8 by decide, mod_pow_mod (by omega)]
  have Hr := Lib.hid hr
  have Ht := Lib.hid ht
  have Hx := Lib.hid hx
  have hn := ht.2
  clear hr ht hx
  obtain ⟨g, o, y, hR, rfl, hcy, hyk⟩ := hs.u8 (k := off) ho
  obtain rfl : x = y := Option.some.inj (Hx.out.symm.trans hyk.out)
  have hx0 : ((x : Int) == 0) = false := by rw [beq_eq_false_iff_ne]; omega
  clear h1 h2 hpos
  have hk0 : Kept w (w.alloc (.cells #[.pointer none, .slice none 0 0, .int .u32 0, .int .u32 0, .int .u32 0, .int .u32 0] 167)) := (Keep.refl _ _).alloc _
  have hcy' := hk0.cell hcy (fun h => h)
  go_enter Tryd.func72, Tryd.ntmps72
  go_wp2_with (go_at_call 94; refine (Tryd.bits_LeadingZeros8 (x : Int) _ (by omega) (by omega)).mono ?_; rintro e w1 ⟨rfl, rfl⟩; rw [Int.toNat_natCast, Ht.out.1])
  have en : (7 : Int) - (8 - ((n : Int) + 1)) = (n : Int) := by omega
  go_returns
  rw [en]
  exact ⟨rfl, Hr.out, ((Keep.refl _ _).alloc _).alloc _⟩

set_option maxHeartbeats 400000 in
theorem makeRev_bad {B : Nat} (rb : Nat) (A : Option Addr) (c : Nat) (ds : List Nat) (off start : Nat) (w : World) (hs : Sl w R A (u8s ds)) 
    (hx : ds[off]? = some 0) (he : Errs B w) (hr : RdOff w rb) :
    Calls Tryd.prog 72 #[.pointer (some ⟨rb, 0, none⟩), .slice A ds.length c, .int .i64 (off : Int), .int .i64 (start : Int)] w fun e w' =>
      ∃ v, IsErr v ∧ e = .returned (.tuple #[.agg #[.pointer none, .slice none 0 0, .int .u32 0, .int .u32 0, .int .u32 0, .int .u32 0], v]) ∧ Kept w w' := by
  have ho := (List.getElem?_eq_some_iff.1 hx).1
  have Hx := Lib.hid hx
  clear hx
  obtain ⟨g, o, y, hR, rfl, hcy, hyk⟩ := hs.u8 (k := off) ho
  obtain rfl : 0 = y := Option.some.inj (Hx.out.symm.trans hyk.out)
  have hk0 : Kept w (w.alloc (.cells #[.pointer none, .slice none 0 0, .int .u32 0, .int .u32 0, .int .u32 0, .int .u32 0] 167)) := (Keep.refl _ _).alloc _
  have hcy' := hk0.cell hcy (fun h => h)
  have he' := he.kept hk0
  have hr' := hr.kept hk0
  go_enter Tryd.func72, Tryd.ntmps72
  go_wp2_with (go_at_call 93; refine (makeError (B := B) rb _ _ _ he' hr').mono ?_; rintro e w1 ⟨v, hv, rfl, hk⟩; have nb := (Blk.new w 167 [.pointer none, .slice none 0 0, .int .u32 0, .int .u32 0, .int .u32 0, .int .u32 0]).kept hk; have d0 : w1.cell? ⟨w.heap.size, 0, none⟩ = some (.pointer none) := nb.cell 0; have d1 : w1.cell? ⟨w.heap.size, 1, none⟩ = some (.slice none 0 0) := nb.cell 1; have d2 : w1.cell? ⟨w.heap.size, 2, none⟩ = some (.int .u32 0) := nb.cell 2; have d3 : w1.cell? ⟨w.heap.size, 3, none⟩ = some (.int .u32 0) := nb.cell 3; have d4 : w1.cell? ⟨w.heap.size, 4, none⟩ = some (.int .u32 0) := nb.cell 4; have d5 : w1.cell? ⟨w.heap.size, 5, none⟩ = some (.int .u32 0) := nb.cell 5; have e0 := nb.frozen 0; have e1 := nb.frozen 1; have e2 := nb.frozen 2; have e3 := nb.frozen 3; have e4 := nb.frozen 4; have e5 := nb.frozen 5)
  try simp only [Exit.inBlock, Exit.then]
  refine bodyPost_ret (by simp [results, Tryd.results72, go_sem, d0, d1, d2, d3, d4, d5]; try rfl) rfl ?_
  refine ⟨v, hv, rfl, (((((((hk0.trans hk).set ?_ _).set ?_ _).set ?_ _).set ?_ _).set ?_ _).set ?_ _)⟩ <;> exact .inr (Nat.le_refl _)
end
end Go.Proofs.YtabaholflahepaaDoor
