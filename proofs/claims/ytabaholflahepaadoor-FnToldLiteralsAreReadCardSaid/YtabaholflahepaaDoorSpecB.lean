/-
  Contracts of the reverse bit readers (Rev, SpecBack).
-/
import Derived.Test.YtabaholflahepaaDoorBits
import Derived.Test.YtabaholflahepaaDoorShelf
import Derived.Test.YtabaholflahepaaDoorSpecLow
namespace Go.Proofs.YtabaholflahepaaDoor
open Go.RowKit

section
def rbCells (rb : Nat) (A : Option Addr) (c : Nat) (len start off bits cnt : Nat) : List Value :=
  [.pointer (some ⟨rb, 0, none⟩), .slice A len c, .int .u32 (off : Int), .int .u32 (start : Int), .int .u32 (bits : Int), .int .u32 (cnt : Int)]

/-- What its numbers are. -/
structure RevAt (ds : List Nat) (start p off bits cnt : Nat) : Prop where
  pos : p = 8 * off + cnt
  word : bits < 4294967296
  low : bits % 2 ^ cnt = num ds / 2 ^ (8 * off) % 2 ^ cnt
  start : start ≤ off
  off : off ≤ ds.length
  cnt : cnt ≤ 23

/-- The reverse reader at b, with p bits below. -/
def Rev (w : World) (b rb : Nat) (A : Option Addr) (c : Nat) (ds : List Nat) (start p : Nat) : Prop :=
  ∃ off bits cnt, Blk w b 167 (rbCells rb A c ds.length start off bits cnt) ∧ RevAt ds start p off bits cnt

theorem Rev.keep {S : Nat → Prop} {w w' : World} {b rb : Nat} {A : Option Addr} {c : Nat} {ds : List Nat} {start p : Nat} (h : Rev w b rb A c ds start p) (hk : Keep S w w') (hn : ¬ S b) : Rev w' b rb A c ds start p := by
  obtain ⟨o, x, n, h1, h2⟩ := h
  exact ⟨o, x, n, h1.keep hk hn, h2⟩
theorem Rev.kept {w w' : World} {b rb : Nat} {A : Option Addr} {c : Nat} {ds : List Nat} {start p : Nat} (h : Rev w b rb A c ds start p) (hk : Kept w w') : Rev w' b rb A c ds start p := h.keep hk fun hf => hf

theorem byte_under (a x : Nat) (h : x < 256) : (a * 256 + x) % 2 ^ 8 = x ∧ (a * 256 + x) / 2 ^ 8 = a := by
  have hp8 : (2 ^ 8 : Nat) = 256 := by decide
  rw [hp8]; omega

theorem rev_refill {ds : List Nat} (hd : Bytes ds) {start p o bits cnt x : Nat} (h : RevAt ds start p o bits cnt) (hlt : cnt < 16) (ho : start < o) (hx : x = ds.getD (o - 1) 0) :
    RevAt ds start p (o - 1) (bits * 256 % 4294967296 + x) (cnt + 8) ∧ Go.bits .or .u32 ((bits * 256 % 4294967296 : Nat) : Int) (x : Int) = ((bits * 256 % 4294967296 + x : Nat) : Int) := by
  obtain ⟨h1, h2, h3, h4, h5, h6⟩ := h
  have hx2 : x < 256 := hx ▸ hd.getD _
  have e0 : bits * 256 % 4294967296 = bits % 16777216 * 256 := by omega
  have e1 : x ||| bits % 16777216 * 2 ^ 8 = x + bits % 16777216 * 2 ^ 8 := or_shift (by omega)
  refine ⟨⟨by omega, by omega, ?_, by omega, by omega, by omega⟩, ?_⟩
  · have a1 : (bits * 256 % 4294967296 + x) % 2 ^ (cnt + 8) = bits % 2 ^ cnt * 256 + x := by
      have hd1 : (2 ^ (cnt + 8) : Nat) ∣ 4294967296 := by
        rw [show (4294967296 : Nat) = 2 ^ 32 by decide]
        exact Nat.pow_dvd_pow 2 (by omega)
      rw [Nat.add_mod, Nat.mod_mod_of_dvd _ hd1, ← Nat.add_mod, Nat.add_comm cnt 8, mod_pow_add]
      rw [(byte_under bits x hx2).1, (byte_under bits x hx2).2, Nat.add_comm, Nat.mul_comm]
    rw [a1, h3]
    have a2 : num ds / 2 ^ (8 * (o - 1)) % 2 ^ (8 + cnt) = x + 256 * (num ds / 2 ^ (8 * o) % 2 ^ cnt) := by
      rw [mod_pow_add, div_pow_div, show 8 * (o - 1) + 8 = 8 * o by omega, show (2 ^ 8 : Nat) = 256 by decide, num_byte hd, ← hx]
    rw [Nat.add_comm cnt 8, a2]
    omega
  · rw [u32_or_nat _ _ (by omega) (by omega), Nat.or_comm, e0, e1]
    congr 1; omega

section
variable {R : Nat → Prop}

set_option maxHeartbeats 400000 in
/-- So many bits are there. -/
theorem fetch_ok (b rb : Nat) (A : Option Addr) (c : Nat) (ds : List Nat) (start p n : Nat) (w : World) (hb : Rev w b rb A c ds start p) (hs : Sl w R A (u8s ds)) (hR : ¬ R b)
    (hd : Bytes ds) (hlen : ds.length < 2 ^ 27) (hn : n ≤ 16) (hgo : 8 * start + n ≤ p) :
    Calls Tryd.prog 95 #[.pointer (some ⟨b, 0, none⟩), .int .u8 (n : Int)] w fun e w' => e = .returned (.bool true) ∧
      (∃ off bits cnt, Blk w' b 167 (rbCells rb A c ds.length start off bits cnt) ∧ RevAt ds start p off bits cnt ∧ n ≤ cnt) ∧ Keep (· = b) w w' := by
  go_enter Tryd.func95, Tryd.ntmps95
  go_wp2
  go_loopg [] (ds.length + 1) (fun k wr => ∃ o bits cnt, o < k ∧ Blk wr b 167 (rbCells rb A c ds.length start o bits cnt) ∧ Hid (RevAt ds start p o bits cnt) ∧ Keep (· = b) w wr)
  case atStart =>
    obtain ⟨o, x, m, h1, h2⟩ := hb
    exact ⟨o, x, m, by have := h2.off; omega, h1, h2, Keep.refl _ _⟩
  case round =>
    obtain ⟨o, bits, cnt, q1, qb, qa, qk⟩ := hrel
    have hs' := hs.keep qk (fun k _ hk => by rintro rfl; exact hR hk)
    have c1 : wr.cell? ⟨b, 1, none⟩ = some (.slice A ds.length c) := qb.cell 1
    have c2 : wr.cell? ⟨b, 2, none⟩ = some (.int .u32 (o : Int)) := qb.cell 2
    have c3 : wr.cell? ⟨b, 3, none⟩ = some (.int .u32 (start : Int)) := qb.cell 3
    have c4 : wr.cell? ⟨b, 4, none⟩ = some (.int .u32 (bits : Int)) := qb.cell 4
    have c5 : wr.cell? ⟨b, 5, none⟩ = some (.int .u32 (cnt : Int)) := qb.cell 5
    have f2 := qb.frozen 2
    have f4 := qb.frozen 4
    have f5 := qb.frozen 5
    have b1 := qa.out.pos
    have b2 := qa.out.word
    have b3 := qa.out.off
    have b4 := qa.out.start
    have b5 := qa.out.cnt
    have Hb1 := Lib.hid b1
    by_cases hlt : cnt < n
    · have ho : start < o := by omega
      obtain ⟨o, rfl⟩ : ∃ m, o = m + 1 := ⟨o - 1, by omega⟩
      obtain ⟨g, go, hg, rfl, hcell⟩ := hs'.get (by simp; omega)
      have hx := hcell o _ (u8s_at (by omega))
      clear hcell
      have hx2 := hd.getD o
      obtain ⟨x, hxe⟩ : ∃ x, x = ds.getD o 0 := ⟨_, rfl⟩
      rw [← hxe] at hx hx2
      have hr := rev_refill hd qa.out (by omega) ho hxe
      rw [Nat.add_sub_cancel] at hr
      have Hr1 := Lib.hid hr.1
      have Hr2 := Lib.hid hr.2
      have hgb : b ≠ g := by rintro rfl; exact hR hg
      have hgb' : g ≠ b := by rintro rfl; exact hR hg
      clear hr hxe b1
      have ha : cnt < 16 := by omega
      go_wp2
      go_quiet (fail)
      go_wp2
      go_quiet (fail)
      go_wp2
      go_roundg (o + 1)
      case measure => exact q1
      case rel =>
        refine ⟨o, _, _, Nat.lt_succ_self o, Blk.cast (((((qb.drewN _).set 2 _).drewN _).set 4 _).set 4 _ |>.set 5 _) ?_, Hr1.out, (((((qk.drewN _).set (.inl rfl) _).drewN _).set (.inl rfl) _).set (.inl rfl) _).set (.inl rfl) _⟩
        simp only [rbCells, List.set_cons_succ, List.set_cons_zero, ← Hr2.out]
        rfl
    · go_wp2
      go_ret
      exact ⟨rfl, ⟨o, bits, cnt, qb, qa, by omega⟩, qk⟩
set_option maxHeartbeats 400000 in
/-- Not so many bits are there. -/
theorem fetch_bad (b rb : Nat) (A : Option Addr) (c : Nat) (ds : List Nat) (start p n : Nat) (w : World) (hb : Rev w b rb A c ds start p) (hs : Sl w R A (u8s ds)) (hR : ¬ R b)
    (hd : Bytes ds) (hlen : ds.length < 2 ^ 27) (hn : n ≤ 16) (h0 : 8 * start ≤ p) (hgo : p < 8 * start + n) :
    Calls Tryd.prog 95 #[.pointer (some ⟨b, 0, none⟩), .int .u8 (n : Int)] w fun e w' => e = .returned (.bool false) ∧ Rev w' b rb A c ds start p ∧ Keep (· = b) w w' := by
  go_enter Tryd.func95, Tryd.ntmps95
  go_wp2
  go_loopg [] (ds.length + 1) (fun k wr => ∃ o bits cnt, o < k ∧ Blk wr b 167 (rbCells rb A c ds.length start o bits cnt) ∧ Hid (RevAt ds start p o bits cnt) ∧ Keep (· = b) w wr)
  case atStart =>
    obtain ⟨o, x, m, h1, h2⟩ := hb
    exact ⟨o, x, m, by have := h2.off; omega, h1, h2, Keep.refl _ _⟩
  case round =>
    obtain ⟨o, bits, cnt, q1, qb, qa, qk⟩ := hrel
    have hs' := hs.keep qk (fun k _ hk => by rintro rfl; exact hR hk)
    have c1 : wr.cell? ⟨b, 1, none⟩ = some (.slice A ds.length c) := qb.cell 1
    have c2 : wr.cell? ⟨b, 2, none⟩ = some (.int .u32 (o : Int)) := qb.cell 2
    have c3 : wr.cell? ⟨b, 3, none⟩ = some (.int .u32 (start : Int)) := qb.cell 3
    have c4 : wr.cell? ⟨b, 4, none⟩ = some (.int .u32 (bits : Int)) := qb.cell 4
    have c5 : wr.cell? ⟨b, 5, none⟩ = some (.int .u32 (cnt : Int)) := qb.cell 5
    have f2 := qb.frozen 2
    have f4 := qb.frozen 4
    have f5 := qb.frozen 5
    have b1 := qa.out.pos
    have b2 := qa.out.word
    have b3 := qa.out.off
    have b4 := qa.out.start
    have b5 := qa.out.cnt
    have Hb1 := Lib.hid b1
    have hlt : cnt < n := by omega
    by_cases ho : start < o
    · obtain ⟨o, rfl⟩ : ∃ m, o = m + 1 := ⟨o - 1, by omega⟩
      obtain ⟨g, go, hg, rfl, hcell⟩ := hs'.get (by simp; omega)
      have hx := hcell o _ (u8s_at (by omega))
      clear hcell
      have hx2 := hd.getD o
      obtain ⟨x, hxe⟩ : ∃ x, x = ds.getD o 0 := ⟨_, rfl⟩
      rw [← hxe] at hx hx2
      have hr := rev_refill hd qa.out (by omega) ho hxe
      rw [Nat.add_sub_cancel] at hr
      have Hr1 := Lib.hid hr.1
      have Hr2 := Lib.hid hr.2
      have hgb : b ≠ g := by rintro rfl; exact hR hg
      have hgb' : g ≠ b := by rintro rfl; exact hR hg
      clear hr hxe b1
      have ha : cnt < 16 := by omega
      go_wp2
      go_quiet (fail)
      go_wp2
      go_quiet (fail)
      go_wp2
      go_roundg (o + 1)
      case measure => exact q1
      case rel =>
        refine ⟨o, _, _, Nat.lt_succ_self o, Blk.cast (((((qb.drewN _).set 2 _).drewN _).set 4 _).set 4 _ |>.set 5 _) ?_, Hr1.out, (((((qk.drewN _).set (.inl rfl) _).drewN _).set (.inl rfl) _).set (.inl rfl) _).set (.inl rfl) _⟩
        simp only [rbCells, List.set_cons_succ, List.set_cons_zero, ← Hr2.out]
        rfl
    · go_wp2
      go_quiet (fail)
      go_wp2
      go_ret
      exact ⟨rfl, ⟨o, bits, cnt, qb.drewN _, qa⟩, qk.drewN _⟩

theorem rev_val {ds : List Nat} {start p o bits m n : Nat} (h : RevAt ds start p o bits (m + n)) (h0 : 8 * start + n ≤ p) :
    bits / 2 ^ m % 2 ^ n = num ds / 2 ^ (p - n) % 2 ^ n ∧ RevAt ds start (p - n) o bits m := by
  obtain ⟨h1, h2, h3, h4, h5, h6⟩ := h
  refine ⟨?_, ⟨by omega, h2, ?_, h4, h5, by omega⟩⟩
  · have e1 : bits % 2 ^ (m + n) / 2 ^ m = bits / 2 ^ m % 2 ^ n := by rw [mod_pow_div (by omega), Nat.add_sub_cancel_left]
    rw [← e1, h3, mod_pow_div (by omega), Nat.add_sub_cancel_left, div_pow_div, show 8 * o + m = p - n by omega]
  · have e2 := congrArg (· % 2 ^ m) h3
    simp only [mod_pow_mod (show m ≤ m + n by omega)] at e2
    exact e2

/-- A number of n bits. -/
theorem rval_ok (b rb : Nat) (A : Option Addr) (c : Nat) (ds : List Nat) (start p n : Nat) (w : World) (hb : Rev w b rb A c ds start p) (hs : Sl w R A (u8s ds)) (hR : ¬ R b)
    (hd : Bytes ds) (hlen : ds.length < 2 ^ 27) (hn : n ≤ 16) (hgo : 8 * start + n ≤ p) :
    Calls Tryd.prog 73 #[.pointer (some ⟨b, 0, none⟩), .int .u8 (n : Int)] w fun e w' => e = .returned (.tuple #[.int .u32 (num ds / 2 ^ (p - n) % 2 ^ n : Nat), .nilIface]) ∧
      Rev w' b rb A c ds start (p - n) ∧ Keep (· = b) w w' := by
  have hf := fetch_ok b rb A c ds start p n w hb hs hR hd hlen hn hgo
  have Hf := Lib.hid hf
  clear hf hb hs
  go_enter Tryd.func73, Tryd.ntmps73
  go_wp2_with fail
  refine Hf.out.mono ?_
  rintro e w1 ⟨rfl, ⟨o, bits, cnt, qb, qa, hc⟩, qk⟩
  obtain ⟨m, rfl⟩ : ∃ m, cnt = m + n := ⟨cnt - n, by omega⟩
  have hv := rev_val qa hgo
  have Hv := Lib.hid hv
  have b2 := qa.word
  have b5 := qa.cnt
  have c2 : w1.cell? ⟨b, 2, none⟩ = some (.int .u32 (o : Int)) := qb.cell 2
  have c4 : w1.cell? ⟨b, 4, none⟩ = some (.int .u32 (bits : Int)) := qb.cell 4
  have c5 : w1.cell? ⟨b, 5, none⟩ = some (.int .u32 ((m + n : Nat) : Int)) := qb.cell 5
  have f5 := qb.frozen 5
  clear hv qa
  go_wp2
  go_region
  go_wp2
  go_ret2
  have e1 : Go.bits .and .u32 ((bits : Int) / 2 ^ m) ((2 ^ n - 1) % 4294967296) = ((num ds / 2 ^ (p - n) % 2 ^ n : Nat) : Int) := by
    rw [cast_div_pow, u32_mask (Nat.lt_of_le_of_lt (Nat.div_le_self _ _) b2) (by omega), Hv.out.1]
  refine ⟨?_, ⟨o, bits, m, Blk.cast (qb.set 5 _).drew ?_, Hv.out.2⟩, (qk.set (.inl rfl) _).drew⟩
  · rw [← e1]; rfl
  · rfl

set_option maxHeartbeats 400000 in
/-- Not so many bits: an error. -/
theorem rval_bad {B : Nat} (b rb : Nat) (A : Option Addr) (c : Nat) (ds : List Nat) (start p n : Nat) (w : World) (hb : Rev w b rb A c ds start p) (hs : Sl w R A (u8s ds)) (hR : ¬ R b)
    (he : Errs B w) (hB : B ≤ b) (hr : RdOff w rb) (hrb : rb ≠ b)
    (hd : Bytes ds) (hlen : ds.length < 2 ^ 27) (hn : n ≤ 16) (h0 : 8 * start ≤ p) (hgo : p < 8 * start + n) :
    Calls Tryd.prog 73 #[.pointer (some ⟨b, 0, none⟩), .int .u8 (n : Int)] w fun e w' => ∃ v, IsErr v ∧ e = .returned (.tuple #[.int .u32 0, v]) ∧ Keep (· = b) w w' := by
  have hf := fetch_bad b rb A c ds start p n w hb hs hR hd hlen hn h0 hgo
  have Hf := Lib.hid hf
  clear hf hb hs
  go_enter Tryd.func73, Tryd.ntmps73
  go_wp2_with fail
  refine Hf.out.mono ?_
  rintro e w1 ⟨rfl, ⟨o, bits, cnt, qb, qa⟩, qk⟩
  have he' := he.keep qk (fun k hk => by rw [hk]; exact hB)
  have hr' := hr.keep qk hrb
  have b3 := qa.off
  have c0 : w1.cell? ⟨b, 0, none⟩ = some (.pointer (some ⟨rb, 0, none⟩)) := qb.cell 0
  have c2 : w1.cell? ⟨b, 2, none⟩ = some (.int .u32 (o : Int)) := qb.cell 2
  clear qa
  go_wp2
  go_region_held3 (fun w' => w'.cell? ⟨b, 0, none⟩ = some (.pointer (some ⟨rb, 0, none⟩)) ∧ w'.cell? ⟨b, 2, none⟩ = some (.int .u32 (o : Int))) (first | exact ⟨hk.cell c0 (fun h => h), hk.cell c2 (fun h => h)⟩ | go_keep)
    (first | (go_at_call 92; refine (makeEOFError (B := B) rb _ _ (he'.kept ((Keep.refl _ _).drewN _)) (hr'.kept ((Keep.refl _ _).drewN _))).mono ?_; rintro e w' ⟨v, hv, rfl, hk⟩))
  go_wp2
  go_ret2
  exact ⟨v, hv, rfl, (qk.drewN _).kept hk⟩

/-- The highest bit that is set. -/
theorem byte_top {x n : Nat} (h1 : 2 ^ n ≤ x) (h2 : x < 2 ^ (n + 1)) (h3 : x < 256) : Lib.bitLen x = n + 1 ∧ n ≤ 7 := by
  have hn : n ≤ 7 := by
    refine Classical.byContradiction fun h => ?_
    have := Nat.pow_le_pow_right (n := 2) (by decide) (show 8 ≤ n by omega)
    have h8 : (2 ^ 8 : Nat) = 256 := by decide
    omega
  refine ⟨?_, hn⟩
  have e := Lib.bitLen_shift n x h1 (by omega)
  have h4 : x / 2 ^ n = 1 := by
    have a1 : 1 ≤ x / 2 ^ n := (Nat.le_div_iff_mul_le (pow_pos' n)).2 (by omega)
    have a2 : x / 2 ^ n < 2 := (Nat.div_lt_iff_lt_mul (pow_pos' n)).2 (by rw [Nat.pow_succ] at h2; omega)
    omega
  rw [e, h4]; rfl

/-- A byte that is not 0 is mark: 2^n and what lies below. -/
theorem exists_top {x : Nat} (h : 0 < x) (h2 : x < 256) : ∃ n, 2 ^ n ≤ x ∧ x < 2 ^ (n + 1) ∧ n ≤ 7 := by
  refine ⟨Nat.log2 x, Nat.log2_self_le (by omega), Nat.lt_log2_self, ?_⟩
  have := (Nat.log2_lt (n := x) (k := 8) (by omega)).2 (by simpa using h2)
  omega

set_option maxHeartbeats 400000 in
theorem makeRev_ok (rb : Nat) (A : Option Addr) (c : Nat) (ds : List Nat) (off start n x : Nat) (w : World) (hs : Sl w R A (u8s ds)) (hd : Bytes ds) (hlen : ds.length < 2 ^ 27)
    (hx : ds[off]? = some x) (h1 : 2 ^ n ≤ x) (h2 : x < 2 ^ (n + 1)) (hst : start ≤ off) :
    Calls Tryd.prog 72 #[.pointer (some ⟨rb, 0, none⟩), .slice A ds.length c, .int .i64 (off : Int), .int .i64 (start : Int)] w fun e w' =>
      e = .returned (.tuple #[.agg #[.pointer (some ⟨rb, 0, none⟩), .slice A ds.length c, .int .u32 (off : Int), .int .u32 (start : Int), .int .u32 (x : Int), .int .u32 (n : Int)], .nilIface]) ∧ RevAt ds start (8 * off + n) off x n ∧ Kept w w' := by
  have ho := (List.getElem?_eq_some_iff.1 hx).1
  have hx2 : x < 256 := hd x (List.mem_of_getElem? hx)
  have ht := byte_top h1 h2 hx2
  have hpos := pow_pos' n
  have hr : RevAt ds start (8 * off + n) off x n := by
    refine ⟨rfl, by omega, ?_, hst, by omega, by omega⟩
    have e1 : ds.getD off 0 = x := by rw [List.getD_eq_getElem?_getD, hx]; rfl
    rw [← e1, ← num_byte hd off, show (256 : Nat) = 2 ^ 8 by decide, mod_pow_mod (by omega)]
  have Hr := Lib.hid hr
  have Ht := Lib.hid ht
  have Hx := Lib.hid hx
  have hn := ht.2
  clear hr ht hx
  obtain ⟨g, o, y, hR, rfl, hcy, hyk⟩ := hs.u8 (k := off) ho
  obtain rfl : x = y := Option.some.inj (Hx.out.symm.trans hyk.out)
  have hx0 : ((x : Int) == 0) = false := by rw [beq_eq_false_iff_ne]; omega
  clear h1 h2 hpos
  have hk0 : Kept w (w.alloc (.cells #[.pointer none, .slice none 0 0, .int .u32 0, .int .u32 0, .int .u32 0, .int .u32 0] 167)) := (Keep.refl _ _).alloc _
  have hcy' := hk0.cell hcy (fun h => h)
  go_enter Tryd.func72, Tryd.ntmps72
  go_wp2_with (go_at_call 94; refine (Tryd.bits_LeadingZeros8 (x : Int) _ (by omega) (by omega)).mono ?_; rintro e w1 ⟨rfl, rfl⟩; rw [Int.toNat_natCast, Ht.out.1])
  have en : (7 : Int) - (8 - ((n : Int) + 1)) = (n : Int) := by omega
  go_returns
  rw [en]
  exact ⟨rfl, Hr.out, ((Keep.refl _ _).alloc _).alloc _⟩

set_option maxHeartbeats 400000 in
theorem makeRev_bad {B : Nat} (rb : Nat) (A : Option Addr) (c : Nat) (ds : List Nat) (off start : Nat) (w : World) (hs : Sl w R A (u8s ds)) 
    (hx : ds[off]? = some 0) (he : Errs B w) (hr : RdOff w rb) :
    Calls Tryd.prog 72 #[.pointer (some ⟨rb, 0, none⟩), .slice A ds.length c, .int .i64 (off : Int), .int .i64 (start : Int)] w fun e w' =>
      ∃ v, IsErr v ∧ e = .returned (.tuple #[.agg #[.pointer none, .slice none 0 0, .int .u32 0, .int .u32 0, .int .u32 0, .int .u32 0], v]) ∧ Kept w w' := by
  have ho := (List.getElem?_eq_some_iff.1 hx).1
  have Hx := Lib.hid hx
  clear hx
  obtain ⟨g, o, y, hR, rfl, hcy, hyk⟩ := hs.u8 (k := off) ho
  obtain rfl : 0 = y := Option.some.inj (Hx.out.symm.trans hyk.out)
  have hk0 : Kept w (w.alloc (.cells #[.pointer none, .slice none 0 0, .int .u32 0, .int .u32 0, .int .u32 0, .int .u32 0] 167)) := (Keep.refl _ _).alloc _
  have hcy' := hk0.cell hcy (fun h => h)
  have he' := he.kept hk0
  have hr' := hr.kept hk0
  go_enter Tryd.func72, Tryd.ntmps72
  go_wp2_with (go_at_call 93; refine (makeError (B := B) rb _ _ _ he' hr').mono ?_; rintro e w1 ⟨v, hv, rfl, hk⟩; have nb := (Blk.new w 167 [.pointer none, .slice none 0 0, .int .u32 0, .int .u32 0, .int .u32 0, .int .u32 0]).kept hk; have d0 : w1.cell? ⟨w.heap.size, 0, none⟩ = some (.pointer none) := nb.cell 0; have d1 : w1.cell? ⟨w.heap.size, 1, none⟩ = some (.slice none 0 0) := nb.cell 1; have d2 : w1.cell? ⟨w.heap.size, 2, none⟩ = some (.int .u32 0) := nb.cell 2; have d3 : w1.cell? ⟨w.heap.size, 3, none⟩ = some (.int .u32 0) := nb.cell 3; have d4 : w1.cell? ⟨w.heap.size, 4, none⟩ = some (.int .u32 0) := nb.cell 4; have d5 : w1.cell? ⟨w.heap.size, 5, none⟩ = some (.int .u32 0) := nb.cell 5; have e0 := nb.frozen 0; have e1 := nb.frozen 1; have e2 := nb.frozen 2; have e3 := nb.frozen 3; have e4 := nb.frozen 4; have e5 := nb.frozen 5)
  try simp only [Exit.inBlock, Exit.then]
  refine bodyPost_ret (by simp [results, Tryd.results72, go_sem, d0, d1, d2, d3, d4, d5]; try rfl) rfl ?_
  refine ⟨v, hv, rfl, (((((((hk0.trans hk).set ?_ _).set ?_ _).set ?_ _).set ?_ _).set ?_ _).set ?_ _)⟩ <;> exact .inr (Nat.le_refl _)
end
end

section
/-- The bit at place p; there is none below 0. -/
def bitAt (N : Nat) (p : Int) : Nat := if 0 ≤ p then N / 2 ^ p.toNat % 2 else 0
/-- The number of the n bits below L, the first one as the highest. -/
def backVal (N : Nat) (L : Int) : Nat → Nat
  | 0 => 0
  | n + 1 => 2 * backVal N L n + bitAt N (L - n - 1)

theorem bitAt_lt (N : Nat) (p : Int) : bitAt N p < 2 := by unfold bitAt; split <;> omega
theorem backVal_lt (N : Nat) (L : Int) : ∀ n, backVal N L n < 2 ^ n
  | 0 => by simp [backVal]
  | n + 1 => by
    have := backVal_lt N L n
    have := bitAt_lt N (L - n - 1)
    rw [backVal, Nat.pow_succ]; omega
theorem backVal_in (N p : Nat) : ∀ n, n ≤ p → backVal N (p : Int) n = N / 2 ^ (p - n) % 2 ^ n
  | 0, _ => by simp [backVal, Nat.mod_one]
  | n + 1, h => by
    rw [backVal, backVal_in N p n (by omega), bitAt, if_pos (by omega), show ((p : Int) - n - 1).toNat = p - (n + 1) by omega]
    rw [show N / 2 ^ (p - n) = N / 2 ^ (p - (n + 1)) / 2 ^ 1 by rw [div_pow_div, show p - (n + 1) + 1 = p - n by omega]]
    rw [Nat.add_comm n 1, mod_pow_add, Nat.pow_one]
    omega

def bkCells (A : Option Addr) (c len : Nat) (L : Int) : List Value := [.slice A len c, .int .i64 L]

section
variable {R : Nat → Prop}

theorem backward_none (A : Option Addr) (c : Nat) (w : World) :
    Calls Tryd.prog 45 #[.slice A 0 c] w fun e w' => e = .returned (.tuple #[.pointer none, .bool false]) ∧ w = w' := by
  go_enter Tryd.func45, Tryd.ntmps45
  go_wp2
  go_ret2
  exact ⟨rfl, rfl⟩

theorem backward_zero (A : Option Addr) (c : Nat) (ds : List Nat) (w : World) (hs : Sl w R A (u8s ds)) (hx : ds[ds.length - 1]? = some 0) (hlen : ds.length < 2 ^ 40) :
    Calls Tryd.prog 45 #[.slice A ds.length c] w fun e w' => e = .returned (.tuple #[.pointer none, .bool false]) ∧ w = w' := by
  have ho := (List.getElem?_eq_some_iff.1 hx).1
  obtain ⟨l, hl⟩ : ∃ l, ds.length = l + 1 := ⟨ds.length - 1, by omega⟩
  rw [hl, Nat.add_sub_cancel] at hx
  have Hx := Lib.hid hx
  clear hx
  obtain ⟨g, o, y, hR, rfl, hcy, hyk⟩ := hs.u8 (k := l) (by omega)
  obtain rfl : 0 = y := Option.some.inj (Hx.out.symm.trans hyk.out)
  rw [hl] at hlen ⊢
  clear ho hl
  go_enter Tryd.func45, Tryd.ntmps45
  go_wp2
  go_ret2
  exact ⟨rfl, rfl⟩

theorem shr_top {x n k : Nat} (h1 : 2 ^ n ≤ x) (h2 : x < 2 ^ (n + 1)) : x / 2 ^ k = 0 ↔ n < k := by
  constructor
  · intro h
    refine Classical.byContradiction fun h' => ?_
    have : 2 ^ k ≤ 2 ^ n := Nat.pow_le_pow_right (by decide) (by omega)
    have h3 : 1 ≤ x / 2 ^ k := (Nat.le_div_iff_mul_le (pow_pos' k)).2 (by omega)
    omega
  · intro h
    have : 2 ^ (n + 1) ≤ 2 ^ k := Nat.pow_le_pow_right (by decide) (by omega)
    exact Nat.div_eq_of_lt (by omega)

theorem backward_ok (A : Option Addr) (c : Nat) (ds : List Nat) (x n : Nat) (w : World) (hs : Sl w R A (u8s ds)) (hx : ds[ds.length - 1]? = some x) (hlen : ds.length < 2 ^ 40)
    (h1 : 2 ^ n ≤ x) (h2 : x < 2 ^ (n + 1)) (h3 : x < 256) :
    Calls Tryd.prog 45 #[.slice A ds.length c] w fun e w' => e = .returned (.tuple #[.pointer (some ⟨w.heap.size, 0, none⟩), .bool true]) ∧ Blk w' w.heap.size 96 (bkCells A c ds.length (8 * (ds.length - 1 : Nat) + n : Nat)) ∧ Kept w w' := by
  have ho := (List.getElem?_eq_some_iff.1 hx).1
  have hn := (byte_top h1 h2 h3).2
  have h0 := pow_pos' n
  obtain ⟨l, hl⟩ : ∃ l, ds.length = l + 1 := ⟨ds.length - 1, by omega⟩
  rw [hl, Nat.add_sub_cancel] at hx
  have Hx := Lib.hid hx
  clear hx
  obtain ⟨g, o, y, hR, rfl, hcy, hyk⟩ := hs.u8 (k := l) (by omega)
  obtain rfl : x = y := Option.some.inj (Hx.out.symm.trans hyk.out)
  rw [hl] at hlen ⊢
  rw [Nat.add_sub_cancel]
  have hx0 : ((x : Int) == 0) = false := by rw [beq_eq_false_iff_ne]; omega
  have H1 := Lib.hid h1
  have H2 := Lib.hid h2
  clear ho hl h1 h2 h0
  go_enter Tryd.func45, Tryd.ntmps45
  go_wp2
  go_loopg [4] 9 (fun g i wr => ∃ k : Nat, k < g ∧ n ≤ k ∧ k ≤ 7 ∧ i = .int .i64 k ∧ w = wr)
  case atStart => exact ⟨7, by omega, by omega, by omega, rfl, rfl⟩
  case round =>
    obtain ⟨k, q1, q2, q3, rfl, rfl⟩ := hrel
    have hk := shr_top (k := k) H1.out H2.out
    by_cases hlt : n < k
    · have e1 : ((x : Int) / 2 ^ k == 0) = true := by rw [cast_div_pow, hk.2 hlt]; rfl
      clear hk
      go_wp2
      go_roundg k
      case measure => exact q1
      case rel => exact ⟨k - 1, by omega, by omega, by omega, by rw [show ((k - 1 : Nat) : Int) = (k : Int) - 1 by omega], rfl⟩
    · obtain rfl : n = k := by omega
      have e1 : ((x : Int) / 2 ^ n == 0) = false := by
        rw [cast_div_pow, beq_eq_false_iff_ne]
        intro h
        have := hk.1 (by omega)
        omega
      clear hk
      go_wp2
      go_ret2
      exact ⟨rfl, Blk.cast (Blk.new _ 96 _) rfl, (Keep.refl _ _).alloc _⟩

set_option maxHeartbeats 400000 in
theorem bkRead_any (b : Nat) (A : Option Addr) (c : Nat) (ds : List Nat) (L : Int) (n : Nat) (w : World) (hb : Blk w b 96 (bkCells A c ds.length L)) (hs : Sl w R A (u8s ds)) (hR : ¬ R b)
    (hd : Bytes ds) (hlen : ds.length < 2 ^ 40) (hn : n ≤ 31) (h1 : L ≤ 8 * ds.length) (h2 : -2 ^ 50 ≤ L) :
    Calls Tryd.prog 46 #[.pointer (some ⟨b, 0, none⟩), .int .i64 (n : Int)] w fun e w' => e = .returned (.int .i64 (backVal (num ds) L n : Nat)) ∧ Blk w' b 96 (bkCells A c ds.length (L - n)) ∧ Keep (· = b) w w' := by
  go_enter Tryd.func46, Tryd.ntmps46
  go_wp2
  go_loopg [5, 7] (n + 1) (fun g v i wr => ∃ k v' : Nat, n - k < g ∧ k ≤ n ∧ i = .int .i64 k ∧ v = .int .i64 v' ∧ Hid (v' = backVal (num ds) L k) ∧ Blk wr b 96 (bkCells A c ds.length (L - k)) ∧ Keep (· = b) w wr)
  case atStart => exact ⟨0, 0, by omega, by omega, rfl, rfl, rfl, Blk.cast hb (by simp), Keep.refl _ _⟩
  case round =>
    obtain ⟨k, v, q1, q2, rfl, rfl, q3, qb, qk⟩ := hrel
    have hv : v < 2 ^ k := q3.out ▸ backVal_lt _ _ _
    have hv2 : v < 2147483648 := Nat.lt_of_lt_of_le hv (pow_le_31 (by omega))
    have hs' := hs.keep qk (fun k _ hk => by rintro rfl; exact hR hk)
    have c0 : wr.cell? ⟨b, 0, none⟩ = some (.slice A ds.length c) := qb.cell 0
    have c1 : wr.cell? ⟨b, 1, none⟩ = some (.int .i64 (L - k)) := qb.cell 1
    have f1 := qb.frozen 1
    by_cases hlt : k < n
    · by_cases hin : 0 ≤ L - k - 1
      · obtain ⟨m, hm⟩ : ∃ m : Nat, L - k - 1 = m := ⟨(L - k - 1).toNat, by omega⟩
        obtain ⟨g, o, x, hR', rfl, hcx, hxk⟩ := hs'.u8 (k := m / 8) (by omega)
        have hx := hd x (List.mem_of_getElem? hxk.out)
        have hgb : b ≠ g := by rintro rfl; exact hR hR'
        have hgb' : g ≠ b := by rintro rfl; exact hR hR'
        have hbit : bitAt (num ds) (L - k - 1) = x / 2 ^ (m % 8) % 2 := by
          have e1 : ds.getD (m / 8) 0 = x := by rw [List.getD_eq_getElem?_getD, hxk.out]; rfl
          rw [bitAt, if_pos hin, hm, Int.toNat_natCast, num_bit hd, e1]
        have Hbit := Lib.hid hbit
        clear hbit
        have eb : Go.bits .and .u8 ((x : Int) / 2 ^ (m % 8)) 1 = ((x / 2 ^ (m % 8) % 2 : Nat) : Int) := by
          rw [cast_div_pow, show (1 : Int) = ((1 : Nat) : Int) from rfl, u8_and_nat _ _ (Nat.lt_of_le_of_lt (Nat.div_le_self _ _) hx) (by decide), nat_mask1]
        have Eb := Lib.hid eb
        clear eb
        go_wp2
        go_quiet (fail)
        go_wp2
        go_roundg (n - k)
        case measure => exact q1
        case rel =>
          refine ⟨k + 1, v * 2 + x / 2 ^ (m % 8) % 2, by omega, by omega, rfl, ?_, ?_, Blk.cast ((qb.set 1 _).drewN _) ?_, (qk.set (.inl rfl) _).drewN _⟩
          · rw [Eb.out, wrap64_nat (by omega), show (v : Int) * 2 + ((x / 2 ^ (m % 8) % 2 : Nat) : Int) = ((v * 2 + x / 2 ^ (m % 8) % 2 : Nat) : Int) by omega, wrap64_nat (by omega)]
          · show _ = 2 * _ + _
            rw [← q3.out, Hbit.out, Nat.mul_comm]
          · rw [show L - ((k + 1 : Nat) : Int) = (m : Int) by omega]; rfl
      · have hbit : bitAt (num ds) (L - k - 1) = 0 := by rw [bitAt, if_neg hin]
        have Hbit := Lib.hid hbit
        clear hbit
        go_wp2
        go_roundg (n - k)
        case measure => exact q1
        case rel =>
          refine ⟨k + 1, v * 2, by omega, by omega, rfl, rfl, ?_, Blk.cast (qb.set 1 _) ?_, qk.set (.inl rfl) _⟩
          · show _ = 2 * _ + _
            rw [← q3.out, Hbit.out, Nat.mul_comm]; rfl
          · rw [show L - ((k + 1 : Nat) : Int) = L - k - 1 by omega]; rfl
    · obtain rfl : k = n := by omega
      go_wp2
      go_ret
      exact ⟨by rw [← q3.out]; rfl, qb, qk⟩

/-- Numbers of so many bits, below L. -/
def backs (N : Nat) : Int → List Nat → List Nat
  | _, [] => []
  | L, n :: r => backVal N L n :: backs N (L - n) r
theorem backs_length (N : Nat) : ∀ (l : List Nat) (L : Int), (backs N L l).length = l.length
  | [], _ => rfl
  | _ :: r, L => by simp [backs, backs_length N r]
theorem backs_append (N : Nat) : ∀ (l r : List Nat) (L : Int), backs N L (l ++ r) = backs N L l ++ backs N (L - (l.sum : Nat)) r
  | [], r, L => by simp [backs]
  | n :: l, r, L => by simp [backs, backs_append N l, Int.sub_sub]
theorem backs_push {N : Nat} {L : Int} {ns : List Nat} {k n : Nat} (h : ns[k]? = some n) : backs N L (ns.take (k + 1)) = backs N L (ns.take k) ++ [backVal N (L - ((ns.take k).sum : Nat)) n] := by
  rw [take_push h, backs_append]; rfl
theorem backs_lt (N : Nat) : ∀ (ns : List Nat) (L : Int), (∀ n ∈ ns, n ≤ 16) → ∀ x ∈ backs N L ns, x < 2 ^ 32
  | [], _, _, x, hx => by simp [backs] at hx
  | n :: r, L, h, x, hx => by
    rcases List.mem_cons.1 hx with rfl | hx
    · exact Nat.lt_of_lt_of_le (backVal_lt _ _ n) (Nat.pow_le_pow_right (by decide) (by have := h n (List.mem_cons_self ..); omega))
    · exact backs_lt N r _ (fun y hy => h y (List.mem_cons_of_mem _ hy)) x hx

/-- No mark. -/
def NoMark (ds : List Nat) : Prop := ds = [] ∨ ds[ds.length - 1]? = some 0
/-- The mark of the last byte is its bit n. -/
structure Mark (ds : List Nat) (x n : Nat) : Prop where
  last : ds[ds.length - 1]? = some x
  low : 2 ^ n ≤ x
  high : x < 2 ^ (n + 1)
  byte : x < 256

theorem mark_or {ds : List Nat} (hd : Bytes ds) : NoMark ds ∨ ∃ x n, Mark ds x n := by
  cases h : ds[ds.length - 1]? with
  | none =>
    left; left
    have := List.getElem?_eq_none_iff.1 h
    exact List.eq_nil_of_length_eq_zero (by omega)
  | some x =>
    have hx := hd x (List.mem_of_getElem? h)
    by_cases h0 : x = 0
    · subst h0; exact .inl (.inr h)
    · obtain ⟨n, h1, h2, _⟩ := exists_top (Nat.pos_of_ne_zero h0) hx
      exact .inr ⟨x, n, h, h1, h2, hx⟩

theorem backward_no (A : Option Addr) (c : Nat) (ds : List Nat) (w : World) (hs : Sl w R A (u8s ds)) (h : NoMark ds) (hlen : ds.length < 2 ^ 40) :
    Calls Tryd.prog 45 #[.slice A ds.length c] w fun e w' => e = .returned (.tuple #[.pointer none, .bool false]) ∧ w = w' := by
  rcases h with rfl | h
  · exact backward_none A c w
  · exact backward_zero A c ds w hs h hlen

theorem specBack_no (A A' : Option Addr) (c c' : Nat) (ds ns : List Nat) (w : World) (hs : Sl w R A (u8s ds)) (h : NoMark ds) (hlen : ds.length < 2 ^ 40) :
    Calls Tryd.prog 21 #[.slice A ds.length c, .slice A' ns.length c'] w fun e w' => e = .returned (.tuple #[.slice none 0 0, .bool false]) ∧ w = w' := by
  have hb := backward_no A c ds w hs h hlen
  have Hb := Lib.hid hb
  clear hb h
  go_enter Tryd.func21, Tryd.ntmps21
  go_wp2_with (refine Hb.out.mono ?_; rintro e w1 ⟨rfl, rfl⟩)
  go_ret2
  exact ⟨rfl, rfl⟩

set_option maxHeartbeats 400000 in
theorem specBack_any {R' : Nat → Prop} (A A' : Option Addr) (c c' : Nat) (ds ns : List Nat) (x m : Nat) (w : World) (hs : Sl w (· < w.heap.size) A (u8s ds)) (hs' : Sl w R' A' (nats ns)) (hmk : Mark ds x m)
    (hd : Bytes ds) (hn : ∀ n ∈ ns, n ≤ 16) (hlen : ds.length < 2 ^ 40) (hlen' : ns.length < 2 ^ 31) :
    Calls Tryd.prog 21 #[.slice A ds.length c, .slice A' ns.length c'] w fun e w' => ∃ A2 c2, e = .returned (.tuple #[.slice A2 ns.length c2, .bool (decide (ns.sum ≤ 8 * (ds.length - 1 : Nat) + m))]) ∧
      w'.ownsRow w.heap.size 3 1 (.slice A2 ns.length c2) ns.length (nats (backs (num ds) ((8 * (ds.length - 1 : Nat) + m : Nat) : Int) ns)) ∧ Kept w w' := by
  obtain ⟨h1, h2, h3, h4⟩ := hmk
  have hm := (byte_top h2 h3 h4).2
  have ho := (List.getElem?_eq_some_iff.1 h1).1
  have hb := backward_ok A c ds x m w hs h1 hlen h2 h3 h4
  obtain ⟨L, hL⟩ : ∃ L : Nat, L = 8 * (ds.length - 1 : Nat) + m := ⟨_, rfl⟩
  rw [← hL] at hb ⊢
  have Hb := Lib.hid hb
  clear hb h1 h2 h3 h4
  have hL2 : L ≤ 8 * ds.length := by omega
  have hsum : ∀ k, (ns.take k).sum ≤ 16 * ns.length := fun k => Nat.le_trans (sum_take_le ns k) (by
    clear hs' hlen'
    induction ns with
    | nil => simp
    | cons n r ih =>
      have h1 := hn n (List.mem_cons_self ..)
      have h2 := ih fun y hy => hn y (List.mem_cons_of_mem _ hy)
      simp only [List.sum_cons, List.length_cons]
      omega)
  have Hsum := Lib.hid hsum
  clear hL hsum
  go_enter Tryd.func21, Tryd.ntmps21
  go_wp2_with (refine Hb.out.mono ?_; rintro e w1 ⟨rfl, qb0, qk0⟩)
  go_loopg [8, 20] (ns.length + 1) (fun g v i wr => ∃ k A2 c2, ns.length - k < g ∧ k ≤ ns.length ∧ i = .int .i64 k ∧ v = .slice A2 k c2 ∧ wr.ownsRow w.heap.size 3 1 (.slice A2 k c2) k (nats (backs (num ds) L (ns.take k))) ∧
    Blk wr w.heap.size 96 (bkCells A c ds.length ((L : Int) - ((ns.take k).sum : Nat))) ∧ Kept w wr)
  case atStart => exact ⟨0, _, _, by omega, by omega, rfl, rfl, by simpa [nats, backs] using World.ownsRow_nil _ _ _ _, Blk.cast qb0 (by simp), qk0⟩
  case round =>
    obtain ⟨k, A2, c2, q1, q2, rfl, rfl, qo, qb, qk⟩ := hrel
    have hsk := Hsum.out k
    by_cases hlt : k < ns.length
    · obtain ⟨g, o, n, hR, rfl, hcx, hxk⟩ := (hs'.kept qk).nat hlt
      have hn1 := hn n (List.mem_of_getElem? hxk.out)
      have hs2 := hs.kept qk
      have hne := own_ne qo qb (by decide)
      go_wp2_with (first
        | (go_at_call 46; refine (bkRead_any w.heap.size A c ds _ n _ qb hs2 (by simp) hd hlen (by omega) (by omega) (by omega)).mono ?_; rintro e w1 ⟨rfl, hb1, hk1⟩; have qk1 := qk.then hk1 (fun k hk h => by subst h; omega); have qo1 := own_keep qo hk1 (fun g hg h => hne (h ▸ hg)))
        | (at_builtin; refine wpList_push rfl _ _ rfl el23 qk1 A2 k c2 _ rfl qo1 [.int .i64 (backVal (num ds) ((L : Int) - ((ns.take k).sum : Nat)) n : Nat)] rfl rfl (by simp [Value.oneCell']) (by omega) ?_; intro A3 c3 w3 hown3 hk3 hg3))
      go_roundg (ns.length - k)
      case measure => exact q1
      case rel =>
        refine ⟨k + 1, A3, c3, by omega, by omega, rfl, rfl, ?_, ?_, hk3⟩
        · rw [backs_push hxk.out, nats, List.map_append]; exact hown3
        · rw [sum_push hxk.out]
          refine Blk.cast (blk_grown hb1 hg3 (own_ne qo1 hb1 (by decide))) ?_
          rw [show (L : Int) - (((ns.take k).sum + n : Nat) : Int) = (L : Int) - ((ns.take k).sum : Nat) - n by omega]
    · obtain rfl : k = ns.length := by omega
      rw [List.take_length] at qo qb
      have c1 : wr.cell? ⟨w.heap.size, 1, none⟩ = some (.int .i64 ((L : Int) - ((ns.sum : Nat) : Int))) := qb.cell 1
      go_wp2
      go_quiet (fail)
      go_wp2
      go_ret2
      exact ⟨A2, c2, rfl, qo, qk.drewN _⟩
end
end
end Go.Proofs.YtabaholflahepaaDoor
