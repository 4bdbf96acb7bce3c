/-
  Contracts of the forward bit reader: makeBitReader, moreBits, val, backup. Its state is told by two numbers: how many bits were consumed, how many bytes were begun.
-/
import Derived.Test.YtabaholflahepaaDoorErr
import Derived.Test.YtabaholflahepaaDoorNum
namespace Go.Proofs.YtabaholflahepaaDoor
open Go.RowKit

/-- The forward reader's cells: over the bytes ds (at A), behind 'pos' bits, with 'off' bytes begun. -/
def brCells (rb : Nat) (A : Option Addr) (c : Nat) (ds : List Nat) (pos off : Nat) : List Value :=
  [.pointer (some ⟨rb, 0, none⟩), .slice A ds.length c, .int .u32 (off : Int), .int .u32 ((num ds / 2 ^ pos % 2 ^ (8 * off - pos) : Nat) : Int), .int .u32 ((8 * off - pos : Nat) : Int)]

/-- The word of bits behind one byte more. -/
theorem br_refill {ds : List Nat} (h : Bytes ds) {pos off : Nat} (h1 : pos ≤ 8 * off) :
    num ds / 2 ^ pos % 2 ^ (8 * off - pos) + ds.getD off 0 * 2 ^ (8 * off - pos) = num ds / 2 ^ pos % 2 ^ (8 * (off + 1) - pos) := by
  rw [show 8 * (off + 1) - pos = (8 * off - pos) + 8 by omega, mod_pow_add, div_pow_div, show pos + (8 * off - pos) = 8 * off by omega, show (2 ^ 8 : Nat) = 256 by decide, num_byte h,
    Nat.mul_comm (2 ^ (8 * off - pos))]

theorem br_step {ds : List Nat} (hd : Bytes ds) {rb : Nat} {A : Option Addr} {c pos o cnt bits x : Nat} (h1 : pos ≤ 8 * o) (hlt : cnt < 16) (hc : cnt = 8 * o - pos)
    (hb : bits = num ds / 2 ^ pos % 2 ^ cnt) (hx : x = ds.getD o 0) :
    (((brCells rb A c ds pos o).set 2 (.int .u32 ((o : Int) + 1))).set 3 (.int .u32 (Go.bits .or .u32 (bits : Int) ((x : Int) * 2 ^ cnt % 4294967296)))).set 4 (.int .u32 ((cnt : Int) + 8)) =
      brCells rb A c ds pos (o + 1) := by
  have e1 := br_refill hd h1
  rw [← hc, ← hb, ← hx] at e1
  have hx2 : x < 256 := hx ▸ hd.getD o
  have hblt : bits < 2 ^ cnt := hb ▸ Nat.mod_lt _ (pow_pos' _)
  have e2 : x * 2 ^ cnt < 4294967296 := by
    have := pow_le_16 (n := cnt) (by omega)
    calc x * 2 ^ cnt ≤ 255 * 65536 := Nat.mul_le_mul (by omega) this
      _ < _ := by decide
  have e3 : (x : Int) * 2 ^ cnt % 4294967296 = (x : Int) * 2 ^ cnt := by rw [cast_mul_pow]; omega
  have e4 : (cnt : Int) + 8 = ((8 * (o + 1) - pos : Nat) : Int) := by omega
  have e5 : (o : Int) + 1 = ((o + 1 : Nat) : Int) := rfl
  rw [e3, u32_or_shift hblt e2 (by omega), e1, e4, e5]
  rfl

section
variable {B : Nat} {R : Nat → Prop}

set_option maxHeartbeats 400000 in
theorem moreBits_ok (b rb : Nat) (A : Option Addr) (c : Nat) (ds : List Nat) (pos off : Nat) (w : World) (hb : Blk w b 160 (brCells rb A c ds pos off)) (hs : Sl w R A (u8s ds)) (hR : ¬ R b)
    (hd : Bytes ds) (hlen : ds.length < 2 ^ 27) (h1 : pos ≤ 8 * off) (h2 : off ≤ ds.length) (h3 : 8 * off ≤ pos + 24) (hgo : pos + 16 ≤ 8 * ds.length) :
    Calls Tryd.prog 69 #[.pointer (some ⟨b, 0, none⟩)] w fun e w' => e = .returned .nilIface ∧
      ∃ off', pos + 16 ≤ 8 * off' ∧ off' ≤ ds.length ∧ 8 * off' ≤ pos + 24 ∧ off ≤ off' ∧ Blk w' b 160 (brCells rb A c ds pos off') ∧ Keep (· = b) w w' := by
  go_enter Tryd.func69, Tryd.ntmps69
  go_wp2
  go_loopg [] (ds.length + 1 - off) (fun k wr => ∃ o, ds.length - o < k ∧ off ≤ o ∧ pos ≤ 8 * o ∧ o ≤ ds.length ∧ 8 * o ≤ pos + 24 ∧ Blk wr b 160 (brCells rb A c ds pos o) ∧ Keep (· = b) w wr)
  case atStart => exact ⟨off, by omega, by omega, h1, h2, h3, hb, Keep.refl _ _⟩
  case round =>
    obtain ⟨o, q1, q2, q3, q4, q5, qb, qk⟩ := hrel
    have hs' := hs.keep qk (fun k _ hk => by rintro rfl; exact hR hk)
    obtain ⟨cnt, hc⟩ : ∃ cnt, cnt = 8 * o - pos := ⟨_, rfl⟩
    obtain ⟨bits, hbits⟩ : ∃ x, x = num ds / 2 ^ pos % 2 ^ cnt := ⟨_, rfl⟩
    have hblt : bits < 2 ^ cnt := hbits ▸ Nat.mod_lt _ (pow_pos' _)
    have c1 : wr.cell? ⟨b, 1, none⟩ = some (.slice A ds.length c) := qb.cell 1
    have c2 : wr.cell? ⟨b, 2, none⟩ = some (.int .u32 (o : Int)) := qb.cell 2
    have c3 : wr.cell? ⟨b, 3, none⟩ = some (.int .u32 (bits : Int)) := by rw [hbits, hc]; exact qb.cell 3
    have c4 : wr.cell? ⟨b, 4, none⟩ = some (.int .u32 (cnt : Int)) := by rw [hc]; exact qb.cell 4
    have f2 := qb.frozen 2
    have f3 := qb.frozen 3
    have f4 := qb.frozen 4
    by_cases hlt : cnt < 16
    · have ho : o < ds.length := by omega
      obtain ⟨g, go, hg, rfl, hcell⟩ := hs'.get (by simp; omega)
      have hx := hcell o _ (u8s_at ho)
      clear hcell
      have hx2 := hd.getD o
      obtain ⟨x, hxe⟩ : ∃ x, x = ds.getD o 0 := ⟨_, rfl⟩
      rw [← hxe] at hx hx2
      have hcnt : bits < 65536 := Nat.lt_of_lt_of_le hblt (pow_le_16 (by omega))
      have Hb := Lib.hid hbits; have Hc := Lib.hid hc; have Hx := Lib.hid hxe
      clear hbits hc hxe
      go_wp2
      go_quiet (fail)
      go_wp2
      go_quiet (fail)
      go_wp2
      go_region
      go_wp2
      go_roundg (ds.length - o)
      case measure => exact q1
      case rel =>
        refine ⟨o + 1, by omega, by omega, by omega, by omega, by have := Hc.out; omega, ?_, ?_⟩
        · refine Blk.cast ((((qb.drewN _).set 2 _).set 3 _).set 4 _).drew ?_
          exact br_step hd q3 hlt Hc.out Hb.out Hx.out
        · exact ((((qk.drewN _).set (.inl rfl) _).set (.inl rfl) _).set (.inl rfl) _).drew
    · go_wp2
      go_ret
      exact ⟨rfl, o, by omega, q4, q5, q2, qb, qk⟩

theorem br_val {ds : List Nat} {rb : Nat} {A : Option Addr} {c pos o n bits cnt : Nat} (hn : n ≤ cnt) (hc : cnt = 8 * o - pos) (hb : bits = num ds / 2 ^ pos % 2 ^ cnt) :
    ((brCells rb A c ds pos o).set 3 (.int .u32 ((bits : Int) / 2 ^ n))).set 4 (.int .u32 ((cnt : Int) - n)) = brCells rb A c ds (pos + n) o := by
  have e1 : bits / 2 ^ n = num ds / 2 ^ (pos + n) % 2 ^ (8 * o - (pos + n)) := by
    rw [hb, mod_pow_div hn, div_pow_div, show cnt - n = 8 * o - (pos + n) by omega]
  have e2 : (cnt : Int) - n = ((8 * o - (pos + n) : Nat) : Int) := by omega
  rw [cast_div_pow, e1, e2]
  rfl

/-- A number of n bits (as many as are at hand). -/
theorem val_any (b rb : Nat) (A : Option Addr) (c : Nat) (ds : List Nat) (pos off n : Nat) (w : World) (hb : Blk w b 160 (brCells rb A c ds pos off))
    (hn : n ≤ 16) (h1 : pos + n ≤ 8 * off) (h3 : 8 * off ≤ pos + 24) :
    Calls Tryd.prog 70 #[.pointer (some ⟨b, 0, none⟩), .int .u8 (n : Int)] w fun e w' => e = .returned (.int .u32 ((num ds / 2 ^ pos % 2 ^ n : Nat) : Int)) ∧
      Blk w' b 160 (brCells rb A c ds (pos + n) off) ∧ Keep (· = b) w w' := by
  obtain ⟨cnt, hc⟩ : ∃ cnt, cnt = 8 * off - pos := ⟨_, rfl⟩
  obtain ⟨bits, hbits⟩ : ∃ x, x = num ds / 2 ^ pos % 2 ^ cnt := ⟨_, rfl⟩
  have hblt : bits < 2 ^ cnt := hbits ▸ Nat.mod_lt _ (pow_pos' _)
  have hb32 : bits < 4294967296 := Nat.lt_of_lt_of_le hblt (Nat.le_trans (pow_le_31 (n := cnt) (by omega)) (by decide))
  have e1 : bits % 2 ^ n = num ds / 2 ^ pos % 2 ^ n := by rw [hbits, mod_pow_mod (by omega)]
  have e2 : Go.bits .and .u32 (bits : Int) ((2 ^ n - 1) % 4294967296) = ((num ds / 2 ^ pos % 2 ^ n : Nat) : Int) := by rw [u32_mask hb32 (by omega), e1]
  have e3 := br_val (rb := rb) (A := A) (c := c) (n := n) (by omega) hc hbits
  have c3 : w.cell? ⟨b, 3, none⟩ = some (.int .u32 (bits : Int)) := by rw [hbits, hc]; exact hb.cell 3
  have c4 : w.cell? ⟨b, 4, none⟩ = some (.int .u32 (cnt : Int)) := by rw [hc]; exact hb.cell 4
  have f3 := hb.frozen 3
  have f4 := hb.frozen 4
  have hle : n ≤ cnt := by omega
  have hcn : cnt ≤ 24 := by omega
  have E2 := Lib.hid e2; have E3 := Lib.hid e3
  clear e1 e2 e3 hc hbits
  go_enter Tryd.func70, Tryd.ntmps70
  go_wp2
  go_ret
  refine ⟨?_, Blk.cast ((hb.set 3 _).set 4 _) E3.out, ((Keep.refl (· = b) w).set (p := ⟨b, 3, none⟩) (.inl rfl) _).set (p := ⟨b, 4, none⟩) (.inl rfl) _⟩
  rw [← E2.out]; rfl

set_option maxHeartbeats 400000 in
/-- Not 16 bits more: an error. -/
theorem moreBits_err {B : Nat} (b rb : Nat) (A : Option Addr) (c : Nat) (ds : List Nat) (pos off : Nat) (w : World) (hb : Blk w b 160 (brCells rb A c ds pos off)) (hs : Sl w R A (u8s ds)) (hR : ¬ R b)
    (he : Errs B w) (hB : B ≤ b) (hr : RdOff w rb) (hrb : rb ≠ b)
    (hd : Bytes ds) (hlen : ds.length < 2 ^ 27) (h1 : pos ≤ 8 * off) (h2 : off ≤ ds.length) (h3 : 8 * off ≤ pos + 24) (hgo : 8 * ds.length < pos + 16) :
    Calls Tryd.prog 69 #[.pointer (some ⟨b, 0, none⟩)] w fun e w' => ∃ v, IsErr v ∧ e = .returned v ∧ Keep (· = b) w w' := by
  go_enter Tryd.func69, Tryd.ntmps69
  go_wp2
  go_loopg [] (ds.length + 1 - off) (fun k wr => ∃ o, ds.length - o < k ∧ off ≤ o ∧ pos ≤ 8 * o ∧ o ≤ ds.length ∧ 8 * o ≤ pos + 24 ∧ Blk wr b 160 (brCells rb A c ds pos o) ∧ Keep (· = b) w wr)
  case atStart => exact ⟨off, by omega, by omega, h1, h2, h3, hb, Keep.refl _ _⟩
  case round =>
    obtain ⟨o, q1, q2, q3, q4, q5, qb, qk⟩ := hrel
    have hs' := hs.keep qk (fun k _ hk => by rintro rfl; exact hR hk)
    have he' := he.keep qk (fun k hk => by rw [hk]; exact hB)
    have hr' := hr.keep qk hrb
    obtain ⟨cnt, hc⟩ : ∃ cnt, cnt = 8 * o - pos := ⟨_, rfl⟩
    obtain ⟨bits, hbits⟩ : ∃ x, x = num ds / 2 ^ pos % 2 ^ cnt := ⟨_, rfl⟩
    have hblt : bits < 2 ^ cnt := hbits ▸ Nat.mod_lt _ (pow_pos' _)
    have c0 : wr.cell? ⟨b, 0, none⟩ = some (.pointer (some ⟨rb, 0, none⟩)) := qb.cell 0
    have c1 : wr.cell? ⟨b, 1, none⟩ = some (.slice A ds.length c) := qb.cell 1
    have c2 : wr.cell? ⟨b, 2, none⟩ = some (.int .u32 (o : Int)) := qb.cell 2
    have c3 : wr.cell? ⟨b, 3, none⟩ = some (.int .u32 (bits : Int)) := by rw [hbits, hc]; exact qb.cell 3
    have c4 : wr.cell? ⟨b, 4, none⟩ = some (.int .u32 (cnt : Int)) := by rw [hc]; exact qb.cell 4
    have f2 := qb.frozen 2
    have f3 := qb.frozen 3
    have f4 := qb.frozen 4
    have hlt : cnt < 16 := by omega
    have hcnt : bits < 65536 := Nat.lt_of_lt_of_le hblt (pow_le_16 (by omega))
    by_cases ho : o < ds.length
    · obtain ⟨g, go, hg, rfl, hcell⟩ := hs'.get (by simp; omega)
      have hx := hcell o _ (u8s_at ho)
      clear hcell
      have hx2 := hd.getD o
      obtain ⟨x, hxe⟩ : ∃ x, x = ds.getD o 0 := ⟨_, rfl⟩
      rw [← hxe] at hx hx2
      have Hb := Lib.hid hbits; have Hc := Lib.hid hc; have Hx := Lib.hid hxe
      clear hbits hc hxe
      go_wp2
      go_quiet (fail)
      go_wp2
      go_quiet (fail)
      go_wp2
      go_region
      go_wp2
      go_roundg (ds.length - o)
      case measure => exact q1
      case rel =>
        refine ⟨o + 1, by omega, by omega, by omega, by omega, by have := Hc.out; omega, ?_, ?_⟩
        · refine Blk.cast ((((qb.drewN _).set 2 _).set 3 _).set 4 _).drew ?_
          exact br_step hd q3 hlt Hc.out Hb.out Hx.out
        · exact ((((qk.drewN _).set (.inl rfl) _).set (.inl rfl) _).set (.inl rfl) _).drew
    · have Hb := Lib.hid hbits; have Hc := Lib.hid hc
      clear hbits hc
      go_wp2
      go_quiet (fail)
      go_wp2
      go_region_held3 (fun w' => w'.cell? ⟨b, 0, none⟩ = some (.pointer (some ⟨rb, 0, none⟩)) ∧ w'.cell? ⟨b, 2, none⟩ = some (.int .u32 (o : Int))) (first | exact ⟨hk.cell c0 (fun h => h), hk.cell c2 (fun h => h)⟩ | go_keep)
        (first | (go_at_call 92; refine (makeEOFError (B := B) rb _ _ (he'.kept ((Keep.refl _ _).drewN _)) (hr'.kept ((Keep.refl _ _).drewN _))).mono ?_; rintro e w' ⟨v, hv, rfl, hk⟩))
      go_wp2
      go_ret
      exact ⟨v, hv, rfl, (qk.drewN _).kept hk⟩

/-- The bytes that were begun. -/
theorem backup_any (b rb : Nat) (A : Option Addr) (c : Nat) (ds : List Nat) (pos off : Nat) (w : World) (hb : Blk w b 160 (brCells rb A c ds pos off))
    (h0 : off < 2 ^ 27) (h1 : pos ≤ 8 * off) (h3 : 8 * off ≤ pos + 24) :
    Calls Tryd.prog 71 #[.pointer (some ⟨b, 0, none⟩)] w fun e w' => e = .returned (.tuple #[]) ∧
      (∃ v3 v4, Blk w' b 160 [.pointer (some ⟨rb, 0, none⟩), .slice A ds.length c, .int .u32 (((pos + 7) / 8 : Nat) : Int), v3, v4]) ∧ Keep (· = b) w w' := by
  go_enter Tryd.func71, Tryd.ntmps71
  go_wp2
  go_loopg [] (off + 1) (fun k wr => ∃ o v3, o < k ∧ pos ≤ 8 * o ∧ 8 * o ≤ pos + 24 ∧ Blk wr b 160 [.pointer (some ⟨rb, 0, none⟩), .slice A ds.length c, .int .u32 (o : Int), v3, .int .u32 ((8 * o - pos : Nat) : Int)] ∧ Keep (· = b) w wr)
  case atStart => exact ⟨off, _, by omega, h1, h3, hb, Keep.refl _ _⟩
  case round =>
    obtain ⟨o, v3, q1, q2, q3, qb, qk⟩ := hrel
    obtain ⟨cnt, hc⟩ : ∃ cnt, cnt = 8 * o - pos := ⟨_, rfl⟩
    have c2 : wr.cell? ⟨b, 2, none⟩ = some (.int .u32 (o : Int)) := qb.cell 2
    have c4 : wr.cell? ⟨b, 4, none⟩ = some (.int .u32 (cnt : Int)) := by rw [hc]; exact qb.cell 4
    have f2 := qb.frozen 2
    have f4 := qb.frozen 4
    have Hc := Lib.hid hc
    have hb1 : o ≤ 2 ^ 28 := by omega
    have hb2 : cnt ≤ 24 := by omega
    have hb3 : cnt ≤ 8 * o := by omega
    clear hc
    by_cases hlt : 8 ≤ cnt
    · go_wp2
      go_roundg o
      case measure => exact q1
      case rel =>
        refine ⟨o - 1, v3, by omega, by have := Hc.out; omega, by omega, Blk.cast ((qb.set 2 _).set 4 _) ?_, (qk.set (p := ⟨b, 2, none⟩) (.inl rfl) _).set (p := ⟨b, 4, none⟩) (.inl rfl) _⟩
        have e1 : (o : Int) - 1 = ((o - 1 : Nat) : Int) := by omega
        have e2 : (cnt : Int) - 8 = ((8 * (o - 1) - pos : Nat) : Int) := by have := Hc.out; omega
        rw [e1, e2]
        rfl
    · go_wp2
      go_end0
      have e1 : o = (pos + 7) / 8 := by have := Hc.out; omega
      exact ⟨rfl, ⟨_, _, e1 ▸ qb⟩, qk⟩
end
end Go.Proofs.YtabaholflahepaaDoor
