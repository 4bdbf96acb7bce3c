/-
  Contracts of the reverse bit reader where it begins at or below its start: what it holds is all there is.
-/
import Derived.Test.YtabaholflahepaaDoorRev
namespace Go.Proofs.YtabaholflahepaaDoor
open Go.RowKit

section
variable {B : Nat} {R : Nat → Prop}

set_option maxHeartbeats 400000 in
theorem fetch_short (b rb : Nat) (A : Option Addr) (c len start off bits cnt n : Nat) (w : World) (hb : Blk w b 167 (rbCells rb A c len start off bits cnt)) (hle : off ≤ start) (_hst : start < 4294967296) (_hbits : bits < 4294967296) (_hc : cnt ≤ 23) (hn : n ≤ 16) :
    Calls Tryd.prog 95 #[.pointer (some ⟨b, 0, none⟩), .int .u8 (n : Int)] w fun e w' => e = .returned (.bool (decide (n ≤ cnt))) ∧ Kept w w' := by
  have c1 : w.cell? ⟨b, 1, none⟩ = some (.slice A len c) := hb.cell 1
  have c2 : w.cell? ⟨b, 2, none⟩ = some (.int .u32 (off : Int)) := hb.cell 2
  have c3 : w.cell? ⟨b, 3, none⟩ = some (.int .u32 (start : Int)) := hb.cell 3
  have c4 : w.cell? ⟨b, 4, none⟩ = some (.int .u32 (bits : Int)) := hb.cell 4
  have c5 : w.cell? ⟨b, 5, none⟩ = some (.int .u32 (cnt : Int)) := hb.cell 5
  go_enter Tryd.func95, Tryd.ntmps95
  go_wp2
  go_loopg [] 1 (fun k wr => 0 < k ∧ w = wr)
  case atStart => exact ⟨by omega, rfl⟩
  case round =>
    obtain ⟨q1, rfl⟩ := hrel
    by_cases hlt : cnt < n
    · have hd : decide (n ≤ cnt) = false := decide_eq_false (by omega)
      have Hd := Lib.hid hd
      clear hd
      go_wp2
      go_quiet (fail)
      go_wp2
      go_ret
      exact ⟨by rw [Hd.out]; rfl, (Keep.refl _ _).drewN _⟩
    · have hd : decide (n ≤ cnt) = true := decide_eq_true (by omega)
      have Hd := Lib.hid hd
      clear hd
      go_wp2
      go_ret
      exact ⟨by rw [Hd.out]; rfl, Keep.refl _ _⟩

/-- So many bits are held. -/
theorem rval_short (b rb : Nat) (A : Option Addr) (c len start off bits cnt n : Nat) (w : World) (hb : Blk w b 167 (rbCells rb A c len start off bits cnt)) (hle : off ≤ start) (hst : start < 4294967296) (hbits : bits < 4294967296) (hc : cnt ≤ 23) (hn : n ≤ 16) (hgo : n ≤ cnt) :
    Calls Tryd.prog 73 #[.pointer (some ⟨b, 0, none⟩), .int .u8 (n : Int)] w fun e w' => ∃ x : Int, e = .returned (.tuple #[.int .u32 x, .nilIface]) ∧
      Blk w' b 167 (rbCells rb A c len start off bits (cnt - n)) ∧ Keep (· = b) w w' := by
  have hf := fetch_short b rb A c len start off bits cnt n w hb hle hst hbits hc hn
  rw [decide_eq_true hgo] at hf
  have Hf := Lib.hid hf
  clear hf
  go_enter Tryd.func73, Tryd.ntmps73
  go_wp2_with fail
  refine Hf.out.mono ?_
  rintro e w1 ⟨rfl, hk⟩
  have qb := hb.kept hk
  obtain ⟨m, rfl⟩ : ∃ m, cnt = m + n := ⟨cnt - n, by omega⟩
  have c2 : w1.cell? ⟨b, 2, none⟩ = some (.int .u32 (off : Int)) := qb.cell 2
  have c4 : w1.cell? ⟨b, 4, none⟩ = some (.int .u32 (bits : Int)) := qb.cell 4
  have c5 : w1.cell? ⟨b, 5, none⟩ = some (.int .u32 ((m + n : Nat) : Int)) := qb.cell 5
  have f5 := qb.frozen 5
  clear hb
  go_wp2
  go_region
  go_wp2
  go_ret2
  refine ⟨_, rfl, Blk.cast (qb.set 5 _).drew ?_, (((hk.any (· = b)).set (.inl rfl) _).drew)⟩
  rw [Nat.add_sub_cancel]
  rfl

set_option maxHeartbeats 400000 in
/-- Not so many bits are held: an error. -/
theorem rval_short_bad (b rb : Nat) (A : Option Addr) (c len start off bits cnt n : Nat) (w : World) (hb : Blk w b 167 (rbCells rb A c len start off bits cnt)) (hle : off ≤ start) (hst : start < 4294967296) (hbits : bits < 4294967296) (hc : cnt ≤ 23) (hn : n ≤ 16) (hgo : cnt < n)
    (he : Errs B w) (hr : RdOff w rb) :
    Calls Tryd.prog 73 #[.pointer (some ⟨b, 0, none⟩), .int .u8 (n : Int)] w fun e w' => ∃ v, IsErr v ∧ e = .returned (.tuple #[.int .u32 0, v]) ∧ Kept w w' := by
  have hf := fetch_short b rb A c len start off bits cnt n w hb hle hst hbits hc hn
  rw [decide_eq_false (by omega)] at hf
  have Hf := Lib.hid hf
  clear hf
  go_enter Tryd.func73, Tryd.ntmps73
  go_wp2_with fail
  refine Hf.out.mono ?_
  rintro e w1 ⟨rfl, hk0⟩
  have qb := hb.kept hk0
  have he' := he.kept hk0
  have hr' := hr.kept hk0
  have c0 : w1.cell? ⟨b, 0, none⟩ = some (.pointer (some ⟨rb, 0, none⟩)) := qb.cell 0
  have c2 : w1.cell? ⟨b, 2, none⟩ = some (.int .u32 (off : Int)) := qb.cell 2
  clear hb
  go_wp2
  go_region_held3 (fun w' => w'.cell? ⟨b, 0, none⟩ = some (.pointer (some ⟨rb, 0, none⟩)) ∧ w'.cell? ⟨b, 2, none⟩ = some (.int .u32 (off : Int))) (first | exact ⟨hk.cell c0 (fun h => h), hk.cell c2 (fun h => h)⟩ | go_keep)
    (first | (go_at_call 92; refine (makeEOFError (B := B) rb _ _ (he'.kept ((Keep.refl _ _).drewN _)) (hr'.kept ((Keep.refl _ _).drewN _))).mono ?_; rintro e w' ⟨v, hv, rfl, hk⟩))
  go_wp2
  go_ret2
  exact ⟨v, hv, rfl, (hk0.drewN _).kept hk⟩
/-- Whether so many bits are there. -/
theorem fetch_any (b rb : Nat) (A : Option Addr) (c : Nat) (ds : List Nat) (start p n : Nat) (w : World) (hb : Rev w b rb A c ds start p) (hs : Sl w R A (u8s ds)) (hR : ¬ R b)
    (hd : Bytes ds) (hlen : ds.length < 2 ^ 27) (hn : n ≤ 16) (h0 : 8 * start ≤ p) :
    Calls Tryd.prog 95 #[.pointer (some ⟨b, 0, none⟩), .int .u8 (n : Int)] w fun e w' => e = .returned (.bool (decide (8 * start + n ≤ p))) ∧ Rev w' b rb A c ds start p ∧ Keep (· = b) w w' := by
  by_cases hgo : 8 * start + n ≤ p
  · refine (fetch_ok b rb A c ds start p n w hb hs hR hd hlen hn hgo).mono ?_
    rintro e w' ⟨he, ⟨off, bits, cnt, h1, h2, _⟩, hk⟩
    exact ⟨by rw [he, decide_eq_true hgo], ⟨off, bits, cnt, h1, h2⟩, hk⟩
  · refine (fetch_bad b rb A c ds start p n w hb hs hR hd hlen hn h0 (by omega)).mono ?_
    rintro e w' ⟨he, hr, hk⟩
    exact ⟨by rw [he, decide_eq_false hgo], hr, hk⟩

theorem rbrError (b rb : Nat) (A : Option Addr) (c : Nat) (ds : List Nat) (start p : Nat) (s : ByteArray) (w : World) (hb : Rev w b rb A c ds start p) (he : Errs B w) (hr : RdOff w rb) (hlen : ds.length < 2 ^ 27) :
    Calls Tryd.prog 102 #[.pointer (some ⟨b, 0, none⟩), .string s] w (ErrPost w) := by
  obtain ⟨off, bits, cnt, hb, ha⟩ := hb
  have c0 : w.cell? ⟨b, 0, none⟩ = some (.pointer (some ⟨rb, 0, none⟩)) := hb.cell 0
  have c2 : w.cell? ⟨b, 2, none⟩ = some (.int .u32 (off : Int)) := hb.cell 2
  have ho2 : off ≤ 134217728 := by have := ha.off; omega
  clear hb ha
  go_enter Tryd.func102, Tryd.ntmps102
  go_wp2
  go_region_held3 (fun w' => w'.cell? ⟨b, 0, none⟩ = some (.pointer (some ⟨rb, 0, none⟩)) ∧ w'.cell? ⟨b, 2, none⟩ = some (.int .u32 (off : Int))) (first | exact ⟨hk.cell c0 (fun h => h), hk.cell c2 (fun h => h)⟩ | go_keep)
    (first | (go_at_call 93; refine (makeError (B := B) rb _ _ _ (he.kept ((Keep.refl _ _).drewN _)) (hr.kept ((Keep.refl _ _).drewN _))).mono ?_; rintro e w' ⟨v, hv, rfl, hk⟩))
  go_wp2
  go_ret
  exact ⟨v, hv, rfl, ((Keep.refl _ _).drewN _).kept hk⟩

set_option maxHeartbeats 400000 in
/-- The reader that begins at a byte that is not 0, wherever its start lies. -/
theorem makeRev_cells (rb : Nat) (A : Option Addr) (c : Nat) (ds : List Nat) (off start n x : Nat) (w : World) (hs : Sl w R A (u8s ds)) (hd : Bytes ds) (hlen : ds.length < 2 ^ 27)
    (hx : ds[off]? = some x) (h1 : 2 ^ n ≤ x) (h2 : x < 2 ^ (n + 1)) (hst : start < 2 ^ 27) :
    Calls Tryd.prog 72 #[.pointer (some ⟨rb, 0, none⟩), .slice A ds.length c, .int .i64 (off : Int), .int .i64 (start : Int)] w fun e w' =>
      e = .returned (.tuple #[.agg #[.pointer (some ⟨rb, 0, none⟩), .slice A ds.length c, .int .u32 (off : Int), .int .u32 (start : Int), .int .u32 (x : Int), .int .u32 (n : Int)], .nilIface]) ∧ n ≤ 7 ∧ Kept w w' := by
  have ho := (List.getElem?_eq_some_iff.1 hx).1
  have hx2 : x < 256 := hd x (List.mem_of_getElem? hx)
  have ht := byte_top h1 h2 hx2
  have hpos := pow_pos' n
  have Ht := Lib.hid ht
  have Hx := Lib.hid hx
  have hn := ht.2
  clear ht hx
  obtain ⟨g, o, y, hR, rfl, hcy, hyk⟩ := hs.u8 (k := off) ho
  obtain rfl : x = y := Option.some.inj (Hx.out.symm.trans hyk.out)
  have hx0 : ((x : Int) == 0) = false := by rw [beq_eq_false_iff_ne]; omega
  have hst2 : start < 134217728 := by omega
  clear h1 h2 hpos hst
  have hk0 : Kept w (w.alloc (.cells #[.pointer none, .slice none 0 0, .int .u32 0, .int .u32 0, .int .u32 0, .int .u32 0] 167)) := (Keep.refl _ _).alloc _
  have hcy' := hk0.cell hcy (fun h => h)
  go_enter Tryd.func72, Tryd.ntmps72
  go_wp2_with (go_at_call 94; refine (Tryd.bits_LeadingZeros8 (x : Int) _ (by omega) (by omega)).mono ?_; rintro e w1 ⟨rfl, rfl⟩; rw [Int.toNat_natCast, Ht.out.1])
  have en : (7 : Int) - (8 - ((n : Int) + 1)) = (n : Int) := by omega
  go_returns
  rw [en]
  exact ⟨rfl, hn, ((Keep.refl _ _).alloc _).alloc _⟩
end
end Go.Proofs.YtabaholflahepaaDoor
