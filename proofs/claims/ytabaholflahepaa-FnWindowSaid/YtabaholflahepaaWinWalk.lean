/-
  Contracts of the window: reset, len, save, appendTo.
-/
import Derived.Test.YtabaholflahepaaWin
import Derived.Deep.RegionLaw
namespace Go.Proofs.Ytabaholflahepaa
open Go.RowKit

def winCells (S g n off : Nat) : List Value := [.int .i64 S, .slice (some ⟨g, 0, none⟩) n S, .int .i64 off]

/-- The window at b, its ring at g, holds T. -/
def Win (w : World) (b g S : Nat) (T : List Nat) : Prop := ∃ cs n off, Blk w b 63 (winCells S g n off) ∧ Blk w g 5 (u8s cs) ∧ WinAt S cs n off T

theorem Win.kept {w w' : World} {b g S : Nat} {T : List Nat} (h : Win w b g S T) (hk : Kept w w') : Win w' b g S T := by
  obtain ⟨cs, n, off, h1, h2, h3⟩ := h
  exact ⟨cs, n, off, h1.kept hk, h2.kept hk, h3⟩

set_option maxHeartbeats 2000000 in
theorem winReset (b S : Nat) (w : World) (hb : Blk w b 63 [.int .i64 0, .slice none 0 0, .int .i64 0]) (hS : 1 ≤ S) (hS2 : S ≤ 1048576) :
    Calls Try.prog 27 #[.pointer (some ⟨b, 0, none⟩), .int .i64 S] w fun e w' => e = .returned (.tuple #[]) ∧ Win w' b w.heap.size S [] ∧ Keep (· = b) w w' := by
  have c0 : w.cell? ⟨b, 0, none⟩ = some (.int .i64 0) := hb.cell 0
  have c1 : w.cell? ⟨b, 1, none⟩ = some (.slice none 0 0) := hb.cell 1
  have c2 : w.cell? ⟨b, 2, none⟩ = some (.int .i64 0) := hb.cell 2
  have f0 := hb.frozen 0
  have f1 := hb.frozen 1
  have f2 := hb.frozen 2
  go_enter Try.func27, Try.ntmps27
  go_wp2_with (at_make; refine wpList_make rfl _ _ rfl el25 .i64 .i64 0 S rfl rfl (by omega) (by omega) ?_; intro w1 hk1 hg1; have hb1 := hb.kept hk1; have d0 : w1.cell? ⟨b, 0, none⟩ = some (.int .i64 0) := hb1.cell 0; have d1 : w1.cell? ⟨b, 1, none⟩ = some (.slice none 0 0) := hb1.cell 1; have d2 : w1.cell? ⟨b, 2, none⟩ = some (.int .i64 0) := hb1.cell 2; have e0 := hb1.frozen 0; have e1 := hb1.frozen 1; have e2 := hb1.frozen 2)
  go_end0
  have hne : b ≠ w.heap.size := Nat.ne_of_lt hb.lt
  refine ⟨rfl, ⟨List.replicate S 0, 0, 0, Blk.cast (((hb1.set 1 _).set 2 _).set 0 _) rfl, ?_, WinAt.start S⟩, (((hk1.any (· = b)).set (p := ⟨b, 1, none⟩) (.inl rfl) _).set (p := ⟨b, 2, none⟩) (.inl rfl) _).set (p := ⟨b, 0, none⟩) (.inl rfl) _⟩
  have e : (madeCells (Value.int .u8 0).cells (S * 1)).toList = u8s (List.replicate S 0) := by
    rw [Nat.mul_one, made_list _ rfl]; simp [u8s]
  exact ((((Blk.cast hg1 e).far (Ne.symm hne) _).far (Ne.symm hne) _).far (Ne.symm hne) _)

/-- len. -/
theorem winLen (b g S : Nat) (T : List Nat) (w : World) (h : Win w b g S T) (hS2 : S ≤ 1048576) :
    Calls Try.prog 29 #[.pointer (some ⟨b, 0, none⟩)] w fun e w' => e = .returned (.int .u32 (T.length : Nat)) ∧ w = w' := by
  obtain ⟨cs, n, off, hb, _, ha⟩ := h
  have c1 : w.cell? ⟨b, 1, none⟩ = some (.slice (some ⟨g, 0, none⟩) n S) := hb.cell 1
  have h1 := ha.length
  have h2 := ha.used
  clear ha
  rw [h1]
  clear h1
  go_enter Try.func29, Try.ntmps29
  go_wp2
  go_ret
  exact ⟨rfl, rfl⟩

/-- What a window's call writes. -/
def WinSet (b g k : Nat) : Prop := k = b ∨ k = g

set_option maxHeartbeats 1000000 in
theorem winSave_full {R : Nat → Prop} (b g S : Nat) (T buf : List Nat) (A : Option Addr) (c : Nat) (w : World) (h : Win w b g S T) (hS : 1 ≤ S) (hS2 : S ≤ 1048576)
    (hs : Sl w R A (u8s buf)) (hl : buf.length ≤ 1048576) (hc : buf.length ≤ c) (hbig : S ≤ buf.length) :
    Calls Try.prog 28 #[.pointer (some ⟨b, 0, none⟩), .slice A buf.length c] w fun e w' => e = .returned (.tuple #[]) ∧ Win w' b g S (lastOf S (T ++ buf)) ∧ Keep (WinSet b g) w w' := by
  obtain ⟨cs, n, off, hb, hg, ha⟩ := h
  have hfull := ha.full hbig
  have hcl := ha.len
  have hn := ha.used
  have Hfull := Lib.hid hfull
  clear ha hfull
  obtain ⟨len, hlen⟩ : ∃ len, len = buf.length := ⟨_, rfl⟩
  obtain ⟨fr, hfr⟩ : ∃ fr, len = S + fr := ⟨len - S, by omega⟩
  rw [← hlen] at hl hc hbig ⊢
  obtain ⟨ga, oa, hRa, rfl, hcell⟩ := hs.get (by simp; omega)
  have hsl : Sl w R (some ⟨ga, oa + fr, none⟩) (u8s (buf.drop fr)) := by
    have := hs.drop fr (some ⟨ga, oa + fr, none⟩) (fun _ g o h => by
      simp only [Option.some.injEq, Addr.mk.injEq] at h
      obtain ⟨rfl, rfl, _⟩ := h
      rfl)
    simpa [u8s] using this
  have hnl : (u8s (buf.drop fr)).length = S := by simp; omega
  have hcl2 : (u8s cs).length = S := by simp [hcl]
  have hne : b ≠ g := hb.ne hg (by decide)
  have e0 : buf.length - S = fr := by omega
  rw [e0] at Hfull
  have Hlen := Lib.hid hlen
  have Hcell := Lib.hid hcell
  have Hnl := Lib.hid hnl
  clear hcell hnl e0 hlen hs
  have hcf : ¬ c = fr := by omega
  have c0 : w.cell? ⟨b, 0, none⟩ = some (.int .i64 S) := hb.cell 0
  have c1 : w.cell? ⟨b, 1, none⟩ = some (.slice (some ⟨g, 0, none⟩) n S) := hb.cell 1
  have c2 : w.cell? ⟨b, 2, none⟩ = some (.int .i64 off) := hb.cell 2
  obtain ⟨K, hK⟩ : ∃ K, K = u8s cs := ⟨_, rfl⟩
  obtain ⟨V, hV⟩ : ∃ V, V = u8s (buf.drop fr) := ⟨_, rfl⟩
  rw [← hK] at hg hcl2
  rw [← hV] at hsl Hnl
  have HK := Lib.hid hK
  have HV := Lib.hid hV
  have h1V : ∀ u ∈ V, u.oneCell' = true := by rw [hV]; exact u8s_one _
  have H1V := Lib.hid h1V
  clear hK hV h1V hcl
  have hsub : (len : Int) - (S : Int) = (fr : Int) := by omega
  have hsub2 : len - fr = S := by omega
  have hfl : fr ≤ len := by omega
  have Hfr := Lib.hid hfr
  clear hfr
  go_enter Try.func28, Try.ntmps28
  go_wp2
  go_region_law (refine step_put rfl _ _ rfl el25 0 S rfl hg S V _ rfl (src_sl Try.underlying25 hsl.drew S _ (by rw [Hnl.out, Nat.mul_one]) H1V.out) (by omega) (by omega) ?_; intro w2 hg2 hk2; have qb := hb.drew.keep hk2 hne; have d0 : w2.cell? ⟨b, 0, none⟩ = some (.int .i64 S) := qb.cell 0; have d1 : w2.cell? ⟨b, 1, none⟩ = some (.slice (some ⟨g, 0, none⟩) n S) := qb.cell 1; have d2 : w2.cell? ⟨b, 2, none⟩ = some (.int .i64 off) := qb.cell 2; have e0 := qb.frozen 0; have e1 := qb.frozen 1; have e2 := qb.frozen 2)
  go_wp2
  go_returns
  have hg3 : Blk w2 g 5 (u8s (splice cs 0 (buf.drop fr))) := by rw [u8s_splice, ← HK.out, ← HV.out]; exact hg2
  refine ⟨rfl, ⟨_, S, 0, Blk.cast ((qb.set 1 _).set 2 _) rfl, (hg3.far (Ne.symm hne) _).far (Ne.symm hne) _, Hfull.out⟩, ?_⟩
  exact ((((Keep.refl (WinSet b g) w).drew.then hk2 (fun k _ h => .inr h)).set (p := ⟨b, 1, none⟩) (.inl (.inl rfl)) _).set (p := ⟨b, 2, none⟩) (.inl (.inl rfl)) _)

theorem winSave_none (b g S : Nat) (T : List Nat) (A : Option Addr) (c : Nat) (w : World) (h : Win w b g S T) (hS : 1 ≤ S) (hS2 : S ≤ 1048576) :
    Calls Try.prog 28 #[.pointer (some ⟨b, 0, none⟩), .slice A 0 c] w fun e w' => e = .returned (.tuple #[]) ∧ Win w' b g S (lastOf S (T ++ [])) ∧ Keep (WinSet b g) w w' := by
  obtain ⟨cs, n, off, hb, hg, ha⟩ := h
  have c0 : w.cell? ⟨b, 0, none⟩ = some (.int .i64 S) := hb.cell 0
  have e := ha.none
  have E := Lib.hid e
  have Ha := Lib.hid ha
  clear e ha
  go_enter Try.func28, Try.ntmps28
  go_wp2
  go_returns
  rw [E.out]
  exact ⟨rfl, ⟨cs, n, off, hb, hg, Ha.out⟩, Keep.refl _ _⟩

set_option maxHeartbeats 1000000 in
theorem winSave_room {R : Nat → Prop} (b g S : Nat) (T buf : List Nat) (A : Option Addr) (c : Nat) (w : World) (cs : List Nat) (n off : Nat) (hb : Blk w b 63 (winCells S g n off)) (hg : Blk w g 5 (u8s cs)) (ha : WinAt S cs n off T) (hS2 : S ≤ 1048576)
    (hs : Sl w R A (u8s buf)) (h0 : 0 < buf.length) (hf : n < S) (hl : buf.length ≤ S - n) (hlS : buf.length < S) :
    Calls Try.prog 28 #[.pointer (some ⟨b, 0, none⟩), .slice A buf.length c] w fun e w' => e = .returned (.tuple #[]) ∧ Win w' b g S (lastOf S (T ++ buf)) ∧ Keep (WinSet b g) w w' := by
  have hroom := ha.room hf hl
  have hcl := ha.len
  have hoff := ha.flat hf
  have Hroom := Lib.hid hroom
  clear ha hroom
  obtain ⟨len, hlen⟩ : ∃ len, len = buf.length := ⟨_, rfl⟩
  have hcl2 : (u8s cs).length = S := by simp [hcl]
  have hne : b ≠ g := hb.ne hg (by decide)
  have c0 : w.cell? ⟨b, 0, none⟩ = some (.int .i64 S) := hb.cell 0
  have c1 : w.cell? ⟨b, 1, none⟩ = some (.slice (some ⟨g, 0, none⟩) n S) := hb.cell 1
  have c2 : w.cell? ⟨b, 2, none⟩ = some (.int .i64 off) := hb.cell 2
  have f0 := hb.frozen 0
  have f1 := hb.frozen 1
  have f2 := hb.frozen 2
  rw [← hlen] at hl Hroom hlS h0 ⊢
  obtain ⟨K, hK⟩ : ∃ K, K = u8s cs := ⟨_, rfl⟩
  obtain ⟨V, hV⟩ : ∃ V, V = u8s buf := ⟨_, rfl⟩
  have hnl : V.length = len := by rw [hV, hlen]; simp
  rw [← hK] at hg hcl2
  rw [← hV] at hs
  have h1V : ∀ u ∈ V, u.oneCell' = true := by rw [hV]; exact u8s_one _
  have HK := Lib.hid hK
  have HV := Lib.hid hV
  have Hlen := Lib.hid hlen
  have Hnl := Lib.hid hnl
  have H1V := Lib.hid h1V
  clear hK hV h1V hcl hlen hnl
  go_enter Try.func28, Try.ntmps28
  go_wp2
  go_quiet (fail)
  go_wp2_with (at_builtin; refine wpList_put rfl _ _ rfl el25 n S rfl hg len V _ rfl (src_sl Try.underlying25 (hs.drewN _) len c (by rw [Hnl.out, Nat.mul_one]) H1V.out) (by omega) (by omega) ?_; intro w2 hg2 hk2; have qb := (hb.drewN _).keep hk2 hne; have d0 : w2.cell? ⟨b, 0, none⟩ = some (.int .i64 S) := qb.cell 0; have d1 : w2.cell? ⟨b, 1, none⟩ = some (.slice (some ⟨g, 0, none⟩) n S) := qb.cell 1; have e1 := qb.frozen 1)
  go_end0
  have hg3 : Blk w2 g 5 (u8s (splice cs n buf)) := by rw [u8s_splice, ← HK.out, ← HV.out]; exact hg2
  refine ⟨rfl, ⟨_, n + len, 0, Blk.cast (qb.set 1 _) (by rw [hoff]; rfl), hg3.far (Ne.symm hne) _, Hroom.out⟩, ?_⟩
  exact (((Keep.refl (WinSet b g) w).drewN _).then hk2 (fun k _ h => .inr h)).set (p := ⟨b, 1, none⟩) (.inl (.inl rfl)) _

/-- The ring is full and what is saved ends in front of its end. -/
theorem winSave_turn {R : Nat → Prop} (b g S : Nat) (T buf : List Nat) (A : Option Addr) (c : Nat) (w : World) (cs : List Nat) (off : Nat) (hb : Blk w b 63 (winCells S g S off)) (hg : Blk w g 5 (u8s cs)) (ha : WinAt S cs S off T) (hS2 : S ≤ 1048576)
    (hs : Sl w R A (u8s buf)) (h0 : 0 < buf.length) (hl : off + buf.length ≤ S) (hlS : buf.length < S) :
    Calls Try.prog 28 #[.pointer (some ⟨b, 0, none⟩), .slice A buf.length c] w fun e w' => e = .returned (.tuple #[]) ∧ Win w' b g S (lastOf S (T ++ buf)) ∧ Keep (WinSet b g) w w' := by
  have hturn := ha.turn hl
  have hcl := ha.len
  have Hturn := Lib.hid hturn
  clear ha hturn
  obtain ⟨len, hlen⟩ : ∃ len, len = buf.length := ⟨_, rfl⟩
  have hcl2 : (u8s cs).length = S := by simp [hcl]
  have hne : b ≠ g := hb.ne hg (by decide)
  have c0 : w.cell? ⟨b, 0, none⟩ = some (.int .i64 S) := hb.cell 0
  have c1 : w.cell? ⟨b, 1, none⟩ = some (.slice (some ⟨g, 0, none⟩) S S) := hb.cell 1
  have c2 : w.cell? ⟨b, 2, none⟩ = some (.int .i64 off) := hb.cell 2
  have f0 := hb.frozen 0
  have f1 := hb.frozen 1
  have f2 := hb.frozen 2
  rw [← hlen] at hl Hturn hlS h0 ⊢
  obtain ⟨K, hK⟩ : ∃ K, K = u8s cs := ⟨_, rfl⟩
  obtain ⟨V, hV⟩ : ∃ V, V = u8s buf := ⟨_, rfl⟩
  have hnl : V.length = len := by rw [hV, hlen]; simp
  rw [← hK] at hg hcl2
  rw [← hV] at hs
  have h1V : ∀ u ∈ V, u.oneCell' = true := by rw [hV]; exact u8s_one _
  have HK := Lib.hid hK
  have HV := Lib.hid hV
  have Hlen := Lib.hid hlen
  have Hnl := Lib.hid hnl
  have H1V := Lib.hid h1V
  clear hK hV h1V hcl hlen hnl
  have hso : ¬ S = off := by omega
  have hos : off ≤ S := by omega
  go_enter Try.func28, Try.ntmps28
  go_wp2
  go_quiet (fail)
  go_wp2
  go_region_law (refine step_copy rfl _ _ rfl el25 (some ⟨g, off, none⟩) A (S - off) (S - off) len c off len rfl rfl hg V (hs.drewN _).drew (Nat.min_eq_left (by omega)).symm Hnl.out (fun _ => rfl) (by omega) H1V.out ?_; intro w2 hg2 hk2; have qb := (hb.drewN _).drew.keep hk2 hne; have d0 : w2.cell? ⟨b, 0, none⟩ = some (.int .i64 S) := qb.cell 0; have d1 : w2.cell? ⟨b, 1, none⟩ = some (.slice (some ⟨g, 0, none⟩) S S) := qb.cell 1; have d2 : w2.cell? ⟨b, 2, none⟩ = some (.int .i64 off) := qb.cell 2; have e0 := qb.frozen 0; have e1 := qb.frozen 1; have e2 := qb.frozen 2)
  all_goals
    go_wp2
    go_returns
    have hg3 : Blk w2 g 5 (u8s (splice cs off buf)) := by
      rw [List.take_of_length_le (Nat.le_of_eq Hnl.out), HK.out, HV.out, ← u8s_splice] at hg2
      exact hg2
    refine ⟨rfl, ⟨_, S, off + len, Blk.cast (qb.set 2 _) rfl, hg3.far (Ne.symm hne) _, Hturn.out⟩, ?_⟩
    exact (((Keep.refl (WinSet b g) w).drewN _).then hk2 (fun k _ h => .inr h)).set (p := ⟨b, 2, none⟩) (.inl (.inl rfl)) _

set_option maxHeartbeats 1000000 in
/-- The ring is full and what is saved goes over its end. -/
theorem winSave_over {R : Nat → Prop} (b g S : Nat) (T buf : List Nat) (A : Option Addr) (c : Nat) (w : World) (cs : List Nat) (off : Nat) (hb : Blk w b 63 (winCells S g S off)) (hg : Blk w g 5 (u8s cs)) (ha : WinAt S cs S off T)
    (hs : Sl w R A (u8s buf)) (h0 : 0 < buf.length) (hl : S < off + buf.length) (hlS : buf.length < S) (hc : buf.length ≤ c) (hR : ∀ k, R k → k ≠ b ∧ k ≠ g) :
    Calls Try.prog 28 #[.pointer (some ⟨b, 0, none⟩), .slice A buf.length c] w fun e w' => e = .returned (.tuple #[]) ∧ Win w' b g S (lastOf S (T ++ buf)) ∧ Keep (WinSet b g) w w' := by
  have hover := ha.over hl hlS
  have hcl := ha.len
  have hos := ha.within
  have Hover := Lib.hid hover
  clear ha hover
  obtain ⟨len, hlen⟩ : ∃ len, len = buf.length := ⟨_, rfl⟩
  have hcl2 : (u8s cs).length = S := by simp [hcl]
  have hne : b ≠ g := hb.ne hg (by decide)
  have c0 : w.cell? ⟨b, 0, none⟩ = some (.int .i64 S) := hb.cell 0
  have c1 : w.cell? ⟨b, 1, none⟩ = some (.slice (some ⟨g, 0, none⟩) S S) := hb.cell 1
  have c2 : w.cell? ⟨b, 2, none⟩ = some (.int .i64 off) := hb.cell 2
  have f0 := hb.frozen 0
  have f1 := hb.frozen 1
  have f2 := hb.frozen 2
  rw [← hlen] at hl Hover hlS h0 hc ⊢
  obtain ⟨K, hK⟩ : ∃ K, K = u8s cs := ⟨_, rfl⟩
  obtain ⟨V, hV⟩ : ∃ V, V = u8s buf := ⟨_, rfl⟩
  have hnl : V.length = len := by rw [hV, hlen]; simp
  rw [← hK] at hg hcl2
  rw [← hV] at hs
  have h1V : ∀ u ∈ V, u.oneCell' = true := by rw [hV]; exact u8s_one _
  have HK := Lib.hid hK
  have HV := Lib.hid hV
  have Hlen := Lib.hid hlen
  have Hnl := Lib.hid hnl
  have H1V := Lib.hid h1V
  clear hK hV h1V hcl hlen hnl
  obtain ⟨k, hk⟩ : ∃ k, k = S - off := ⟨_, rfl⟩
  rw [← hk] at Hover
  have hkl : k < len := by omega
  have hk1 : S - off = k := hk.symm
  obtain ⟨D, hD⟩ : ∃ D : Option Addr, (if S = off then some (⟨g, 0, none⟩ : Addr) else some ⟨g, off, none⟩) = D := ⟨_, rfl⟩
  have hDk : 0 < k → D = some ⟨g, off, none⟩ := fun h => by rw [← hD, if_neg (by omega)]
  have HDk := Lib.hid hDk
  obtain ⟨X, hX⟩ : ∃ X, X = V.drop k := ⟨_, rfl⟩
  have hXl : X.length = len - k := by rw [hX, List.length_drop, Hnl.out]
  have hX1 : ∀ u ∈ X, u.oneCell' = true := fun u hu => H1V.out u (List.mem_of_mem_drop (hX ▸ hu))
  obtain ⟨ga, oa, _, rfl, hcell⟩ := hs.get (by have := Hnl.out; omega)
  have hsX : Sl w R (some ⟨ga, oa + k, none⟩) X := by
    rw [hX]
    exact hs.drop k (some ⟨ga, oa + k, none⟩) (fun _ g o h => by
      simp only [Option.some.injEq, Addr.mk.injEq] at h
      obtain ⟨rfl, rfl, _⟩ := h
      rfl)
  have HX := Lib.hid hX
  have HXl := Lib.hid hXl
  have HX1 := Lib.hid hX1
  have Hcell := Lib.hid hcell
  have Hk := Lib.hid hk
  have hcS : off + k = S := by omega
  have HcS := Lib.hid hcS
  have hck : ¬ c = k := by omega
  have hkl2 : k ≤ len := by omega
  have hne2 : ((k : Int) == (len : Int)) = false := by rw [beq_eq_false_iff_ne]; omega
  have hmin : k = Nat.min len k := (Nat.min_eq_right hkl2).symm
  have Hmin := Lib.hid hmin
  have hRg : ∀ k, k < w.heap.size → R k → ¬ k = g := fun k _ h => (hR k h).2
  clear hX hXl hX1 hcell hk hcS hDk hmin
  go_enter Try.func28, Try.ntmps28
  go_wp2
  go_quiet (fail)
  go_wp2
  go_region_law (refine step_copy rfl _ _ rfl el25 D _ k k len c off k rfl rfl hg V (hs.drewN _).drew Hmin.out Hnl.out HDk.out (by have := HcS.out; omega) H1V.out ?_; intro w2 hg2 hk2; have qb := (hb.drewN _).drew.keep hk2 hne; have d0 : w2.cell? ⟨b, 0, none⟩ = some (.int .i64 S) := qb.cell 0; have d1 : w2.cell? ⟨b, 1, none⟩ = some (.slice (some ⟨g, 0, none⟩) S S) := qb.cell 1; have d2 : w2.cell? ⟨b, 2, none⟩ = some (.int .i64 off) := qb.cell 2; have e0 := qb.frozen 0; have e1 := qb.frozen 1; have e2 := qb.frozen 2)
  all_goals
    have hsX2 := ((hsX.drewN (nq + 1)).keep hk2 hRg)
    have hcl3 : (splice K off (V.take k)).length = S := by rw [length_splice _ _ _ (by rw [List.length_take, Hnl.out]; have := HcS.out; omega), hcl2]
    go_wp2
    go_region_law (refine step_copy rfl _ _ rfl el25 (some ⟨g, 0, none⟩) _ S S (len - k) _ 0 (len - k) rfl rfl hg2 X hsX2.drew (Nat.min_eq_left (by omega)).symm HXl.out (fun _ => rfl) (by omega) HX1.out ?_; intro w3 hg3 hk3; have qb3 := qb.drew.keep hk3 hne; have d0 : w3.cell? ⟨b, 0, none⟩ = some (.int .i64 S) := qb3.cell 0; have d1 : w3.cell? ⟨b, 1, none⟩ = some (.slice (some ⟨g, 0, none⟩) S S) := qb3.cell 1; have d2 : w3.cell? ⟨b, 2, none⟩ = some (.int .i64 off) := qb3.cell 2; have e0 := qb3.frozen 0; have e1 := qb3.frozen 1; have e2 := qb3.frozen 2)
  all_goals
    go_end0
    have hg4 : Blk w3 g 5 (u8s (splice (splice cs off (buf.take k)) 0 (buf.drop k))) := by
      rw [List.take_of_length_le (Nat.le_of_eq HXl.out), HX.out, HK.out, HV.out] at hg3
      rw [u8s_splice, u8s_splice]
      simpa [u8s, List.map_take, List.map_drop] using hg3
    refine ⟨rfl, ⟨_, S, len - k, Blk.cast (qb3.set 2 _) rfl, hg4.far (Ne.symm hne) _, Hover.out⟩, ?_⟩
    exact ((((Keep.refl (WinSet b g) w).drewN (nq + 1)).then hk2 (fun k _ h => .inr h)).drew.then hk3 (fun k _ h => .inr h)).set (p := ⟨b, 2, none⟩) (.inl (.inl rfl)) _

set_option maxHeartbeats 1000000 in
/-- There is room for a part of it alone. -/
theorem winSave_wrap {R : Nat → Prop} (b g S : Nat) (T buf : List Nat) (A : Option Addr) (c : Nat) (w : World) (cs : List Nat) (n off : Nat) (hb : Blk w b 63 (winCells S g n off)) (hg : Blk w g 5 (u8s cs)) (ha : WinAt S cs n off T) (hS2 : S ≤ 1048576)
    (hs : Sl w R A (u8s buf)) (h0 : 0 < buf.length) (hf : n < S) (hl : S - n < buf.length) (hlS : buf.length < S) (hc : buf.length ≤ c) (hR : ∀ k, R k → k ≠ b ∧ k ≠ g) :
    Calls Try.prog 28 #[.pointer (some ⟨b, 0, none⟩), .slice A buf.length c] w fun e w' => e = .returned (.tuple #[]) ∧ Win w' b g S (lastOf S (T ++ buf)) ∧ Keep (WinSet b g) w w' := by
  have hover := ha.wrap hf hl hlS
  have hcl := ha.len
  have Hover := Lib.hid hover
  clear ha hover
  obtain ⟨len, hlen⟩ : ∃ len, len = buf.length := ⟨_, rfl⟩
  have hcl2 : (u8s cs).length = S := by simp [hcl]
  have hne : b ≠ g := hb.ne hg (by decide)
  have c0 : w.cell? ⟨b, 0, none⟩ = some (.int .i64 S) := hb.cell 0
  have c1 : w.cell? ⟨b, 1, none⟩ = some (.slice (some ⟨g, 0, none⟩) n S) := hb.cell 1
  have c2 : w.cell? ⟨b, 2, none⟩ = some (.int .i64 off) := hb.cell 2
  have f0 := hb.frozen 0
  have f1 := hb.frozen 1
  have f2 := hb.frozen 2
  rw [← hlen] at hl Hover hlS h0 hc ⊢
  obtain ⟨K, hK⟩ : ∃ K, K = u8s cs := ⟨_, rfl⟩
  obtain ⟨V, hV⟩ : ∃ V, V = u8s buf := ⟨_, rfl⟩
  have hnl : V.length = len := by rw [hV, hlen]; simp
  rw [← hK] at hg hcl2
  rw [← hV] at hs
  have h1V : ∀ u ∈ V, u.oneCell' = true := by rw [hV]; exact u8s_one _
  have HK := Lib.hid hK
  have HV := Lib.hid hV
  have Hlen := Lib.hid hlen
  have Hnl := Lib.hid hnl
  have H1V := Lib.hid h1V
  clear hK hV h1V hcl hlen hnl
  obtain ⟨k, hk⟩ : ∃ k, k = S - n := ⟨_, rfl⟩
  rw [← hk] at Hover
  have hkl : k < len := by omega
  have hk1 : S - n = k := hk.symm
  obtain ⟨X, hX⟩ : ∃ X, X = V.drop k := ⟨_, rfl⟩
  have hXl : X.length = len - k := by rw [hX, List.length_drop, Hnl.out]
  have hX1 : ∀ u ∈ X, u.oneCell' = true := fun u hu => H1V.out u (List.mem_of_mem_drop (hX ▸ hu))
  obtain ⟨ga, oa, _, rfl, hcell⟩ := hs.get (by have := Hnl.out; omega)
  have hsX : Sl w R (some ⟨ga, oa + k, none⟩) X := by
    rw [hX]
    exact hs.drop k (some ⟨ga, oa + k, none⟩) (fun _ g o h => by
      simp only [Option.some.injEq, Addr.mk.injEq] at h
      obtain ⟨rfl, rfl, _⟩ := h
      rfl)
  have HX := Lib.hid hX
  have HXl := Lib.hid hXl
  have HX1 := Lib.hid hX1
  have Hcell := Lib.hid hcell
  have Hk := Lib.hid hk
  have hcS : n + k = S := by omega
  have HcS := Lib.hid hcS
  have hck : ¬ c = k := by omega
  have hkl2 : k ≤ len := by omega
  have hkc : k ≤ c := by omega
  have hks : (S : Int) - (n : Int) = (k : Int) := by omega
  have hk0 : ((k : Int) == 0) = false := by rw [beq_eq_false_iff_ne]; omega
  obtain ⟨Y, hY⟩ : ∃ Y, Y = V.take k := ⟨_, rfl⟩
  have hYl : Y.length = k := by rw [hY, List.length_take, Hnl.out]; omega
  have hY1 : ∀ u ∈ Y, u.oneCell' = true := fun u hu => H1V.out u (List.mem_of_mem_take (hY ▸ hu))
  have hsY : Sl w R (some ⟨ga, oa, none⟩) Y := hY ▸ hs.take k
  have HY := Lib.hid hY
  have HYl := Lib.hid hYl
  have HY1 := Lib.hid hY1
  have hRg : ∀ k, k < w.heap.size → R k → ¬ k = g := fun k _ h => (hR k h).2
  clear hX hXl hX1 hcell hk hcS hY hYl hY1
  go_enter Try.func28, Try.ntmps28
  go_wp2
  go_quiet (fail)
  go_wp2
  go_region_law (refine step_put rfl _ _ rfl el25 n S rfl hg k Y _ rfl (src_sl Try.underlying25 (hsY.drewN _).drew k _ (by rw [HYl.out, Nat.mul_one]) HY1.out) (by have := HcS.out; omega) (by have := HcS.out; omega) ?_; intro w2 hg2 hk2; have qb := (hb.drewN _).drew.keep hk2 hne; have d0 : w2.cell? ⟨b, 0, none⟩ = some (.int .i64 S) := qb.cell 0; have d1 : w2.cell? ⟨b, 1, none⟩ = some (.slice (some ⟨g, 0, none⟩) n S) := qb.cell 1; have d2 : w2.cell? ⟨b, 2, none⟩ = some (.int .i64 off) := qb.cell 2; have e0 := qb.frozen 0; have e1 := qb.frozen 1; have e2 := qb.frozen 2)
  have hsX2 := (((hsX.drewN (nq + 1)).keep hk2 hRg).keep ((Keep.refl (· = b) w2).set (p := ⟨b, 1, none⟩) (.inl rfl) (.slice (some ⟨g, 0, none⟩) (n + k) S)) (fun k _ h => (hR k h).1))
  have hcl3 : (splice K n Y).length = S := by rw [length_splice _ _ _ (by rw [HYl.out]; have := HcS.out; omega), hcl2]
  go_wp2
  go_region_law (refine step_copy rfl _ _ rfl el25 (some ⟨g, 0, none⟩) _ (n + k) S (len - k) _ 0 (len - k) rfl rfl (hg2.far (Ne.symm hne) _) X hsX2.drew (Nat.min_eq_left (by have := HcS.out; omega)).symm HXl.out (fun _ => rfl) (by omega) HX1.out ?_; intro w3 hg3 hk3; have qb3 := (qb.set 1 _).drew.keep hk3 hne; have d0 : w3.cell? ⟨b, 0, none⟩ = some (.int .i64 S) := qb3.cell 0; have d2 : w3.cell? ⟨b, 2, none⟩ = some (.int .i64 off) := qb3.cell 2; have e0 := qb3.frozen 0; have e1 := qb3.frozen 1; have e2 := qb3.frozen 2)
  all_goals
    go_end0
  all_goals
    have hg4 : Blk w3 g 5 (u8s (splice (splice cs n (buf.take k)) 0 (buf.drop k))) := by
      rw [List.take_of_length_le (Nat.le_of_eq HXl.out), HX.out, HY.out, HK.out, HV.out] at hg3
      rw [u8s_splice, u8s_splice]
      simpa [u8s, List.map_take, List.map_drop] using hg3
    refine ⟨rfl, ⟨_, S, len - k, Blk.cast (qb3.set 2 _) (by rw [HcS.out]; rfl), hg4.far (Ne.symm hne) _, Hover.out⟩, ?_⟩
    exact (((((Keep.refl (WinSet b g) w).drewN (nq + 1)).then hk2 (fun k _ h => .inr h)).set (p := ⟨b, 1, none⟩) (.inl (.inl rfl)) _).drew.then hk3 (fun k _ h => .inr h)).set (p := ⟨b, 2, none⟩) (.inl (.inl rfl)) _

/-- What is saved is kept, as much of it as there is room. -/
theorem winSave_any {R : Nat → Prop} (b g S : Nat) (T buf : List Nat) (A : Option Addr) (c : Nat) (w : World) (h : Win w b g S T) (hS : 1 ≤ S) (hS2 : S ≤ 1048576)
    (hs : Sl w R A (u8s buf)) (hR : ∀ k, R k → k ≠ b ∧ k ≠ g) (hl : buf.length ≤ 1048576) (hc : buf.length ≤ c) :
    Calls Try.prog 28 #[.pointer (some ⟨b, 0, none⟩), .slice A buf.length c] w fun e w' => e = .returned (.tuple #[]) ∧ Win w' b g S (lastOf S (T ++ buf)) ∧ Keep (WinSet b g) w w' := by
  by_cases h0 : buf = []
  · subst h0
    exact winSave_none b g S T A c w h hS hS2
  have h0 : 0 < buf.length := List.length_pos_iff.2 h0
  by_cases hbig : S ≤ buf.length
  · exact winSave_full b g S T buf A c w h hS hS2 hs hl hc hbig
  obtain ⟨cs, n, off, hb, hg, ha⟩ := h
  have hn := ha.used
  by_cases hf : n < S
  · by_cases hr : buf.length ≤ S - n
    · exact winSave_room b g S T buf A c w cs n off hb hg ha hS2 hs h0 hf hr (by omega)
    · exact winSave_wrap b g S T buf A c w cs n off hb hg ha hS2 hs h0 hf (by omega) (by omega) hc hR
  · obtain rfl : n = S := by omega
    by_cases hr : off + buf.length ≤ n
    · exact winSave_turn b g n T buf A c w cs off hb hg ha hS2 hs h0 hr (by omega)
    · exact winSave_over b g n T buf A c w cs off hb hg ha hs h0 (by omega) (by omega) hc hR
end Go.Proofs.Ytabaholflahepaa
