/-
  Contract of (*xxhash64).update where the buffer is not filled.
-/
import Derived.Test.YtabaholflahepaaSumUpd
namespace Go.Proofs.Ytabaholflahepaa
open Go.RowKit

set_option maxHeartbeats 1000000 in
set_option maxRecDepth 4000 in
theorem update_short {R : Nat → Prop} (b : Nat) (A : Option Addr) (n c : Nat) (T l : List Nat) (hn : n = l.length) (w : World) (hx : XH w b T) (hs : Sl w R A (u8s l)) (hR : ¬ R b) (hd : Bytes l) (hbig : T.length + n ≤ 2097152)
    (h32 : T.length % 32 + n < 32) :
    Calls Try.prog 39 #[.pointer (some ⟨b, 0, none⟩), .slice A n c] w fun e w' => e = .returned (.tuple #[]) ∧ XH w' b (T ++ l) ∧ Keep (· = b) w w' := by
  obtain ⟨buf, hbl, hbd, hbt, hb⟩ := hx
  obtain ⟨N0, hN0⟩ : ∃ N0, N0 = T.length := ⟨_, rfl⟩
  obtain ⟨k, hk⟩ : ∃ k, k = T.length % 32 := ⟨_, rfl⟩
  obtain ⟨v, hv⟩ : ∃ v, v = accOf acc0 T := ⟨_, rfl⟩
  obtain ⟨NN, hNN'⟩ : ∃ NN, NN = N0 + n := ⟨_, rfl⟩
  have hv4 : v.length = 4 := by rw [hv]; exact accOf_length rfl
  have hrl : (restOf T).length = k := by rw [restOf_length, hk]
  have happ := acc_append (T.length + 1) acc0 T l (Nat.lt_succ_self _)
  rw [accOf_short (l := restOf T ++ l) (by rw [List.length_append, hrl, hk, ← hn]; exact h32), restOf_short (l := restOf T ++ l) (by rw [List.length_append, hrl, hk, ← hn]; exact h32), ← hv] at happ
  have hmod : (T ++ l).length % 32 = k + n := by rw [List.length_append, ← hn]; omega
  rw [← hk] at hbt h32 hb
  rw [← hv, ← hN0] at hb
  have c0 : w.cell? ⟨b, 0, none⟩ = some (.int .u64 (N0 : Int)) := hb.cell 0
  have c37 : w.cell? ⟨b, 37, none⟩ = some (.int .i64 k) := by rw [hb.cell]; exact xh_cnt hv4 hbl
  have f0 := hb.frozen 0
  have hNi : (N0 : Int) + (n : Int) = (NN : Int) := by omega
  have hNl : NN ≤ 2097152 := by omega
  have hbS := (hb.set 0 (.int .u64 (NN : Int))).cast (xh_set_n NN)
  have hkS : Keep (· = b) w (w.setCell ⟨b, 0, none⟩ (.int .u64 (NN : Int))) := (Keep.refl (· = b) w).set (p := ⟨b, 0, none⟩) (.inl rfl) _
  have hsS := hs.keep hkS (fun k _ hk => by rintro rfl; exact hR hk)
  have hlenu : (u8s l).length = n := by rw [u8s_length, hn]
  have hxl : (xhCells NN v buf k).length = 38 := xh_length hv4 hbl
  have hfm := fill_more buf l k (by rw [hbl, ← hn]; omega)
  have hsl := splice_len (buf := buf) (xs := l) (k := k) (by rw [hbl, ← hn]; omega)
  have hsb := splice_bytes (k := k) hbd hd
  have hcw : ∀ w3, Blk w3 b 83 (splice (xhCells NN v buf k) (5 + k) ((u8s l).take n)) → Blk w3 b 83 (xhCells NN v (splice buf k l) k) := by
    intro w3 h
    rw [List.take_of_length_le (by omega), xh_splice hv4 hbl k l (by rw [← hn]; omega)] at h
    exact h
  have hc37 : ∀ w3, Blk w3 b 83 (xhCells NN v (splice buf k l) k) → w3.cell? ⟨b, 37, none⟩ = some (.int .i64 k) := by
    intro w3 h
    rw [h.cell]
    exact xh_cnt hv4 (hsl.trans hbl)
  have hset := xh_set_cnt (n := NN) (cnt := k) hv4 (hsl.trans hbl) (k + n)
  rw [← hn, hbt] at hfm
  have Hcw := Lib.hid hcw
  have Hc37 := Lib.hid hc37
  have Hset := Lib.hid hset
  have Hlenu := Lib.hid hlenu
  have Hxl := Lib.hid hxl
  have Happ := Lib.hid happ
  have Hmod := Lib.hid hmod
  have Hfm := Lib.hid hfm
  have Hsl := Lib.hid (hsl.trans hbl)
  have Hsb := Lib.hid hsb
  have h1V := Lib.hid (u8s_one l)
  have HNN : Hid (NN = (T ++ l).length) := by show _ = _; rw [hNN', List.length_append, hN0, hn]
  have hk32 : k < 32 := by omega
  have hk32i : (k : Int) ≤ 32 := by omega
  have hk32n : k ≤ 32 := by omega
  have hk32e : ¬ 32 = k := by omega
  have hkn : k + n < 32 := h32
  clear hcw hc37 hset hlenu hxl happ hmod hfm hsl hsb hn hk hv hN0 hNN' hb hbl hbd hbt hd hv4 hrl hs
  go_enter Try.func39, Try.ntmps39
  go_wp2
  go_region_law (refine step_copy (R := R) rfl _ _ rfl elU8 (some ⟨b, 5 + k, none⟩) A (32 - k) (32 - k) n c (5 + k) n rfl rfl hbS.drew (u8s l) hsS.drew (Nat.min_eq_left (by omega)).symm Hlenu.out (fun _ => rfl) (by rw [Hxl.out]; omega) h1V.out ?_; intro w3 hb3 hk3; have qb := Hcw.out w3 hb3; have d37 := Hc37.out w3 qb; have e37 := qb.frozen 37)
  all_goals
    go_wp2
    go_returns
    refine ⟨rfl, ⟨splice buf k l, Hsl.out, Hsb.out, ?_, ?_⟩, (hkS.drew.trans hk3).set (p := ⟨b, 37, none⟩) (.inl rfl) _⟩
    · rw [Hmod.out, Happ.out.2]; exact Hfm.out
    · rw [Hmod.out, Happ.out.1, ← HNN.out]
      exact Blk.cast (qb.set 37 _) Hset.out
end Go.Proofs.Ytabaholflahepaa
