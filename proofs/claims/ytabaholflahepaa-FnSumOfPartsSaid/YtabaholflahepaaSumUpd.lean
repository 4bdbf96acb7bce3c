/-
  Contract of (*xxhash64).update: the checksum goes on by a part.
-/
import Derived.Test.YtabaholflahepaaSumAcc
namespace Go.Proofs.Ytabaholflahepaa
open Go.RowKit

/-- A fill of the buffer. -/
theorem fill_take (buf xs : List Nat) (k : Nat) (hk : k ≤ buf.length) : (splice buf k xs).take k = buf.take k := by
  unfold splice
  rw [List.take_append_of_le_length (by simp; omega), List.take_take, Nat.min_self]
theorem fill_all (buf xs : List Nat) (k : Nat) (hk : k + xs.length = buf.length) : splice buf k xs = buf.take k ++ xs := by
  unfold splice
  rw [List.drop_of_length_le (by omega), List.append_nil]
theorem fill_more (buf xs : List Nat) (k : Nat) (hk : k + xs.length ≤ buf.length) : (splice buf k xs).take (k + xs.length) = buf.take k ++ xs := by
  have hl : (buf.take k ++ xs).length = k + xs.length := by simp; omega
  unfold splice
  rw [← List.append_assoc, ← hl, List.take_left]
theorem splice_len {buf xs : List Nat} {k : Nat} (h : k + xs.length ≤ buf.length) : (splice buf k xs).length = buf.length := by
  unfold splice
  simp
  omega
theorem splice_bytes {buf xs : List Nat} {k : Nat} (h : Bytes buf) (h2 : Bytes xs) : Bytes (splice buf k xs) := by
  intro x hx
  unfold splice at hx
  rcases List.mem_append.1 hx with hx | hx
  · exact h x (List.mem_of_mem_take hx)
  · rcases List.mem_append.1 hx with hx | hx
    · exact h2 x hx
    · exact h x (List.mem_of_mem_drop hx)

theorem quiet_round {v : Value} {a n r : Nat} (h : r = rnd a n) (w : World) (k : Nat) :
    Calls Try.prog 41 #[v, .int .u64 a, .int .u64 n] (w.drewN k) fun e w'' => e = .returned (.int .u64 (r : Nat)) ∧ ∃ m, w'' = w.drewN m := by
  subst h
  exact quiet_same (implRound_any v a n _)

/-- One lane of the text. -/
theorem lane_call {R : Nat → Prop} (A : Option Addr) (n c : Nat) (l : List Nat) (i z : Nat) (w : World) (hz : z = lane l i) (hn : n = l.length - 8 * i) (hs : Sl w R A (u8s (l.drop (8 * i)))) (hd : Bytes l) (hl : 8 ≤ n) (hc : n ≤ c) (k : Nat) :
    Calls Try.prog 42 #[.slice A n c] (w.drewN k) fun e w'' => e = .returned (.int .u64 (z : Nat)) ∧ ∃ m, w'' = w.drewN m := by
  subst hz
  exact quiet_more (le64_any A n c (l.drop (8 * i)) (by simp; omega) (w.drewN k) (hs.drewN k) (hd.drop _) hl hc)

/-- An accumulator in its block, before and behind one lane. -/
theorem acc_cell {w : World} {b n cnt : Nat} {v l buf : List Nat} {i : Nat} (hb : Blk w b 83 (xhCells n (partOf v l i) buf cnt)) (hi : i < 4) : w.cell? ⟨b, 1 + i, none⟩ = some (.int .u64 (v.getD i 0 : Nat)) := by
  have := partOf_at v l i hi
  rw [if_neg (Nat.lt_irrefl _)] at this
  rw [hb.cell]
  exact xh_at this
theorem acc_next {w : World} {b n cnt i r : Nat} {v l buf : List Nat} (hb : Blk w b 83 (xhCells n (partOf v l i) buf cnt)) (hi : i < 4) (hr : r = rnd (v.getD i 0) (lane l i)) :
    Blk (w.setCell ⟨b, 1 + i, none⟩ (.int .u64 (r : Nat))) b 83 (xhCells n (partOf v l (i + 1)) buf cnt) := by
  refine Blk.cast (hb.set (1 + i) _) ?_
  rw [xh_set (by rw [partOf_length]; exact hi), hr, partOf_push]

set_option maxHeartbeats 4000000 in
set_option maxRecDepth 4000 in
theorem update_long0 {R : Nat → Prop} (b : Nat) (A : Option Addr) (n c : Nat) (T l : List Nat) (hn : n = l.length) (w : World) (hx : XH w b T) (hs : Sl w R A (u8s l)) (hR : ¬ R b) (hd : Bytes l) (hc : n ≤ c) (hbig : T.length + n ≤ 2097152)
    (h0 : T.length % 32 = 0) (h32 : 32 ≤ n) :
    Calls Try.prog 39 #[.pointer (some ⟨b, 0, none⟩), .slice A n c] w fun e w' => e = .returned (.tuple #[]) ∧ XH w' b (T ++ l) ∧ Keep (· = b) w w' := by
  obtain ⟨buf2, hbl, hbd, hbt, hb⟩ := hx
  rw [h0] at hb
  obtain ⟨N0, hN0⟩ : ∃ N0, N0 = T.length := ⟨_, rfl⟩
  obtain ⟨v1, hv⟩ : ∃ v, v = accOf acc0 T := ⟨_, rfl⟩
  obtain ⟨NN, hNN'⟩ : ∃ NN, NN = N0 + n := ⟨_, rfl⟩
  rw [← hv, ← hN0] at hb
  have hv1' : v1.length = 4 := by rw [hv]; exact accOf_length rfl
  have hrT : restOf T = [] := List.eq_nil_of_length_eq_zero (by rw [restOf_length, h0])
  have happ := acc_append (T.length + 1) acc0 T l (Nat.lt_succ_self _)
  rw [hrT, ← hv, List.nil_append] at happ
  have hacc := Lib.hid happ.1.symm
  have hrest := Lib.hid happ.2.symm
  have hNN : Hid (NN = (T ++ l).length) := by show _ = _; rw [hNN', List.length_append, hN0, hn]
  have hv1 := Lib.hid hv1'
  have hd1 := Lib.hid hd
  have hl1 := Lib.hid hn
  have hbl2 := Lib.hid hbl
  have hbd2 := Lib.hid hbd
  have c0 : w.cell? ⟨b, 0, none⟩ = some (.int .u64 (N0 : Int)) := hb.cell 0
  have c37 : w.cell? ⟨b, 37, none⟩ = some (.int .i64 0) := by rw [hb.cell]; exact xh_cnt hv1' hbl
  have f0 := hb.frozen 0
  have hNi : (N0 : Int) + (n : Int) = (NN : Int) := by omega
  have hNl : NN ≤ 2097152 := by omega
  have hd32 : decide ((n : Int) < 32) = false := decide_eq_false (by omega)
  have hbS := (hb.set 0 (.int .u64 (NN : Int))).cast (xh_set_n NN)
  have hkS : Keep (· = b) w (w.setCell ⟨b, 0, none⟩ (.int .u64 (NN : Int))) := (Keep.refl (· = b) w).set (p := ⟨b, 0, none⟩) (.inl rfl) _
  have hsS := hs.keep hkS (fun k _ hk => by rintro rfl; exact hR hk)
  obtain ⟨WS, hWS⟩ : ∃ WS, w.setCell ⟨b, 0, none⟩ (.int .u64 (NN : Int)) = WS := ⟨_, rfl⟩
  rw [hWS] at hbS hkS hsS
  have HWS := Lib.hid hWS
  clear happ hrT hv hN0 hNN' hbl hbd hbt hb hn hd hs hv1' hWS
  go_enter Try.func39, Try.ntmps39
  go_wp2
  rw [HWS.out]
  go_loopg [1] (n + 1) (fun gg s wr => ∃ (A2 : Option Addr) (n2 c2 : Nat) (l2 v2 : List Nat), n2 < gg ∧ s = .slice A2 n2 c2 ∧ n2 ≤ c2 ∧ Sl wr R A2 (u8s l2) ∧ n2 ≤ 2097152 ∧ Hid (n2 = l2.length) ∧ Hid (Bytes l2) ∧ Hid (v2.length = 4) ∧
    Hid (accOf v2 l2 = accOf acc0 (T ++ l)) ∧ Hid (restOf l2 = restOf (T ++ l)) ∧ Blk wr b 83 (xhCells NN v2 buf2 0) ∧ Keep (· = b) w wr)
  case atStart => exact ⟨A, n, c, l, v1, by omega, rfl, hc, hsS, by omega, hl1, hd1.out, hv1.out, hacc.out, hrest.out, hbS, hkS⟩
  case round =>
    clear hsS hbS hkS
    obtain ⟨A2, n2, c2, l2, v2, q1, rfl, q2, qs_0, q3, q5, q6, q7, q8, q9, qb0, qk_0⟩ := hrel
    by_cases hlt : 32 ≤ n2
    · have hlt2 : 32 ≤ l2.length := by rw [← q5.out]; exact hlt
      obtain ⟨g, o, hRg, rfl, _⟩ := qs_0.get (by simp; omega)
      have hc8 : ¬ c2 = 8 := by omega
      have hc16 : ¬ c2 = 16 := by omega
      have hc24 : ¬ c2 = 24 := by omega
      obtain ⟨E, hE⟩ : ∃ E : Option Addr, (if c2 = 32 then some (⟨g, o, none⟩ : Addr) else some ⟨g, o + 32, none⟩) = E := ⟨_, rfl⟩
      have hi8 : (8 : Int) ≤ (n2 : Int) := by omega
      have hi16 : (16 : Int) ≤ (n2 : Int) := by omega
      have hi24 : (24 : Int) ≤ (n2 : Int) := by omega
      have qb_0 : Blk wr b 83 (xhCells NN (partOf v2 l2 0) buf2 0) := by rw [partOf_zero q7.out]; exact qb0
      clear qb0
      go_wp2
      obtain ⟨r0, hr⟩ : ∃ r0, r0 = rnd (v2.getD 0 0) (lane l2 0) := ⟨_, rfl⟩
      obtain ⟨y0, hy⟩ : ∃ y0, y0 = v2.getD 0 0 := ⟨_, rfl⟩
      obtain ⟨z0, hz⟩ : ∃ z0, z0 = lane l2 0 := ⟨_, rfl⟩
      have hryz : r0 = rnd y0 z0 := by rw [hr, hy, hz]
      have hcy : wr.cell? ⟨b, 1, none⟩ = some (.int .u64 (y0 : Nat)) := by rw [hy]; exact acc_cell (i := 0) qb_0 (by decide)
      have hfy := qb_0.frozen 1
      have C42 := Lib.hid (fun k => lane_call (R := R) (some ⟨g, o, none⟩) n2 c2 l2 0 z0 wr hz (by have := q5.out; omega) qs_0 q6.out (by omega) (by omega) k)
      have C41 := Lib.hid (fun (x : Value) k => quiet_round (v := x) hryz wr k)
      have Hr := Lib.hid hr
      clear hr hy hz hryz
      refine wp_region_quiet_tail 13 (by kernel_rfl) (by kernel_rfl) ?_
      simp only [List.take_succ_cons, List.take_zero, List.drop_succ_cons, List.drop_zero]
      repeat (quiet_step (first | (go_at_call 42; with_reducible exact C42.out _) | (go_at_call 41; with_reducible exact C41.out _ _)))
      refine wpQuiet_nil ?_
      rintro _ ⟨nq, rfl⟩
      clear C42 C41
      go_wp2
      obtain ⟨W1, hWn⟩ : ∃ W1, (wr.drewN nq).setCell ⟨b, 1, none⟩ (.int .u64 (r0 : Nat)) = W1 := ⟨_, rfl⟩
      rw [hWn]
      have qb_1 : Blk W1 b 83 (xhCells NN (partOf v2 l2 1) buf2 0) := by rw [← hWn]; exact acc_next (qb_0.drewN nq) (by decide) Hr.out
      have qk_1 : Keep (· = b) w W1 := by rw [← hWn]; exact (qk_0.drewN nq).set (p := ⟨b, 1, none⟩) (.inl rfl) _
      have qs_1 : Sl W1 R (some ⟨g, o, none⟩) (u8s l2) := by
        rw [← hWn]
        exact (qs_0.drewN nq).keep ((Keep.refl (· = b) (wr.drewN nq)).set (p := ⟨b, 1, none⟩) (.inl rfl) _) (fun k _ hk => by rintro rfl; exact hR hk)
      clear hcy hfy hWn qb_0 qk_0 Hr qs_0
      obtain ⟨r1, hr⟩ : ∃ r1, r1 = rnd (v2.getD 1 0) (lane l2 1) := ⟨_, rfl⟩
      obtain ⟨y1, hy⟩ : ∃ y1, y1 = v2.getD 1 0 := ⟨_, rfl⟩
      obtain ⟨z1, hz⟩ : ∃ z1, z1 = lane l2 1 := ⟨_, rfl⟩
      have hryz : r1 = rnd y1 z1 := by rw [hr, hy, hz]
      have hcy : W1.cell? ⟨b, 2, none⟩ = some (.int .u64 (y1 : Nat)) := by rw [hy]; exact acc_cell (i := 1) qb_1 (by decide)
      have hfy := qb_1.frozen 2
      have C42 := Lib.hid (fun k => lane_call (R := R) (some ⟨g, o + 8, none⟩) (n2 - 8) (c2 - 8) l2 1 z1 W1 hz (by have := q5.out; omega) (qs_1.cut' 8) q6.out (by omega) (by omega) k)
      have C41 := Lib.hid (fun (x : Value) k => quiet_round (v := x) hryz W1 k)
      have Hr := Lib.hid hr
      clear hr hy hz hryz
      refine wp_region_quiet_tail 14 (by kernel_rfl) (by kernel_rfl) ?_
      simp only [List.take_succ_cons, List.take_zero, List.drop_succ_cons, List.drop_zero]
      repeat (quiet_step (first | (go_at_call 42; with_reducible exact C42.out _) | (go_at_call 41; with_reducible exact C41.out _ _)))
      refine wpQuiet_nil ?_
      rintro _ ⟨nq, rfl⟩
      clear C42 C41
      go_wp2
      obtain ⟨W2, hWn⟩ : ∃ W2, (W1.drewN nq).setCell ⟨b, 2, none⟩ (.int .u64 (r1 : Nat)) = W2 := ⟨_, rfl⟩
      rw [hWn]
      have qb_2 : Blk W2 b 83 (xhCells NN (partOf v2 l2 2) buf2 0) := by rw [← hWn]; exact acc_next (qb_1.drewN nq) (by decide) Hr.out
      have qk_2 : Keep (· = b) w W2 := by rw [← hWn]; exact (qk_1.drewN nq).set (p := ⟨b, 2, none⟩) (.inl rfl) _
      have qs_2 : Sl W2 R (some ⟨g, o, none⟩) (u8s l2) := by
        rw [← hWn]
        exact (qs_1.drewN nq).keep ((Keep.refl (· = b) (W1.drewN nq)).set (p := ⟨b, 2, none⟩) (.inl rfl) _) (fun k _ hk => by rintro rfl; exact hR hk)
      clear hcy hfy hWn qb_1 qk_1 Hr qs_1
      obtain ⟨r2, hr⟩ : ∃ r2, r2 = rnd (v2.getD 2 0) (lane l2 2) := ⟨_, rfl⟩
      obtain ⟨y2, hy⟩ : ∃ y2, y2 = v2.getD 2 0 := ⟨_, rfl⟩
      obtain ⟨z2, hz⟩ : ∃ z2, z2 = lane l2 2 := ⟨_, rfl⟩
      have hryz : r2 = rnd y2 z2 := by rw [hr, hy, hz]
      have hcy : W2.cell? ⟨b, 3, none⟩ = some (.int .u64 (y2 : Nat)) := by rw [hy]; exact acc_cell (i := 2) qb_2 (by decide)
      have hfy := qb_2.frozen 3
      have C42 := Lib.hid (fun k => lane_call (R := R) (some ⟨g, o + 16, none⟩) (n2 - 16) (c2 - 16) l2 2 z2 W2 hz (by have := q5.out; omega) (qs_2.cut' 16) q6.out (by omega) (by omega) k)
      have C41 := Lib.hid (fun (x : Value) k => quiet_round (v := x) hryz W2 k)
      have Hr := Lib.hid hr
      clear hr hy hz hryz
      refine wp_region_quiet_tail 14 (by kernel_rfl) (by kernel_rfl) ?_
      simp only [List.take_succ_cons, List.take_zero, List.drop_succ_cons, List.drop_zero]
      repeat (quiet_step (first | (go_at_call 42; with_reducible exact C42.out _) | (go_at_call 41; with_reducible exact C41.out _ _)))
      refine wpQuiet_nil ?_
      rintro _ ⟨nq, rfl⟩
      clear C42 C41
      go_wp2
      obtain ⟨W3, hWn⟩ : ∃ W3, (W2.drewN nq).setCell ⟨b, 3, none⟩ (.int .u64 (r2 : Nat)) = W3 := ⟨_, rfl⟩
      rw [hWn]
      have qb_3 : Blk W3 b 83 (xhCells NN (partOf v2 l2 3) buf2 0) := by rw [← hWn]; exact acc_next (qb_2.drewN nq) (by decide) Hr.out
      have qk_3 : Keep (· = b) w W3 := by rw [← hWn]; exact (qk_2.drewN nq).set (p := ⟨b, 3, none⟩) (.inl rfl) _
      have qs_3 : Sl W3 R (some ⟨g, o, none⟩) (u8s l2) := by
        rw [← hWn]
        exact (qs_2.drewN nq).keep ((Keep.refl (· = b) (W2.drewN nq)).set (p := ⟨b, 3, none⟩) (.inl rfl) _) (fun k _ hk => by rintro rfl; exact hR hk)
      clear hcy hfy hWn qb_2 qk_2 Hr qs_2
      obtain ⟨r3, hr⟩ : ∃ r3, r3 = rnd (v2.getD 3 0) (lane l2 3) := ⟨_, rfl⟩
      obtain ⟨y3, hy⟩ : ∃ y3, y3 = v2.getD 3 0 := ⟨_, rfl⟩
      obtain ⟨z3, hz⟩ : ∃ z3, z3 = lane l2 3 := ⟨_, rfl⟩
      have hryz : r3 = rnd y3 z3 := by rw [hr, hy, hz]
      have hcy : W3.cell? ⟨b, 4, none⟩ = some (.int .u64 (y3 : Nat)) := by rw [hy]; exact acc_cell (i := 3) qb_3 (by decide)
      have hfy := qb_3.frozen 4
      have C42 := Lib.hid (fun k => lane_call (R := R) (some ⟨g, o + 24, none⟩) (n2 - 24) (c2 - 24) l2 3 z3 W3 hz (by have := q5.out; omega) (qs_3.cut' 24) q6.out (by omega) (by omega) k)
      have C41 := Lib.hid (fun (x : Value) k => quiet_round (v := x) hryz W3 k)
      have Hr := Lib.hid hr
      clear hr hy hz hryz
      refine wp_region_quiet_tail 14 (by kernel_rfl) (by kernel_rfl) ?_
      simp only [List.take_succ_cons, List.take_zero, List.drop_succ_cons, List.drop_zero]
      repeat (quiet_step (first | (go_at_call 42; with_reducible exact C42.out _) | (go_at_call 41; with_reducible exact C41.out _ _)))
      refine wpQuiet_nil ?_
      rintro _ ⟨nq, rfl⟩
      clear C42 C41
      go_wp2
      obtain ⟨W4, hWn⟩ : ∃ W4, (W3.drewN nq).setCell ⟨b, 4, none⟩ (.int .u64 (r3 : Nat)) = W4 := ⟨_, rfl⟩
      rw [hWn]
      have qb_4 : Blk W4 b 83 (xhCells NN (partOf v2 l2 4) buf2 0) := by rw [← hWn]; exact acc_next (qb_3.drewN nq) (by decide) Hr.out
      have qk_4 : Keep (· = b) w W4 := by rw [← hWn]; exact (qk_3.drewN nq).set (p := ⟨b, 4, none⟩) (.inl rfl) _
      have qs_4 : Sl W4 R (some ⟨g, o, none⟩) (u8s l2) := by
        rw [← hWn]
        exact (qs_3.drewN nq).keep ((Keep.refl (· = b) (W3.drewN nq)).set (p := ⟨b, 4, none⟩) (.inl rfl) _) (fun k _ hk => by rintro rfl; exact hR hk)
      clear hcy hfy hWn qb_3 qk_3 Hr qs_3
      have hsE : Sl W4 R E (u8s (l2.drop 32)) := by rw [← hE]; exact qs_4.cut (by rw [← q5.out]; exact q2) 32
      have ha := accOf_step (v := v2) hlt2
      have hr := restOf_step hlt2
      have Ha := Lib.hid ha
      have Hr := Lib.hid hr
      clear ha hr
      go_roundg n2
      case measure => exact q1
      case rel =>
        exact ⟨E, n2 - 32, c2 - 32, l2.drop 32, stripe v2 l2, by omega, rfl, by omega, hsE, by omega, by show _ = _; rw [List.length_drop, ← q5.out], q6.out.drop 32, stripe_length v2 l2, Ha.out.symm.trans q8.out, Hr.out.symm.trans q9.out, qb_4, qk_4⟩
    · have hshort : l2.length < 32 := by rw [← q5.out]; omega
      have hacc2 : accOf acc0 (T ++ l) = v2 := by rw [← q8.out, accOf_short hshort]
      have hrest2 : restOf (T ++ l) = l2 := by rw [← q9.out, restOf_short hshort]
      have hcnt : (T ++ l).length % 32 = n2 := by rw [← restOf_length, hrest2, q5.out]
      have c37 : wr.cell? ⟨b, 37, none⟩ = some (.int .i64 0) := by rw [qb0.cell]; exact xh_cnt q7.out hbl2.out
      have f37 := qb0.frozen 37
      have Hacc2 := Lib.hid hacc2
      have Hrest2 := Lib.hid hrest2
      have Hcnt := Lib.hid hcnt
      clear hshort hacc2 hrest2 hcnt
      by_cases h0 : n2 = 0
      · subst h0
        go_wp2
        go_end0
        refine ⟨rfl, ⟨buf2, hbl2.out, hbd2.out, ?_, ?_⟩, qk_0⟩
        · rw [Hcnt.out, Hrest2.out, List.eq_nil_of_length_eq_zero q5.out.symm]; rfl
        · rw [Hcnt.out, Hacc2.out, ← hNN.out]; exact qb0
      · have hlenu : (u8s l2).length = n2 := by rw [u8s_length, q5.out]
        have hxl : (xhCells NN v2 buf2 0).length = 38 := xh_length q7.out hbl2.out
        have Hlenu := Lib.hid hlenu
        have Hxl := Lib.hid hxl
        have h1V := Lib.hid (u8s_one l2)
        clear hlenu hxl
        go_wp2_with (refine wpList_copy (R := R) rfl (.tmp 193) (.tmp 194) rfl elU8 (some ⟨b, 5, none⟩) A2 32 32 n2 c2 5 n2 rfl rfl qb0 (u8s l2) qs_0 (Nat.min_eq_left (by omega)).symm Hlenu.out (fun _ => rfl) (by rw [Hxl.out]; omega) h1V.out ?_; intro w3 hb3 hk3; have f37 := hb3.frozen 37; have c37 : ∃ u, w3.cell? ⟨b, 37, none⟩ = some u := ⟨_, by rw [hb3.cell, List.take_of_length_le (by rw [Hlenu.out]; omega), show (5 : Nat) = 5 + 0 from rfl, xh_splice q7.out hbl2.out 0 l2 (by rw [← q5.out]; omega)]; exact xh_cnt q7.out (by rw [splice_len (by rw [hbl2.out, ← q5.out]; omega)]; exact hbl2.out)⟩; obtain ⟨u37, c37⟩ := c37)
        go_end0
        rw [List.take_of_length_le (by rw [Hlenu.out]; omega), show (5 : Nat) = 5 + 0 from rfl, xh_splice q7.out hbl2.out 0 l2 (by rw [← q5.out]; omega)] at hb3
        have hbl3 : (splice buf2 0 l2).length = 32 := by rw [splice_len (by rw [hbl2.out, ← q5.out]; omega)]; exact hbl2.out
        refine ⟨rfl, ⟨splice buf2 0 l2, hbl3, splice_bytes hbd2.out q6.out, ?_, ?_⟩, (qk_0.trans hk3).set (p := ⟨b, 37, none⟩) (.inl rfl) _⟩
        · have := fill_more buf2 l2 0 (by rw [hbl2.out, ← q5.out]; omega)
          rw [Nat.zero_add, ← q5.out, List.take_zero, List.nil_append] at this
          rw [Hcnt.out, Hrest2.out]
          exact this
        · rw [Hcnt.out, Hacc2.out, ← hNN.out]
          exact Blk.cast (hb3.set 37 _) (xh_set_cnt q7.out hbl3 n2)
end Go.Proofs.Ytabaholflahepaa
