/-
  Contract of (*xxhash64).update where the buffer is filled; all of it.
-/
import Derived.Test.YtabaholflahepaaSumUpS
namespace Go.Proofs.Ytabaholflahepaa
open Go.RowKit

set_option maxHeartbeats 4000000 in
set_option maxRecDepth 4000 in
theorem update_full {R : Nat → Prop} (b : Nat) (A : Option Addr) (n c : Nat) (T l : List Nat) (hn : n = l.length) (w : World) (hx : XH w b T) (hs : Sl w R A (u8s l)) (hR : ¬ R b) (hd : Bytes l) (hc : n ≤ c) (hbig : T.length + n ≤ 2097152)
    (h0 : T.length % 32 ≠ 0) (h32 : 32 ≤ T.length % 32 + n) :
    Calls Try.prog 39 #[.pointer (some ⟨b, 0, none⟩), .slice A n c] w fun e w' => e = .returned (.tuple #[]) ∧ XH w' b (T ++ l) ∧ Keep (· = b) w w' := by
  obtain ⟨buf, hbl, hbd, hbt, hb⟩ := hx
  obtain ⟨N0, hN0⟩ : ∃ N0, N0 = T.length := ⟨_, rfl⟩
  obtain ⟨k, hk⟩ : ∃ k, k = T.length % 32 := ⟨_, rfl⟩
  obtain ⟨v, hv⟩ : ∃ v, v = accOf acc0 T := ⟨_, rfl⟩
  obtain ⟨NN, hNN'⟩ : ∃ NN, NN = N0 + n := ⟨_, rfl⟩
  have hv4 : v.length = 4 := by rw [hv]; exact accOf_length rfl
  have hrl : (restOf T).length = k := by rw [restOf_length, hk]
  rw [← hk] at hbt h32 hb h0
  rw [← hv, ← hN0] at hb
  have hk32 : k < 32 := by omega
  obtain ⟨m, hm⟩ : ∃ m, m = 32 - k := ⟨_, rfl⟩
  obtain ⟨buf2, hbuf2⟩ : ∃ x, x = splice buf k (l.take m) := ⟨_, rfl⟩
  have hlt : (l.take m).length = m := by rw [List.length_take]; omega
  have hb2a : buf2 = restOf T ++ l.take m := by rw [hbuf2, fill_all _ _ _ (by rw [hlt, hbl]; omega), hbt]
  have hbl2' : buf2.length = 32 := by rw [hbuf2, splice_len (by rw [hlt, hbl]; omega), hbl]
  have hbd2' : Bytes buf2 := by rw [hbuf2]; exact splice_bytes hbd (hd.take m)
  obtain ⟨l1, hl1e⟩ : ∃ l1, l1 = l.drop m := ⟨_, rfl⟩
  have hcat : restOf T ++ l = buf2 ++ l1 := by rw [hb2a, hl1e, List.append_assoc, List.take_append_drop]
  obtain ⟨v1, hv1e⟩ : ∃ v1, v1 = stripe v buf2 := ⟨_, rfl⟩
  have happ := acc_append (T.length + 1) acc0 T l (Nat.lt_succ_self _)
  rw [hcat, ← hv] at happ
  have hst : stripe v (buf2 ++ l1) = v1 := by rw [hv1e, ← stripe_take v (buf2 ++ l1), List.take_append_of_le_length (by omega), stripe_take]
  have hdr : (buf2 ++ l1).drop 32 = l1 := by rw [← hbl2', List.drop_left]
  have hacc' : accOf v1 l1 = accOf acc0 (T ++ l) := by rw [happ.1, accOf_step (l := buf2 ++ l1) (by rw [List.length_append]; omega), hst, hdr]
  have hrest' : restOf l1 = restOf (T ++ l) := by rw [happ.2, restOf_step (l := buf2 ++ l1) (by rw [List.length_append]; omega), hdr]
  have hacc := Lib.hid hacc'
  have hrest := Lib.hid hrest'
  have hNN : Hid (NN = (T ++ l).length) := by show _ = _; rw [hNN', List.length_append, hN0, hn]
  have hv1 : Hid (v1.length = 4) := by rw [hv1e]; exact stripe_length _ _
  have hv1s := Lib.hid hv1e
  have hd1 : Hid (Bytes l1) := by rw [hl1e]; exact hd.drop m
  have hl1 : Hid (n - m = l1.length) := by show _ = _; rw [hl1e, List.length_drop, hn]
  have hl1d := Lib.hid hl1e
  have hbl2 := Lib.hid hbl2'
  have hbd2 := Lib.hid hbd2'
  have c0 : w.cell? ⟨b, 0, none⟩ = some (.int .u64 (N0 : Int)) := hb.cell 0
  have c37 : w.cell? ⟨b, 37, none⟩ = some (.int .i64 k) := by rw [hb.cell]; exact xh_cnt hv4 hbl
  have f0 := hb.frozen 0
  have hNi : (N0 : Int) + (n : Int) = (NN : Int) := by omega
  have hNl : NN ≤ 2097152 := by omega
  have hbS := (hb.set 0 (.int .u64 (NN : Int))).cast (xh_set_n NN)
  have hkS : Keep (· = b) w (w.setCell ⟨b, 0, none⟩ (.int .u64 (NN : Int))) := (Keep.refl (· = b) w).set (p := ⟨b, 0, none⟩) (.inl rfl) _
  have hsS := hs.keep hkS (fun k _ hk => by rintro rfl; exact hR hk)
  have hlenu : (u8s l).length = n := by rw [u8s_length, hn]
  have hxl : (xhCells NN v buf k).length = 38 := xh_length hv4 hbl
  have hcw : ∀ w3, Blk w3 b 83 (splice (xhCells NN v buf k) (5 + k) ((u8s l).take m)) → Blk w3 b 83 (xhCells NN (partOf v buf2 0) buf2 k) := by
    intro w3 h
    have e : (u8s l).take m = u8s (l.take m) := by simp [u8s, List.map_take]
    rw [e, xh_splice hv4 hbl k (l.take m) (by rw [hlt]; omega), ← hbuf2] at h
    rw [partOf_zero hv4]
    exact h
  have hc37 : ∀ w3 v', List.length v' = 4 → Blk w3 b 83 (xhCells NN v' buf2 k) → w3.cell? ⟨b, 37, none⟩ = some (.int .i64 k) := by
    intro w3 v' h4 h
    rw [h.cell]
    exact xh_cnt h4 hbl2'
  obtain ⟨g, o, hRg, rfl, _⟩ := hs.get (by rw [hlenu]; omega)
  have hmin : m = Nat.min n (32 - k) := by rw [hm]; exact (Nat.min_eq_right (by omega)).symm
  have hmn : m ≤ n := by omega
  have hm0 : 0 < m := by omega
  have hk32i : (k : Int) ≤ 32 := by omega
  have hk32n : k ≤ 32 := by omega
  have hk32e : ¬ 32 = k := by omega
  have hk0 : 0 < k := by omega
  have hkm : k + m = 32 := by omega
  have hlt32 : decide ((k : Int) + (n : Int) < 32) = false := decide_eq_false (by omega)
  have hmni : (m : Int) ≤ (n : Int) := by omega
  obtain ⟨E, hE⟩ : ∃ E : Option Addr, (if c = m then some (⟨g, o, none⟩ : Addr) else some ⟨g, o + m, none⟩) = E := ⟨_, rfl⟩
  have hsE0 : ∀ W, Keep (· = b) w W → Sl W R E (u8s l1) := by
    intro W hW
    rw [hl1e, ← hE]
    exact (hs.keep hW (fun k _ hk => by rintro rfl; exact hR hk)).cut (by rw [← hn]; exact hc) m
  have hc1 : n - m ≤ c - m := by omega
  have HsE := Lib.hid hsE0
  have Hcw := Lib.hid hcw
  have Hc37 := Lib.hid hc37
  have Hlenu := Lib.hid hlenu
  have Hxl := Lib.hid hxl
  have Hmin := Lib.hid hmin
  have h1V := Lib.hid (u8s_one l)
  clear hacc' hrest' hsE0 hcw hc37 hlenu hxl hmin happ hst hdr hcat hbuf2 hlt hb2a hbl2' hbd2' hl1e hv1e hm hk hv hN0 hNN' hb hbl hbd hbt hd hv4 hrl hs hn h0
  go_enter Try.func39, Try.ntmps39
  go_wp2
  go_region_law (refine step_copy (R := R) rfl _ _ rfl elU8 (some ⟨b, 5 + k, none⟩) _ (32 - k) (32 - k) n c (5 + k) m rfl rfl hbS.drew (u8s l) hsS.drew Hmin.out Hlenu.out (fun _ => rfl) (by rw [Hxl.out]; omega) h1V.out ?_; intro w3 hb3 hk3)
  have qb_0 := Hcw.out w3 hb3
  have d37 := Hc37.out w3 _ (partOf_length _ _ _) qb_0
  have qk_0 : Keep (· = b) w w3 := hkS.drew.trans hk3
  clear hb3 hk3 hbS hkS hsS Hcw c0 c37 f0
  go_wp2
  obtain ⟨r0, hr⟩ : ∃ r0, r0 = rnd (v.getD 0 0) (lane buf2 0) := ⟨_, rfl⟩
  obtain ⟨y0, hy⟩ : ∃ y0, y0 = v.getD 0 0 := ⟨_, rfl⟩
  obtain ⟨z0, hz⟩ : ∃ z0, z0 = lane buf2 0 := ⟨_, rfl⟩
  have hryz : r0 = rnd y0 z0 := by rw [hr, hy, hz]
  have hcy : w3.cell? ⟨b, 1, none⟩ = some (.int .u64 (y0 : Nat)) := by rw [hy]; exact acc_cell (i := 0) qb_0 (by decide)
  have hfy := qb_0.frozen 1
  have C42 := Lib.hid (fun k => lane_call (R := (· = b)) (some ⟨b, 5, none⟩) 32 32 buf2 0 z0 w3 hz (by rw [hbl2.out]) (qb_0.xhBuf (partOf_length _ _ _)) hbd2.out (by omega) (by omega) k)
  have C41 := Lib.hid (fun (x : Value) k => quiet_round (v := x) hryz w3 k)
  have Hr := Lib.hid hr
  clear hr hy hz hryz
  refine wp_region_quiet_tail 16 (by kernel_rfl) (by kernel_rfl) ?_
  simp only [List.take_succ_cons, List.take_zero, List.drop_succ_cons, List.drop_zero]
  repeat (quiet_step (first | (go_at_call 42; with_reducible exact C42.out _) | (go_at_call 41; with_reducible exact C41.out _ _)))
  refine wpQuiet_nil ?_
  rintro _ ⟨nq, rfl⟩
  clear C42 C41
  go_wp2
  obtain ⟨W1, hWn⟩ : ∃ W1, (w3.drewN nq).setCell ⟨b, 1, none⟩ (.int .u64 (r0 : Nat)) = W1 := ⟨_, rfl⟩
  rw [hWn]
  have qb_1 : Blk W1 b 83 (xhCells NN (partOf v buf2 1) buf2 k) := by rw [← hWn]; exact acc_next (qb_0.drewN nq) (by decide) Hr.out
  have qk_1 : Keep (· = b) w W1 := by rw [← hWn]; exact (qk_0.drewN nq).set (p := ⟨b, 1, none⟩) (.inl rfl) _
  clear hcy hfy hWn qb_0 qk_0 Hr
  obtain ⟨r1, hr⟩ : ∃ r1, r1 = rnd (v.getD 1 0) (lane buf2 1) := ⟨_, rfl⟩
  obtain ⟨y1, hy⟩ : ∃ y1, y1 = v.getD 1 0 := ⟨_, rfl⟩
  obtain ⟨z1, hz⟩ : ∃ z1, z1 = lane buf2 1 := ⟨_, rfl⟩
  have hryz : r1 = rnd y1 z1 := by rw [hr, hy, hz]
  have hcy : W1.cell? ⟨b, 2, none⟩ = some (.int .u64 (y1 : Nat)) := by rw [hy]; exact acc_cell (i := 1) qb_1 (by decide)
  have hfy := qb_1.frozen 2
  have C42 := Lib.hid (fun k => lane_call (R := (· = b)) (some ⟨b, 13, none⟩) 24 24 buf2 1 z1 W1 hz (by rw [hbl2.out]) ((qb_1.xhBuf (partOf_length _ _ _)).cut' 8) hbd2.out (by omega) (by omega) k)
  have C41 := Lib.hid (fun (x : Value) k => quiet_round (v := x) hryz W1 k)
  have Hr := Lib.hid hr
  clear hr hy hz hryz
  refine wp_region_quiet_tail 16 (by kernel_rfl) (by kernel_rfl) ?_
  simp only [List.take_succ_cons, List.take_zero, List.drop_succ_cons, List.drop_zero]
  repeat (quiet_step (first | (go_at_call 42; with_reducible exact C42.out _) | (go_at_call 41; with_reducible exact C41.out _ _)))
  refine wpQuiet_nil ?_
  rintro _ ⟨nq, rfl⟩
  clear C42 C41
  go_wp2
  obtain ⟨W2, hWn⟩ : ∃ W2, (W1.drewN nq).setCell ⟨b, 2, none⟩ (.int .u64 (r1 : Nat)) = W2 := ⟨_, rfl⟩
  rw [hWn]
  have qb_2 : Blk W2 b 83 (xhCells NN (partOf v buf2 2) buf2 k) := by rw [← hWn]; exact acc_next (qb_1.drewN nq) (by decide) Hr.out
  have qk_2 : Keep (· = b) w W2 := by rw [← hWn]; exact (qk_1.drewN nq).set (p := ⟨b, 2, none⟩) (.inl rfl) _
  clear hcy hfy hWn qb_1 qk_1 Hr
  obtain ⟨r2, hr⟩ : ∃ r2, r2 = rnd (v.getD 2 0) (lane buf2 2) := ⟨_, rfl⟩
  obtain ⟨y2, hy⟩ : ∃ y2, y2 = v.getD 2 0 := ⟨_, rfl⟩
  obtain ⟨z2, hz⟩ : ∃ z2, z2 = lane buf2 2 := ⟨_, rfl⟩
  have hryz : r2 = rnd y2 z2 := by rw [hr, hy, hz]
  have hcy : W2.cell? ⟨b, 3, none⟩ = some (.int .u64 (y2 : Nat)) := by rw [hy]; exact acc_cell (i := 2) qb_2 (by decide)
  have hfy := qb_2.frozen 3
  have C42 := Lib.hid (fun k => lane_call (R := (· = b)) (some ⟨b, 21, none⟩) 16 16 buf2 2 z2 W2 hz (by rw [hbl2.out]) ((qb_2.xhBuf (partOf_length _ _ _)).cut' 16) hbd2.out (by omega) (by omega) k)
  have C41 := Lib.hid (fun (x : Value) k => quiet_round (v := x) hryz W2 k)
  have Hr := Lib.hid hr
  clear hr hy hz hryz
  refine wp_region_quiet_tail 16 (by kernel_rfl) (by kernel_rfl) ?_
  simp only [List.take_succ_cons, List.take_zero, List.drop_succ_cons, List.drop_zero]
  repeat (quiet_step (first | (go_at_call 42; with_reducible exact C42.out _) | (go_at_call 41; with_reducible exact C41.out _ _)))
  refine wpQuiet_nil ?_
  rintro _ ⟨nq, rfl⟩
  clear C42 C41
  go_wp2
  obtain ⟨W3, hWn⟩ : ∃ W3, (W2.drewN nq).setCell ⟨b, 3, none⟩ (.int .u64 (r2 : Nat)) = W3 := ⟨_, rfl⟩
  rw [hWn]
  have qb_3 : Blk W3 b 83 (xhCells NN (partOf v buf2 3) buf2 k) := by rw [← hWn]; exact acc_next (qb_2.drewN nq) (by decide) Hr.out
  have qk_3 : Keep (· = b) w W3 := by rw [← hWn]; exact (qk_2.drewN nq).set (p := ⟨b, 3, none⟩) (.inl rfl) _
  clear hcy hfy hWn qb_2 qk_2 Hr
  have d37 := Hc37.out W3 _ (partOf_length _ _ _) qb_3
  have e37 := qb_3.frozen 37
  obtain ⟨r3, hr⟩ : ∃ r3, r3 = rnd (v.getD 3 0) (lane buf2 3) := ⟨_, rfl⟩
  obtain ⟨y3, hy⟩ : ∃ y3, y3 = v.getD 3 0 := ⟨_, rfl⟩
  obtain ⟨z3, hz⟩ : ∃ z3, z3 = lane buf2 3 := ⟨_, rfl⟩
  have hryz : r3 = rnd y3 z3 := by rw [hr, hy, hz]
  have hcy : W3.cell? ⟨b, 4, none⟩ = some (.int .u64 (y3 : Nat)) := by rw [hy]; exact acc_cell (i := 3) qb_3 (by decide)
  have hfy := qb_3.frozen 4
  have C42 := Lib.hid (fun k => lane_call (R := (· = b)) (some ⟨b, 29, none⟩) 8 8 buf2 3 z3 W3 hz (by rw [hbl2.out]) ((qb_3.xhBuf (partOf_length _ _ _)).cut' 24) hbd2.out (by omega) (by omega) k)
  have C41 := Lib.hid (fun (x : Value) k => quiet_round (v := x) hryz W3 k)
  have Hr := Lib.hid hr
  clear hr hy hz hryz
  refine wp_region_quiet_tail 16 (by kernel_rfl) (by kernel_rfl) ?_
  simp only [List.take_succ_cons, List.take_zero, List.drop_succ_cons, List.drop_zero]
  repeat (quiet_step (first | (go_at_call 42; with_reducible exact C42.out _) | (go_at_call 41; with_reducible exact C41.out _ _)))
  refine wpQuiet_nil ?_
  rintro _ ⟨nq, rfl⟩
  clear C42 C41
  go_wp2
  obtain ⟨W4, hWn⟩ : ∃ W4, (W3.drewN nq).setCell ⟨b, 4, none⟩ (.int .u64 (r3 : Nat)) = W4 := ⟨_, rfl⟩
  rw [hWn]
  have qb_4 : Blk W4 b 83 (xhCells NN (partOf v buf2 4) buf2 k) := by rw [← hWn]; exact acc_next (qb_3.drewN nq) (by decide) Hr.out
  have qk_4 : Keep (· = b) w W4 := by rw [← hWn]; exact (qk_3.drewN nq).set (p := ⟨b, 4, none⟩) (.inl rfl) _
  clear hcy hfy hWn qb_3 qk_3 Hr
  have hb1 : Blk (W4.setCell ⟨b, 37, none⟩ (.int .i64 0)) b 83 (xhCells NN v1 buf2 0) := by
    rw [hv1s.out]
    exact Blk.cast (qb_4.set 37 _) (xh_set_cnt (partOf_length _ _ _) hbl2.out 0)
  have hk1 : Keep (· = b) w (W4.setCell ⟨b, 37, none⟩ (.int .i64 0)) := qk_4.set (p := ⟨b, 37, none⟩) (.inl rfl) _
  have hs1 := HsE.out _ hk1
  clear d37 e37 qb_4 qk_4 hE
  generalize W4.setCell ⟨b, 37, none⟩ (.int .i64 0) = WL at hb1 hk1 hs1 ⊢
  go_loopg [1] ((n - m) + 1) (fun gg s wr => ∃ (A2 : Option Addr) (n2 c2 : Nat) (l2 v2 : List Nat), n2 < gg ∧ s = .slice A2 n2 c2 ∧ n2 ≤ c2 ∧ Sl wr R A2 (u8s l2) ∧ n2 ≤ 2097152 ∧ Hid (n2 = l2.length) ∧ Hid (Bytes l2) ∧ Hid (v2.length = 4) ∧
    Hid (accOf v2 l2 = accOf acc0 (T ++ l)) ∧ Hid (restOf l2 = restOf (T ++ l)) ∧ Blk wr b 83 (xhCells NN v2 buf2 0) ∧ Keep (· = b) w wr)
  case atStart => exact ⟨E, (n - m), (c - m), l1, v1, by omega, rfl, hc1, hs1, by omega, hl1, hd1.out, hv1.out, hacc.out, hrest.out, hb1, hk1⟩
  case round =>
    clear hs1 hb1 hk1
    obtain ⟨A2, n2, c2, l2, v2, q1, rfl, q2, qs_0, q3, q5, q6, q7, q8, q9, qb0, qk_0⟩ := hrel
    by_cases hlt : 32 ≤ n2
    · have hlt2 : 32 ≤ l2.length := by rw [← q5.out]; exact hlt
      obtain ⟨g, o, hRg, rfl, _⟩ := qs_0.get (by simp; omega)
      have hc8 : ¬ c2 = 8 := by omega
      have hc16 : ¬ c2 = 16 := by omega
      have hc24 : ¬ c2 = 24 := by omega
      obtain ⟨E, hE⟩ : ∃ E : Option Addr, (if c2 = 32 then some (⟨g, o, none⟩ : Addr) else some ⟨g, o + 32, none⟩) = E := ⟨_, rfl⟩
      have hi8 : (8 : Int) ≤ (n2 : Int) := by omega
      have hi16 : (16 : Int) ≤ (n2 : Int) := by omega
      have hi24 : (24 : Int) ≤ (n2 : Int) := by omega
      have qb_0 : Blk wr b 83 (xhCells NN (partOf v2 l2 0) buf2 0) := by rw [partOf_zero q7.out]; exact qb0
      clear qb0
      go_wp2
      obtain ⟨r0, hr⟩ : ∃ r0, r0 = rnd (v2.getD 0 0) (lane l2 0) := ⟨_, rfl⟩
      obtain ⟨y0, hy⟩ : ∃ y0, y0 = v2.getD 0 0 := ⟨_, rfl⟩
      obtain ⟨z0, hz⟩ : ∃ z0, z0 = lane l2 0 := ⟨_, rfl⟩
      have hryz : r0 = rnd y0 z0 := by rw [hr, hy, hz]
      have hcy : wr.cell? ⟨b, 1, none⟩ = some (.int .u64 (y0 : Nat)) := by rw [hy]; exact acc_cell (i := 0) qb_0 (by decide)
      have hfy := qb_0.frozen 1
      have C42 := Lib.hid (fun k => lane_call (R := R) (some ⟨g, o, none⟩) n2 c2 l2 0 z0 wr hz (by have := q5.out; omega) qs_0 q6.out (by omega) (by omega) k)
      have C41 := Lib.hid (fun (x : Value) k => quiet_round (v := x) hryz wr k)
      have Hr := Lib.hid hr
      clear hr hy hz hryz
      refine wp_region_quiet_tail 13 (by kernel_rfl) (by kernel_rfl) ?_
      simp only [List.take_succ_cons, List.take_zero, List.drop_succ_cons, List.drop_zero]
      repeat (quiet_step (first | (go_at_call 42; with_reducible exact C42.out _) | (go_at_call 41; with_reducible exact C41.out _ _)))
      refine wpQuiet_nil ?_
      rintro _ ⟨nq, rfl⟩
      clear C42 C41
      go_wp2
      obtain ⟨W1, hWn⟩ : ∃ W1, (wr.drewN nq).setCell ⟨b, 1, none⟩ (.int .u64 (r0 : Nat)) = W1 := ⟨_, rfl⟩
      rw [hWn]
      have qb_1 : Blk W1 b 83 (xhCells NN (partOf v2 l2 1) buf2 0) := by rw [← hWn]; exact acc_next (qb_0.drewN nq) (by decide) Hr.out
      have qk_1 : Keep (· = b) w W1 := by rw [← hWn]; exact (qk_0.drewN nq).set (p := ⟨b, 1, none⟩) (.inl rfl) _
      have qs_1 : Sl W1 R (some ⟨g, o, none⟩) (u8s l2) := by
        rw [← hWn]
        exact (qs_0.drewN nq).keep ((Keep.refl (· = b) (wr.drewN nq)).set (p := ⟨b, 1, none⟩) (.inl rfl) _) (fun k _ hk => by rintro rfl; exact hR hk)
      clear hcy hfy hWn qb_0 qk_0 Hr qs_0
      obtain ⟨r1, hr⟩ : ∃ r1, r1 = rnd (v2.getD 1 0) (lane l2 1) := ⟨_, rfl⟩
      obtain ⟨y1, hy⟩ : ∃ y1, y1 = v2.getD 1 0 := ⟨_, rfl⟩
      obtain ⟨z1, hz⟩ : ∃ z1, z1 = lane l2 1 := ⟨_, rfl⟩
      have hryz : r1 = rnd y1 z1 := by rw [hr, hy, hz]
      have hcy : W1.cell? ⟨b, 2, none⟩ = some (.int .u64 (y1 : Nat)) := by rw [hy]; exact acc_cell (i := 1) qb_1 (by decide)
      have hfy := qb_1.frozen 2
      have C42 := Lib.hid (fun k => lane_call (R := R) (some ⟨g, o + 8, none⟩) (n2 - 8) (c2 - 8) l2 1 z1 W1 hz (by have := q5.out; omega) (qs_1.cut' 8) q6.out (by omega) (by omega) k)
      have C41 := Lib.hid (fun (x : Value) k => quiet_round (v := x) hryz W1 k)
      have Hr := Lib.hid hr
      clear hr hy hz hryz
      refine wp_region_quiet_tail 14 (by kernel_rfl) (by kernel_rfl) ?_
      simp only [List.take_succ_cons, List.take_zero, List.drop_succ_cons, List.drop_zero]
      repeat (quiet_step (first | (go_at_call 42; with_reducible exact C42.out _) | (go_at_call 41; with_reducible exact C41.out _ _)))
      refine wpQuiet_nil ?_
      rintro _ ⟨nq, rfl⟩
      clear C42 C41
      go_wp2
      obtain ⟨W2, hWn⟩ : ∃ W2, (W1.drewN nq).setCell ⟨b, 2, none⟩ (.int .u64 (r1 : Nat)) = W2 := ⟨_, rfl⟩
      rw [hWn]
      have qb_2 : Blk W2 b 83 (xhCells NN (partOf v2 l2 2) buf2 0) := by rw [← hWn]; exact acc_next (qb_1.drewN nq) (by decide) Hr.out
      have qk_2 : Keep (· = b) w W2 := by rw [← hWn]; exact (qk_1.drewN nq).set (p := ⟨b, 2, none⟩) (.inl rfl) _
      have qs_2 : Sl W2 R (some ⟨g, o, none⟩) (u8s l2) := by
        rw [← hWn]
        exact (qs_1.drewN nq).keep ((Keep.refl (· = b) (W1.drewN nq)).set (p := ⟨b, 2, none⟩) (.inl rfl) _) (fun k _ hk => by rintro rfl; exact hR hk)
      clear hcy hfy hWn qb_1 qk_1 Hr qs_1
      obtain ⟨r2, hr⟩ : ∃ r2, r2 = rnd (v2.getD 2 0) (lane l2 2) := ⟨_, rfl⟩
      obtain ⟨y2, hy⟩ : ∃ y2, y2 = v2.getD 2 0 := ⟨_, rfl⟩
      obtain ⟨z2, hz⟩ : ∃ z2, z2 = lane l2 2 := ⟨_, rfl⟩
      have hryz : r2 = rnd y2 z2 := by rw [hr, hy, hz]
      have hcy : W2.cell? ⟨b, 3, none⟩ = some (.int .u64 (y2 : Nat)) := by rw [hy]; exact acc_cell (i := 2) qb_2 (by decide)
      have hfy := qb_2.frozen 3
      have C42 := Lib.hid (fun k => lane_call (R := R) (some ⟨g, o + 16, none⟩) (n2 - 16) (c2 - 16) l2 2 z2 W2 hz (by have := q5.out; omega) (qs_2.cut' 16) q6.out (by omega) (by omega) k)
      have C41 := Lib.hid (fun (x : Value) k => quiet_round (v := x) hryz W2 k)
      have Hr := Lib.hid hr
      clear hr hy hz hryz
      refine wp_region_quiet_tail 14 (by kernel_rfl) (by kernel_rfl) ?_
      simp only [List.take_succ_cons, List.take_zero, List.drop_succ_cons, List.drop_zero]
      repeat (quiet_step (first | (go_at_call 42; with_reducible exact C42.out _) | (go_at_call 41; with_reducible exact C41.out _ _)))
      refine wpQuiet_nil ?_
      rintro _ ⟨nq, rfl⟩
      clear C42 C41
      go_wp2
      obtain ⟨W3, hWn⟩ : ∃ W3, (W2.drewN nq).setCell ⟨b, 3, none⟩ (.int .u64 (r2 : Nat)) = W3 := ⟨_, rfl⟩
      rw [hWn]
      have qb_3 : Blk W3 b 83 (xhCells NN (partOf v2 l2 3) buf2 0) := by rw [← hWn]; exact acc_next (qb_2.drewN nq) (by decide) Hr.out
      have qk_3 : Keep (· = b) w W3 := by rw [← hWn]; exact (qk_2.drewN nq).set (p := ⟨b, 3, none⟩) (.inl rfl) _
      have qs_3 : Sl W3 R (some ⟨g, o, none⟩) (u8s l2) := by
        rw [← hWn]
        exact (qs_2.drewN nq).keep ((Keep.refl (· = b) (W2.drewN nq)).set (p := ⟨b, 3, none⟩) (.inl rfl) _) (fun k _ hk => by rintro rfl; exact hR hk)
      clear hcy hfy hWn qb_2 qk_2 Hr qs_2
      obtain ⟨r3, hr⟩ : ∃ r3, r3 = rnd (v2.getD 3 0) (lane l2 3) := ⟨_, rfl⟩
      obtain ⟨y3, hy⟩ : ∃ y3, y3 = v2.getD 3 0 := ⟨_, rfl⟩
      obtain ⟨z3, hz⟩ : ∃ z3, z3 = lane l2 3 := ⟨_, rfl⟩
      have hryz : r3 = rnd y3 z3 := by rw [hr, hy, hz]
      have hcy : W3.cell? ⟨b, 4, none⟩ = some (.int .u64 (y3 : Nat)) := by rw [hy]; exact acc_cell (i := 3) qb_3 (by decide)
      have hfy := qb_3.frozen 4
      have C42 := Lib.hid (fun k => lane_call (R := R) (some ⟨g, o + 24, none⟩) (n2 - 24) (c2 - 24) l2 3 z3 W3 hz (by have := q5.out; omega) (qs_3.cut' 24) q6.out (by omega) (by omega) k)
      have C41 := Lib.hid (fun (x : Value) k => quiet_round (v := x) hryz W3 k)
      have Hr := Lib.hid hr
      clear hr hy hz hryz
      refine wp_region_quiet_tail 14 (by kernel_rfl) (by kernel_rfl) ?_
      simp only [List.take_succ_cons, List.take_zero, List.drop_succ_cons, List.drop_zero]
      repeat (quiet_step (first | (go_at_call 42; with_reducible exact C42.out _) | (go_at_call 41; with_reducible exact C41.out _ _)))
      refine wpQuiet_nil ?_
      rintro _ ⟨nq, rfl⟩
      clear C42 C41
      go_wp2
      obtain ⟨W4, hWn⟩ : ∃ W4, (W3.drewN nq).setCell ⟨b, 4, none⟩ (.int .u64 (r3 : Nat)) = W4 := ⟨_, rfl⟩
      rw [hWn]
      have qb_4 : Blk W4 b 83 (xhCells NN (partOf v2 l2 4) buf2 0) := by rw [← hWn]; exact acc_next (qb_3.drewN nq) (by decide) Hr.out
      have qk_4 : Keep (· = b) w W4 := by rw [← hWn]; exact (qk_3.drewN nq).set (p := ⟨b, 4, none⟩) (.inl rfl) _
      have qs_4 : Sl W4 R (some ⟨g, o, none⟩) (u8s l2) := by
        rw [← hWn]
        exact (qs_3.drewN nq).keep ((Keep.refl (· = b) (W3.drewN nq)).set (p := ⟨b, 4, none⟩) (.inl rfl) _) (fun k _ hk => by rintro rfl; exact hR hk)
      clear hcy hfy hWn qb_3 qk_3 Hr qs_3
      have hsE : Sl W4 R E (u8s (l2.drop 32)) := by rw [← hE]; exact qs_4.cut (by rw [← q5.out]; exact q2) 32
      have ha := accOf_step (v := v2) hlt2
      have hr := restOf_step hlt2
      have Ha := Lib.hid ha
      have Hr := Lib.hid hr
      clear ha hr
      go_roundg n2
      case measure => exact q1
      case rel =>
        exact ⟨E, n2 - 32, c2 - 32, l2.drop 32, stripe v2 l2, by omega, rfl, by omega, hsE, by omega, by show _ = _; rw [List.length_drop, ← q5.out], q6.out.drop 32, stripe_length v2 l2, Ha.out.symm.trans q8.out, Hr.out.symm.trans q9.out, qb_4, qk_4⟩
    · have hshort : l2.length < 32 := by rw [← q5.out]; omega
      have hacc2 : accOf acc0 (T ++ l) = v2 := by rw [← q8.out, accOf_short hshort]
      have hrest2 : restOf (T ++ l) = l2 := by rw [← q9.out, restOf_short hshort]
      have hcnt : (T ++ l).length % 32 = n2 := by rw [← restOf_length, hrest2, q5.out]
      have c37 : wr.cell? ⟨b, 37, none⟩ = some (.int .i64 0) := by rw [qb0.cell]; exact xh_cnt q7.out hbl2.out
      have f37 := qb0.frozen 37
      have Hacc2 := Lib.hid hacc2
      have Hrest2 := Lib.hid hrest2
      have Hcnt := Lib.hid hcnt
      clear hshort hacc2 hrest2 hcnt
      by_cases h0 : n2 = 0
      · subst h0
        go_wp2
        go_end0
        refine ⟨rfl, ⟨buf2, hbl2.out, hbd2.out, ?_, ?_⟩, qk_0⟩
        · rw [Hcnt.out, Hrest2.out, List.eq_nil_of_length_eq_zero q5.out.symm]; rfl
        · rw [Hcnt.out, Hacc2.out, ← hNN.out]; exact qb0
      · have hlenu : (u8s l2).length = n2 := by rw [u8s_length, q5.out]
        have hxl : (xhCells NN v2 buf2 0).length = 38 := xh_length q7.out hbl2.out
        have Hlenu := Lib.hid hlenu
        have Hxl := Lib.hid hxl
        have h1V := Lib.hid (u8s_one l2)
        clear hlenu hxl
        go_wp2_with (refine wpList_copy (R := R) rfl (.tmp 193) (.tmp 194) rfl elU8 (some ⟨b, 5, none⟩) A2 32 32 n2 c2 5 n2 rfl rfl qb0 (u8s l2) qs_0 (Nat.min_eq_left (by omega)).symm Hlenu.out (fun _ => rfl) (by rw [Hxl.out]; omega) h1V.out ?_; intro w3 hb3 hk3; have f37 := hb3.frozen 37; have c37 : ∃ u, w3.cell? ⟨b, 37, none⟩ = some u := ⟨_, by rw [hb3.cell, List.take_of_length_le (by rw [Hlenu.out]; omega), show (5 : Nat) = 5 + 0 from rfl, xh_splice q7.out hbl2.out 0 l2 (by rw [← q5.out]; omega)]; exact xh_cnt q7.out (by rw [splice_len (by rw [hbl2.out, ← q5.out]; omega)]; exact hbl2.out)⟩; obtain ⟨u37, c37⟩ := c37)
        go_end0
        rw [List.take_of_length_le (by rw [Hlenu.out]; omega), show (5 : Nat) = 5 + 0 from rfl, xh_splice q7.out hbl2.out 0 l2 (by rw [← q5.out]; omega)] at hb3
        have hbl3 : (splice buf2 0 l2).length = 32 := by rw [splice_len (by rw [hbl2.out, ← q5.out]; omega)]; exact hbl2.out
        refine ⟨rfl, ⟨splice buf2 0 l2, hbl3, splice_bytes hbd2.out q6.out, ?_, ?_⟩, (qk_0.trans hk3).set (p := ⟨b, 37, none⟩) (.inl rfl) _⟩
        · have := fill_more buf2 l2 0 (by rw [hbl2.out, ← q5.out]; omega)
          rw [Nat.zero_add, ← q5.out, List.take_zero, List.nil_append] at this
          rw [Hcnt.out, Hrest2.out]
          exact this
        · rw [Hcnt.out, Hacc2.out, ← hNN.out]
          exact Blk.cast (hb3.set 37 _) (xh_set_cnt q7.out hbl3 n2)
/-- The checksum goes on by a part. -/
theorem update_any {R : Nat → Prop} (b : Nat) (A : Option Addr) (n c : Nat) (T l : List Nat) (hn : n = l.length) (w : World) (hx : XH w b T) (hs : Sl w R A (u8s l)) (hR : ¬ R b) (hd : Bytes l) (hc : n ≤ c) (hbig : T.length + n ≤ 2097152) :
    Calls Try.prog 39 #[.pointer (some ⟨b, 0, none⟩), .slice A n c] w fun e w' => e = .returned (.tuple #[]) ∧ XH w' b (T ++ l) ∧ Keep (· = b) w w' := by
  by_cases h32 : T.length % 32 + n < 32
  · exact update_short b A n c T l hn w hx hs hR hd hbig h32
  · by_cases h0 : T.length % 32 = 0
    · exact update_long0 b A n c T l hn w hx hs hR hd hc hbig h0 (by omega)
    · exact update_full b A n c T l hn w hx hs hR hd hc hbig h0 (by omega)
end Go.Proofs.Ytabaholflahepaa
