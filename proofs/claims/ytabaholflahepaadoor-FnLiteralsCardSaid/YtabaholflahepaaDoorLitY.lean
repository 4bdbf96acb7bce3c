/-
  Contract of spec.literals: compressed literals.
-/
import Derived.Test.YtabaholflahepaaDoorLitX2
import Derived.Test.YtabaholflahepaaDoorLitM
namespace Go.Proofs.YtabaholflahepaaDoor
open Go.RowKit

theorem TreeAt.keep {S : Nat → Prop} {w w' : World} {b base m nn : Nat} {rs : List (Nat × Nat)} (h : TreeAt w b base m nn rs) (hk : Keep S w w') (hb : ¬ S b) (hS : ∀ j, base ≤ j → ¬ S j) : TreeAt w' b base m nn rs := by
  obtain ⟨A1, c1, A2, c2, h1, h2, h3, h4, h5⟩ := h
  exact ⟨A1, c1, A2, c2, h1.keep hk hb, h2, own_keep h3 hk (fun j hj => hS j (h3.lt j hj).1), own_keep h4 hk (fun j hj => hS j (h4.lt j hj).1), h5⟩
theorem and_mask_i {v wd n : Nat} (h : v < 1099511627776) (hw : wd ≤ 18) (hn : v % 2 ^ wd = n) : Go.bits .and .i64 (v : Int) ((2 ^ wd - 1 : Nat) : Int) = (n : Int) := by
  have hp : (2 : Nat) ^ wd ≤ 2 ^ 18 := Nat.pow_le_pow_right (by decide) hw
  have e : (2 : Nat) ^ 18 = 262144 := by decide
  rw [i64_and_nat v _ (by omega) (by omega), and_mask, hn]

set_option maxHeartbeats 8000000 in
set_option maxRecDepth 4000 in
theorem specLitH0 {R : Nat → Prop} (sb : Nat) (sc : List Value) (A : Option Addr) (c : Nat) (ds : List Nat) (b0 k : Nat) (w : World) (hs : Sl w R A (u8s ds)) (hRw : ∀ j, R j → j < w.heap.size) (hRs : ¬ R sb) (hsb : Blk w sb 138 sc) (hsc : sc[2]? = some (.pointer none)) (hd : Bytes ds) (hlen : ds.length ≤ 1048576) (hc : ds.length ≤ c)
    (h0 : ds[0]? = some b0) (hk : b0 % 4 = k) (hk2 : 2 ≤ k) (hf : b0 / 4 % 4 = 0) :
    Calls Tryd.prog 65 #[.pointer (some ⟨sb, 0, none⟩), .slice A ds.length c] w (SLitPost R (· = sb) w (litH ds k 0)) := by
  have h256 := hd b0 (List.mem_of_getElem? h0)
  have hl0 : 0 < ds.length := (List.getElem?_eq_some_iff.1 h0).1
  have hg0 : ds.getD 0 0 = b0 := by rw [List.getD_eq_getElem?_getD, h0]; rfl
  obtain ⟨g, o, hRg, rfl, hcell⟩ := hs.get (by simp; omega)
  have hc0 : w.cell? ⟨g, o, none⟩ = some (.int .u8 (b0 : Int)) := by
    have h := hcell 0 _ (u8s_at hl0)
    rw [hg0] at h
    exact h
  have hsb2 : w.cell? ⟨sb, 2, none⟩ = some (.pointer none) := by rw [hsb.cell]; exact hsc
  have hsbl := hsb.lt
  have hbk : Go.bits .and .i64 (b0 : Int) 3 = (k : Int) := by rw [and_i64_3s h256, hk]
  have hbf : Go.bits .and .i64 ((b0 : Int) / 4) 3 = 0 := by
    have h := and_i64_3s (a := b0 / 4) (by omega)
    rw [hf, show ((b0 / 4 : Nat) : Int) = (b0 : Int) / 4 by omega] at h
    exact h
  obtain ⟨N, hN⟩ : ∃ N, N = ds.length := ⟨_, rfl⟩
  obtain ⟨n, hn⟩ : ∃ x, x = lmany ds 0 := ⟨_, rfl⟩
  obtain ⟨z, hz⟩ : ∃ x, x = lsize ds 0 := ⟨_, rfl⟩
  have hO : hd2 0 = 3 := rfl
  have hlr : litH ds k 0 = if N < 3 then (2, [], 0) else if N < 3 + z then (2, [], 0) else if k ≠ 2 then (2, [], 0) else match treeS ((ds.drop 3).take z) with
      | none => (2, [], 0)
      | some (al, m, q) => litT ds 0 m al q := by
    unfold litH
    rw [← hN, ← hz, hO]
    rfl
  have hlt : ∀ al m q, litT ds 0 m al q = if 1 ∉ al then (0, [], 0) else if 131072 < n ∨ n = 0 then (0, [], 0) else ((strV (((ds.drop 3).take z).drop q) m (rowsTo al m m) n false).1, (strV (((ds.drop 3).take z).drop q) m (rowsTo al m m) n false).2, 3 + z) := by
    intro al m q
    unfold litT
    rw [← hn, ← hz, hO]
    rfl
  obtain ⟨v, hv⟩ : ∃ x, x = num (ds.take 3) / 16 := ⟨_, rfl⟩
  have hnb : num (ds.take 3) < 1099511627776 := by
    have h := num_bound (ds.take 3) (fun y hy => hd y (List.mem_of_mem_take hy))
    have h2 : (2 : Nat) ^ (8 * (ds.take 3).length) ≤ 2 ^ 40 := Nat.pow_le_pow_right (by decide) (by rw [List.length_take]; omega)
    omega
  have hvi : ((num (ds.take 3) : Nat) : Int) / 16 = (v : Int) := by omega
  have hnv : v % 2 ^ 10 = n := by rw [hv, hn]; rfl
  have hzv : v / 2 ^ 10 = z := by rw [hv, hz]; rfl
  have hand : Go.bits .and .i64 (v : Int) 1023 = (n : Int) := and_mask_i (wd := 10) (by omega) (by decide) hnv
  have hvz : (v : Int) / 1024 = (z : Int) := by
    have e : (2 : Nat) ^ 10 = 1024 := by decide
    rw [e] at hzv
    omega
  have hnP : n < 1024 := by
    have e : (2 : Nat) ^ 10 = 1024 := by decide
    rw [e] at hnv
    omega
  have hzP : z < 4294967296 * 4 := by
    have e : (2 : Nat) ^ 10 = 1024 := by decide
    rw [e] at hzv
    omega
  have Hlr := Lib.hid hlr
  have Hlt := Lib.hid hlt
  have Hs := Lib.hid hs
  have Hd := Lib.hid hd
  have HRw := Lib.hid hRw
  have Hsb := Lib.hid hsb
  rw [← hN] at hlen hc hl0 ⊢
  have HN := Lib.hid hN
  have h23 : k = 2 ∨ k = 3 := by omega
  have hN0 : ((N : Int) == 0) = false := by rw [beq_eq_false_iff_ne]; omega
  clear hs hd hN hcell hg0 hk hf hlr hlt hO hn hz hv hnv hzv hRw hsb
  go_enter Tryd.func65, Tryd.ntmps65
  go_upto_region 3 with (fail)
  go_quiet (fail)
  generalize hW1 : w.drewN nq = W1
  have hk1 : Kept w W1 := hW1 ▸ (Keep.refl _ _).drewN _
  have hkl : ¬ (k : Int) < 2 := by omega
  clear hW1
  go_upto_region 24 with (fail)
  go_cut [13, 14] from 99 to 107 (fun s13 s14 wx => s13 = .int .i64 3 ∧ s14 = .int .i64 10 ∧ Kept w wx)
  case first =>
    have hA1 : ∀ w' : World, (w'.alloc (.cells #[.int .i64 3, .int .i64 3, .int .i64 4, .int .i64 5] 3)).cell? ⟨w'.heap.size, 0, none⟩ = some (.int .i64 3) := fun w' => (Blk.new w' 3 [.int .i64 3, .int .i64 3, .int .i64 4, .int .i64 5]).cell 0
    have hA2 : ∀ w' : World, (w'.alloc (.cells #[.int .i64 10, .int .i64 10, .int .i64 14, .int .i64 18] 3)).cell? ⟨w'.heap.size, 0, none⟩ = some (.int .i64 10) := fun w' => (Blk.new w' 3 [.int .i64 10, .int .i64 10, .int .i64 14, .int .i64 18]).cell 0
    go_region_with (fail)
    all_goals
      go_wp2_with fail
      go_meet
      case rel => exact ⟨rfl, rfl, by first | exact ((hk1.alloc _).alloc _).drew | exact hk1.any _⟩
  case rest =>
  obtain ⟨rfl, rfl, hk3⟩ := hcut
  clear hk1
  have Hk3 := Lib.hid hk3
  by_cases hshort : N < 3
  · go_wp2
    go_ret3
    rw [Hlr.out, if_pos hshort]
    exact ⟨hk3.any _, .inr ⟨by decide, by decide, _, _, rfl⟩⟩
  have hfr : Sl w R (if c = 0 then some (⟨g, o, none⟩ : Addr) else (some (⟨g, o, none⟩ : Addr)).map (·.add (0 * 1))) (u8s (ds.take 3)) := Hs.out.front c 3
  have hrun : ∀ w', Sem.run Tryd.prog (Instr.sliceAt 22 (.slice (some ⟨g, o, none⟩) N c) none (some (.int .i64 3)) none) w' = .ok (.slice (if c = 0 then some (⟨g, o, none⟩ : Addr) else (some (⟨g, o, none⟩ : Addr)).map (·.add (0 * 1))) 3 c) w' := fun w' => run_front (some ⟨g, o, none⟩) N c 3 (by omega) w'
  generalize (if c = 0 then some (⟨g, o, none⟩ : Addr) else (some (⟨g, o, none⟩ : Addr)).map (·.add (0 * 1))) = E0 at hfr hrun
  have hnum := numberLow_any (R := R) E0 3 c (ds.take 3) (by rw [List.length_take, ← HN.out]; omega) wc (hfr.kept hk3) (fun y hy => Hd.out y (List.mem_of_mem_take hy)) (by decide)
  have Hnum := Lib.hid hnum
  clear hnum hfr
  go_upto_region 28 with (go_at_call 87; (with_reducible refine Hnum.out.mono ?_); rintro e w1 ⟨rfl, rfl⟩)
  go_quiet (fail)
  generalize hW4 : World.drewN wc _ = W4
  have hk4 : Kept w W4 := hW4 ▸ hk3.drewN _
  clear hW4 hk3 Hk3 hrun Hnum
  by_cases hbig : N < 3 + z
  · go_wp2
    go_ret3
    rw [Hlr.out, if_neg hshort, if_pos hbig]
    exact ⟨hk4.any _, .inr ⟨by decide, by decide, _, _, rfl⟩⟩
  obtain ⟨win, hwin⟩ : ∃ x, x = (ds.drop 3).take z := ⟨_, rfl⟩
  have hwl : win.length = z := by rw [hwin, List.length_take, List.length_drop, ← HN.out]; omega
  have hpart : Sl w R (if c = 3 then some (⟨g, o, none⟩ : Addr) else (some (⟨g, o, none⟩ : Addr)).map (·.add (3 * 1))) (u8s win) := by
    rw [hwin]
    exact (Hs.out.back (c := c) (k := 3) (by rw [← HN.out]; exact hc)).firsts z
  have hrun2 : ∀ w', Sem.run Tryd.prog (Instr.sliceAt 22 (.slice (some ⟨g, o, none⟩) N c) (some (.int .i64 3)) (some (.int .i64 ((3 : Int) + (z : Int)))) none) w' = .ok (.slice (if c = 3 then some (⟨g, o, none⟩ : Addr) else (some (⟨g, o, none⟩ : Addr)).map (·.add (3 * 1))) z (c - 3)) w' := fun w' => run_mid (some ⟨g, o, none⟩) N c 3 z (by omega) hc w'
  generalize (if c = 3 then some (⟨g, o, none⟩ : Addr) else (some (⟨g, o, none⟩ : Addr)).map (·.add (3 * 1))) = E1 at hpart hrun2
  obtain ⟨c2, hc2⟩ : ∃ x, x = c - 3 := ⟨_, rfl⟩
  rw [← hc2] at hrun2
  have hzc : z ≤ c2 := by omega
  have hwb : Bytes win := fun y hy => Hd.out y (by rw [hwin] at hy; exact List.mem_of_mem_drop (List.mem_of_mem_take hy))
  have hsbW : W4.cell? ⟨sb, 2, none⟩ = some (.pointer none) := hk4.cell hsb2 (fun h => h)
  have hsb4 := Hsb.out.kept hk4
  have hsf4 := hsb4.frozen 2
  have Hsb4 := Lib.hid hsb4
  have Hwl := Lib.hid hwl
  have Hwin := Lib.hid hwin
  have Hpart := Lib.hid (hpart.kept hk4)
  have Hwb := Lib.hid hwb
  have HRw4 := Lib.hid (fun j (hj : R j) => Nat.lt_of_lt_of_le (HRw.out j hj) hk4.size)
  have hsw4 : w.heap.size ≤ W4.heap.size := hk4.size
  have hz20 : z ≤ 1048576 := by omega
  clear hwl hwin hpart hwb hsb4 Hs hc2
  rcases h23 with rfl | rfl
  rotate_left
  · go_wp2
    go_ret3
    rw [Hlr.out, if_neg hshort, if_neg hbig, if_pos (by decide)]
    exact ⟨hk4.any _, .inr ⟨by decide, by decide, _, _, rfl⟩⟩
  have hlr0 : treeS win = none → litH ds 2 0 = (2, [], 0) := fun h => by
    rw [Hlr.out, if_neg hshort, if_neg hbig, if_neg (by decide), ← Hwin.out]
    simp only [h]
  have hlr1 : ∀ al m q, treeS win = some (al, m, q) → litH ds 2 0 = litT ds 0 m al q := fun al m q h => by
    rw [Hlr.out, if_neg hshort, if_neg hbig, if_neg (by decide), ← Hwin.out]
    simp only [h]
  have Hlr0 := Lib.hid hlr0
  have Hlr1 := Lib.hid hlr1
  have htree := treeOf_any (R := R) E1 z c2 win Hwl.out.symm W4 Hpart.out HRw4.out Hwb.out hz20 hzc
  have Htree := Lib.hid htree
  clear hlr0 hlr1 htree hsb2
  go_upto_region 36 with (go_at_call 64; (with_reducible refine Htree.out.mono ?_); rintro e w5 ⟨hk5, ⟨al, m, q, b, nn, ht, rfl, hb, hta⟩ | ⟨ht, p, z', rfl⟩⟩)
  rotate_left
  · have Ht := Lib.hid ht
    clear ht
    go_wp2
    go_ret3
    rw [Hlr0.out Ht.out]
    exact ⟨Kept.any (hk4.trans hk5) _, .inr ⟨by decide, by decide, _, _, rfl⟩⟩
  have HtA := Lib.hid hta
  obtain ⟨A1, c1, A2, c3, hta, hnn, ho1, ho2, hap⟩ := hta
  obtain ⟨ws, hws, htp⟩ := (treeS_some ht).2.2.2
  have hqz : q ≤ z := by have := (treeS_some ht).2.2.1; rw [Hwl.out] at this; exact this
  have hts := treeP_some htp
  have hm1 : 1 ≤ m := by rw [hts.2.2.1]; unfold mostW; omega
  obtain ⟨x, r, hr, hx1, hx2⟩ := first_row hts.2.2.2.2.2.2.2 hts.2.2.2.2.2.2.1 hm1
  have hm11 := hts.2.2.2.1
  have hlen2 : nn = 2 ^ m := by rw [hnn, rows_length hts.2.2.2.2.2.2.2, hts.2.2.2.2.2.2.1]
  have hrow : ∀ x ∈ rowsTo al m m, x.1 < 256 ∧ x.2 ≤ 11 := fun x hx => by
    obtain ⟨v, h2, h3, h4, h5⟩ := rowsTo_mem hx
    have hwl := (wtsIn_fine Hwb.out hws).2
    have hal : al.length ≤ 256 := by rw [hts.2.2.2.2.1, List.length_append]; simp; omega
    have := (List.getElem?_eq_some_iff.1 h4).1
    omega
  have hnn0 : 0 < nn := by rw [hlen2]; exact pow_pos' _
  obtain ⟨g2, o2, y, _, hA2, hcy, hyk⟩ := (Sl.of_own ho2).nat (k := 0) (by rw [List.length_map, ← hnn]; omega)
  rw [Nat.add_zero] at hcy
  have hy : y = x.2 := by
    have := hyk.out
    rw [hr] at this
    simpa using this.symm
  have d1 : w5.cell? ⟨b, 1, none⟩ = some (.slice A2 nn c3) := hta.cell 1
  have d2 : w5.cell? ⟨b, 2, none⟩ = some (.int .i64 (m : Int)) := hta.cell 2
  subst hA2
  have Ht := Lib.hid ht
  have Hrow := Lib.hid hrow
  have Hlen2 := Lib.hid hlen2
  have hk45 := hk4.trans hk5
  have Hlq := Lib.hid (Hlr1.out al m q ht)
  have h1al : (y < m ↔ 1 ∉ al) := by rw [hy]; exact hx1
  have H1al := Lib.hid h1al
  have hbs : sb ≠ b := by omega
  have e5 : w5.cell? ⟨sb, 2, none⟩ = some (.pointer none) := hk5.cell hsbW (fun h => h)
  have hsb5 := Hsb4.out.kept hk5
  have Hsb5 := Lib.hid hsb5
  have Hp5 := Lib.hid (Hpart.out.kept hk5)
  clear hr ht hts htp hws ho1 ho2 hap hta hrow hlen2 hnn hy hyk hx1 hx2 h1al hsb5 hsbW Htree
  by_cases hlt : y < m
  · have hyb : decide ((y : Int) < (m : Int)) = true := decide_eq_true (by omega)
    have hyb2 : decide (y < m) = true := decide_eq_true hlt
    go_quiet (fail)
    go_wp2
    go_ret3
    rw [Hlq.out, Hlt.out, if_pos (H1al.out.1 hlt)]
    exact ⟨Kept.any (hk45.drewN _) _, .inr ⟨by decide, by decide, _, _, rfl⟩⟩
  have hyb : decide ((y : Int) < (m : Int)) = false := decide_eq_false (by omega)
  have hyb2 : decide (y < m) = false := decide_eq_false hlt
  go_quiet (fail)
  generalize hW6 : World.drewN w5 _ = W6
  have hk56 : Kept w5 W6 := hW6 ▸ (Keep.refl _ _).drewN _
  have e6 : W6.cell? ⟨sb, 2, none⟩ = some (.pointer none) := hk56.cell e5 (fun h => h)
  have hsb6 := Hsb5.out.kept hk56
  have f6 := hsb6.frozen 2
  have hk6 := hk45.trans hk56
  have Hsb6 := Lib.hid hsb6
  have hrun3 : ∀ w', Sem.run Tryd.prog (Instr.sliceAt 22 (.slice E1 z c2) (some (.int .i64 (q : Int))) none none) w' = .ok (.slice (if c2 = q then E1 else E1.map (·.add (q * 1))) (z - q) (c2 - q)) w' := fun w' => run_back E1 z c2 q hqz w'
  have hp6 : Sl W6 R (if c2 = q then E1 else E1.map (·.add (q * 1))) (u8s (win.drop q)) := (Hp5.out.kept hk56).back (c := c2) (k := q) (by rw [Hwl.out]; exact hzc)
  generalize (if c2 = q then E1 else E1.map (·.add (q * 1))) = E2 at hp6 hrun3
  have hdl : (win.drop q).length = z - q := by rw [List.length_drop, Hwl.out]
  obtain ⟨sq, hsq⟩ : ∃ x, x = z - q := ⟨_, rfl⟩
  obtain ⟨c5, hc5⟩ : ∃ x, x = c2 - q := ⟨_, rfl⟩
  have hsc5 : sq ≤ c5 := by omega
  have hsq20 : sq ≤ 1048576 := by omega
  rw [← hsq] at hdl hrun3
  rw [← hc5] at hrun3
  have Hdl := Lib.hid hdl
  have Hp6 := Lib.hid hp6
  have Hk56 := Lib.hid hk56
  have hsz6 : W4.heap.size ≤ W6.heap.size := (hk5.trans hk56).size
  clear hp6 hdl hsq hc5 hsb6 hW6 e5 hk45 hcy d1 d2 hyb hyb2
  go_upto_region 38 with (fail)
  go_cut [18] from 157 to 164 (fun s18 wx => s18 = .slice E2 sq c5 ∧ Keep (· = sb) W6 wx ∧ Blk wx sb 138 (sc.set 2 (.pointer (some ⟨b, 0, none⟩))))
  case first =>
    go_region
    all_goals
      go_wp2_with fail
      go_meet
      case rel => exact ⟨rfl, by first | exact ((Keep.refl (· = sb) W6).set (p := ⟨sb, 2, none⟩) (.inl rfl) _).drew | exact ((Keep.refl (· = sb) W6).drew).set (p := ⟨sb, 2, none⟩) (.inl rfl) _, by first | exact (Hsb6.out.set 2 _).drew | exact Hsb6.out.drew.set 2 _⟩
  case rest =>
  obtain ⟨rfl, hk7, hsb7⟩ := hcut
  have e7 : wc.cell? ⟨sb, 2, none⟩ = some (.pointer (some ⟨b, 0, none⟩)) := by
    rw [hsb7.cell, List.getElem?_set_self (by have := (List.getElem?_eq_some_iff.1 hsc).1; exact this)]
  have hkw7 : Keep (· = sb) w wc := (Kept.any hk6 _).trans hk7
  have ht7 := (HtA.out.kept Hk56.out).keep hk7 (fun h => hbs h.symm) (fun j hj h => by omega)
  have hp7 := Hp6.out.keep hk7 (fun j _ h1 h2 => hRs (h2 ▸ h1))
  have hs7 := hk7.size
  have Ht7 := Lib.hid ht7
  have Hp7 := Lib.hid hp7
  clear ht7 hp7 e6 f6 hsb7 hrun3
  have hal1 : ¬ 1 ∉ al := fun h => hlt (H1al.out.2 h)
  by_cases hnb : 131072 < n
  · exfalso; omega
  by_cases hn0 : n = 0
  · subst hn0
    go_wp2
    go_ret3
    rw [Hlq.out, Hlt.out, if_neg hal1, if_pos (.inr trivial)]
    exact ⟨hkw7, .inr ⟨by decide, by decide, _, _, rfl⟩⟩
  have hb0 : ((n : Int) == 0) = false := by rw [beq_eq_false_iff_ne]; omega
  have hlf : litH ds 2 0 = ((strV (win.drop q) m (rowsTo al m m) n false).1, (strV (win.drop q) m (rowsTo al m m) n false).2, 3 + z) := by
    rw [Hlq.out, Hlt.out, if_neg hal1, if_neg (by omega), ← Hwin.out]
  have hstr := streams_any (R := R) b (rowsTo al m m) E2 c5 n false (win.drop q) wc Ht7.out Hp7.out (fun j hj => by have := HRw4.out j hj; omega) (fun y hy => Hwb.out y (List.mem_of_mem_drop hy)) (by rw [Hdl.out]; exact hsq20) (by rw [Hdl.out]; exact hsc5) (by omega) hm11 Hlen2.out Hrow.out
  obtain ⟨sv, hsv⟩ : ∃ x, x = strV (win.drop q) m (rowsTo al m m) n false := ⟨_, rfl⟩
  rw [← hsv] at hstr hlf
  rw [Hdl.out] at hstr
  have Hstr := Lib.hid hstr
  have Hlf := Lib.hid hlf
  clear hstr hlf hsv
  go_wp2_with (go_at_call 88; (with_reducible refine Hstr.out.mono ?_); rintro e w8 ⟨hk8, ⟨hv1, A', c', rfl, ho8⟩ | ⟨hv1, hv0, hv2, rfl⟩⟩)
  · go_ret3
    rw [Hlf.out]
    refine ⟨hkw7.kept hk8, .inl ⟨hv1, A', _, c', rfl, rfl, ?_⟩⟩
    exact (Sl.of_own ho8).mono (fun j hj => .inr ⟨by omega, hj.2⟩)
  · go_ret3
    rw [Hlf.out]
    exact ⟨hkw7.kept hk8, .inr ⟨hv1, hv2, _, _, rfl⟩⟩

set_option maxHeartbeats 8000000 in
set_option maxRecDepth 4000 in
theorem specLitH1 {R : Nat → Prop} (sb : Nat) (sc : List Value) (A : Option Addr) (c : Nat) (ds : List Nat) (b0 k : Nat) (w : World) (hs : Sl w R A (u8s ds)) (hRw : ∀ j, R j → j < w.heap.size) (hRs : ¬ R sb) (hsb : Blk w sb 138 sc) (hsc : sc[2]? = some (.pointer none)) (hd : Bytes ds) (hlen : ds.length ≤ 1048576) (hc : ds.length ≤ c)
    (h0 : ds[0]? = some b0) (hk : b0 % 4 = k) (hk2 : 2 ≤ k) (hf : b0 / 4 % 4 = 1) :
    Calls Tryd.prog 65 #[.pointer (some ⟨sb, 0, none⟩), .slice A ds.length c] w (SLitPost R (· = sb) w (litH ds k 1)) := by
  have h256 := hd b0 (List.mem_of_getElem? h0)
  have hl0 : 0 < ds.length := (List.getElem?_eq_some_iff.1 h0).1
  have hg0 : ds.getD 0 0 = b0 := by rw [List.getD_eq_getElem?_getD, h0]; rfl
  obtain ⟨g, o, hRg, rfl, hcell⟩ := hs.get (by simp; omega)
  have hc0 : w.cell? ⟨g, o, none⟩ = some (.int .u8 (b0 : Int)) := by
    have h := hcell 0 _ (u8s_at hl0)
    rw [hg0] at h
    exact h
  have hsb2 : w.cell? ⟨sb, 2, none⟩ = some (.pointer none) := by rw [hsb.cell]; exact hsc
  have hsbl := hsb.lt
  have hbk : Go.bits .and .i64 (b0 : Int) 3 = (k : Int) := by rw [and_i64_3s h256, hk]
  have hbf : Go.bits .and .i64 ((b0 : Int) / 4) 3 = 1 := by
    have h := and_i64_3s (a := b0 / 4) (by omega)
    rw [hf, show ((b0 / 4 : Nat) : Int) = (b0 : Int) / 4 by omega] at h
    exact h
  obtain ⟨N, hN⟩ : ∃ N, N = ds.length := ⟨_, rfl⟩
  obtain ⟨n, hn⟩ : ∃ x, x = lmany ds 1 := ⟨_, rfl⟩
  obtain ⟨z, hz⟩ : ∃ x, x = lsize ds 1 := ⟨_, rfl⟩
  have hO : hd2 1 = 3 := rfl
  have hlr : litH ds k 1 = if N < 3 then (2, [], 0) else if N < 3 + z then (2, [], 0) else if k ≠ 2 then (2, [], 0) else match treeS ((ds.drop 3).take z) with
      | none => (2, [], 0)
      | some (al, m, q) => litT ds 1 m al q := by
    unfold litH
    rw [← hN, ← hz, hO]
    rfl
  have hlt : ∀ al m q, litT ds 1 m al q = if 1 ∉ al then (0, [], 0) else if 131072 < n ∨ n = 0 then (0, [], 0) else ((strV (((ds.drop 3).take z).drop q) m (rowsTo al m m) n true).1, (strV (((ds.drop 3).take z).drop q) m (rowsTo al m m) n true).2, 3 + z) := by
    intro al m q
    unfold litT
    rw [← hn, ← hz, hO]
    rfl
  obtain ⟨v, hv⟩ : ∃ x, x = num (ds.take 3) / 16 := ⟨_, rfl⟩
  have hnb : num (ds.take 3) < 1099511627776 := by
    have h := num_bound (ds.take 3) (fun y hy => hd y (List.mem_of_mem_take hy))
    have h2 : (2 : Nat) ^ (8 * (ds.take 3).length) ≤ 2 ^ 40 := Nat.pow_le_pow_right (by decide) (by rw [List.length_take]; omega)
    omega
  have hvi : ((num (ds.take 3) : Nat) : Int) / 16 = (v : Int) := by omega
  have hnv : v % 2 ^ 10 = n := by rw [hv, hn]; rfl
  have hzv : v / 2 ^ 10 = z := by rw [hv, hz]; rfl
  have hand : Go.bits .and .i64 (v : Int) 1023 = (n : Int) := and_mask_i (wd := 10) (by omega) (by decide) hnv
  have hvz : (v : Int) / 1024 = (z : Int) := by
    have e : (2 : Nat) ^ 10 = 1024 := by decide
    rw [e] at hzv
    omega
  have hnP : n < 1024 := by
    have e : (2 : Nat) ^ 10 = 1024 := by decide
    rw [e] at hnv
    omega
  have hzP : z < 4294967296 * 4 := by
    have e : (2 : Nat) ^ 10 = 1024 := by decide
    rw [e] at hzv
    omega
  have Hlr := Lib.hid hlr
  have Hlt := Lib.hid hlt
  have Hs := Lib.hid hs
  have Hd := Lib.hid hd
  have HRw := Lib.hid hRw
  have Hsb := Lib.hid hsb
  rw [← hN] at hlen hc hl0 ⊢
  have HN := Lib.hid hN
  have h23 : k = 2 ∨ k = 3 := by omega
  have hN0 : ((N : Int) == 0) = false := by rw [beq_eq_false_iff_ne]; omega
  clear hs hd hN hcell hg0 hk hf hlr hlt hO hn hz hv hnv hzv hRw hsb
  go_enter Tryd.func65, Tryd.ntmps65
  go_upto_region 3 with (fail)
  go_quiet (fail)
  generalize hW1 : w.drewN nq = W1
  have hk1 : Kept w W1 := hW1 ▸ (Keep.refl _ _).drewN _
  have hkl : ¬ (k : Int) < 2 := by omega
  clear hW1
  go_upto_region 24 with (fail)
  go_cut [13, 14] from 99 to 107 (fun s13 s14 wx => s13 = .int .i64 3 ∧ s14 = .int .i64 10 ∧ Kept w wx)
  case first =>
    have hA1 : ∀ w' : World, (w'.alloc (.cells #[.int .i64 3, .int .i64 3, .int .i64 4, .int .i64 5] 3)).cell? ⟨w'.heap.size, 1, none⟩ = some (.int .i64 3) := fun w' => (Blk.new w' 3 [.int .i64 3, .int .i64 3, .int .i64 4, .int .i64 5]).cell 1
    have hA2 : ∀ w' : World, (w'.alloc (.cells #[.int .i64 10, .int .i64 10, .int .i64 14, .int .i64 18] 3)).cell? ⟨w'.heap.size, 1, none⟩ = some (.int .i64 10) := fun w' => (Blk.new w' 3 [.int .i64 10, .int .i64 10, .int .i64 14, .int .i64 18]).cell 1
    go_region_with (fail)
    all_goals
      go_wp2_with fail
      go_meet
      case rel => exact ⟨rfl, rfl, by first | exact ((hk1.alloc _).alloc _).drew | exact hk1.any _⟩
  case rest =>
  obtain ⟨rfl, rfl, hk3⟩ := hcut
  clear hk1
  have Hk3 := Lib.hid hk3
  by_cases hshort : N < 3
  · go_wp2
    go_ret3
    rw [Hlr.out, if_pos hshort]
    exact ⟨hk3.any _, .inr ⟨by decide, by decide, _, _, rfl⟩⟩
  have hfr : Sl w R (if c = 0 then some (⟨g, o, none⟩ : Addr) else (some (⟨g, o, none⟩ : Addr)).map (·.add (0 * 1))) (u8s (ds.take 3)) := Hs.out.front c 3
  have hrun : ∀ w', Sem.run Tryd.prog (Instr.sliceAt 22 (.slice (some ⟨g, o, none⟩) N c) none (some (.int .i64 3)) none) w' = .ok (.slice (if c = 0 then some (⟨g, o, none⟩ : Addr) else (some (⟨g, o, none⟩ : Addr)).map (·.add (0 * 1))) 3 c) w' := fun w' => run_front (some ⟨g, o, none⟩) N c 3 (by omega) w'
  generalize (if c = 0 then some (⟨g, o, none⟩ : Addr) else (some (⟨g, o, none⟩ : Addr)).map (·.add (0 * 1))) = E0 at hfr hrun
  have hnum := numberLow_any (R := R) E0 3 c (ds.take 3) (by rw [List.length_take, ← HN.out]; omega) wc (hfr.kept hk3) (fun y hy => Hd.out y (List.mem_of_mem_take hy)) (by decide)
  have Hnum := Lib.hid hnum
  clear hnum hfr
  go_upto_region 28 with (go_at_call 87; (with_reducible refine Hnum.out.mono ?_); rintro e w1 ⟨rfl, rfl⟩)
  go_quiet (fail)
  generalize hW4 : World.drewN wc _ = W4
  have hk4 : Kept w W4 := hW4 ▸ hk3.drewN _
  clear hW4 hk3 Hk3 hrun Hnum
  by_cases hbig : N < 3 + z
  · go_wp2
    go_ret3
    rw [Hlr.out, if_neg hshort, if_pos hbig]
    exact ⟨hk4.any _, .inr ⟨by decide, by decide, _, _, rfl⟩⟩
  obtain ⟨win, hwin⟩ : ∃ x, x = (ds.drop 3).take z := ⟨_, rfl⟩
  have hwl : win.length = z := by rw [hwin, List.length_take, List.length_drop, ← HN.out]; omega
  have hpart : Sl w R (if c = 3 then some (⟨g, o, none⟩ : Addr) else (some (⟨g, o, none⟩ : Addr)).map (·.add (3 * 1))) (u8s win) := by
    rw [hwin]
    exact (Hs.out.back (c := c) (k := 3) (by rw [← HN.out]; exact hc)).firsts z
  have hrun2 : ∀ w', Sem.run Tryd.prog (Instr.sliceAt 22 (.slice (some ⟨g, o, none⟩) N c) (some (.int .i64 3)) (some (.int .i64 ((3 : Int) + (z : Int)))) none) w' = .ok (.slice (if c = 3 then some (⟨g, o, none⟩ : Addr) else (some (⟨g, o, none⟩ : Addr)).map (·.add (3 * 1))) z (c - 3)) w' := fun w' => run_mid (some ⟨g, o, none⟩) N c 3 z (by omega) hc w'
  generalize (if c = 3 then some (⟨g, o, none⟩ : Addr) else (some (⟨g, o, none⟩ : Addr)).map (·.add (3 * 1))) = E1 at hpart hrun2
  obtain ⟨c2, hc2⟩ : ∃ x, x = c - 3 := ⟨_, rfl⟩
  rw [← hc2] at hrun2
  have hzc : z ≤ c2 := by omega
  have hwb : Bytes win := fun y hy => Hd.out y (by rw [hwin] at hy; exact List.mem_of_mem_drop (List.mem_of_mem_take hy))
  have hsbW : W4.cell? ⟨sb, 2, none⟩ = some (.pointer none) := hk4.cell hsb2 (fun h => h)
  have hsb4 := Hsb.out.kept hk4
  have hsf4 := hsb4.frozen 2
  have Hsb4 := Lib.hid hsb4
  have Hwl := Lib.hid hwl
  have Hwin := Lib.hid hwin
  have Hpart := Lib.hid (hpart.kept hk4)
  have Hwb := Lib.hid hwb
  have HRw4 := Lib.hid (fun j (hj : R j) => Nat.lt_of_lt_of_le (HRw.out j hj) hk4.size)
  have hsw4 : w.heap.size ≤ W4.heap.size := hk4.size
  have hz20 : z ≤ 1048576 := by omega
  clear hwl hwin hpart hwb hsb4 Hs hc2
  rcases h23 with rfl | rfl
  rotate_left
  · go_wp2
    go_ret3
    rw [Hlr.out, if_neg hshort, if_neg hbig, if_pos (by decide)]
    exact ⟨hk4.any _, .inr ⟨by decide, by decide, _, _, rfl⟩⟩
  have hlr0 : treeS win = none → litH ds 2 1 = (2, [], 0) := fun h => by
    rw [Hlr.out, if_neg hshort, if_neg hbig, if_neg (by decide), ← Hwin.out]
    simp only [h]
  have hlr1 : ∀ al m q, treeS win = some (al, m, q) → litH ds 2 1 = litT ds 1 m al q := fun al m q h => by
    rw [Hlr.out, if_neg hshort, if_neg hbig, if_neg (by decide), ← Hwin.out]
    simp only [h]
  have Hlr0 := Lib.hid hlr0
  have Hlr1 := Lib.hid hlr1
  have htree := treeOf_any (R := R) E1 z c2 win Hwl.out.symm W4 Hpart.out HRw4.out Hwb.out hz20 hzc
  have Htree := Lib.hid htree
  clear hlr0 hlr1 htree hsb2
  go_upto_region 36 with (go_at_call 64; (with_reducible refine Htree.out.mono ?_); rintro e w5 ⟨hk5, ⟨al, m, q, b, nn, ht, rfl, hb, hta⟩ | ⟨ht, p, z', rfl⟩⟩)
  rotate_left
  · have Ht := Lib.hid ht
    clear ht
    go_wp2
    go_ret3
    rw [Hlr0.out Ht.out]
    exact ⟨Kept.any (hk4.trans hk5) _, .inr ⟨by decide, by decide, _, _, rfl⟩⟩
  have HtA := Lib.hid hta
  obtain ⟨A1, c1, A2, c3, hta, hnn, ho1, ho2, hap⟩ := hta
  obtain ⟨ws, hws, htp⟩ := (treeS_some ht).2.2.2
  have hqz : q ≤ z := by have := (treeS_some ht).2.2.1; rw [Hwl.out] at this; exact this
  have hts := treeP_some htp
  have hm1 : 1 ≤ m := by rw [hts.2.2.1]; unfold mostW; omega
  obtain ⟨x, r, hr, hx1, hx2⟩ := first_row hts.2.2.2.2.2.2.2 hts.2.2.2.2.2.2.1 hm1
  have hm11 := hts.2.2.2.1
  have hlen2 : nn = 2 ^ m := by rw [hnn, rows_length hts.2.2.2.2.2.2.2, hts.2.2.2.2.2.2.1]
  have hrow : ∀ x ∈ rowsTo al m m, x.1 < 256 ∧ x.2 ≤ 11 := fun x hx => by
    obtain ⟨v, h2, h3, h4, h5⟩ := rowsTo_mem hx
    have hwl := (wtsIn_fine Hwb.out hws).2
    have hal : al.length ≤ 256 := by rw [hts.2.2.2.2.1, List.length_append]; simp; omega
    have := (List.getElem?_eq_some_iff.1 h4).1
    omega
  have hnn0 : 0 < nn := by rw [hlen2]; exact pow_pos' _
  obtain ⟨g2, o2, y, _, hA2, hcy, hyk⟩ := (Sl.of_own ho2).nat (k := 0) (by rw [List.length_map, ← hnn]; omega)
  rw [Nat.add_zero] at hcy
  have hy : y = x.2 := by
    have := hyk.out
    rw [hr] at this
    simpa using this.symm
  have d1 : w5.cell? ⟨b, 1, none⟩ = some (.slice A2 nn c3) := hta.cell 1
  have d2 : w5.cell? ⟨b, 2, none⟩ = some (.int .i64 (m : Int)) := hta.cell 2
  subst hA2
  have Ht := Lib.hid ht
  have Hrow := Lib.hid hrow
  have Hlen2 := Lib.hid hlen2
  have hk45 := hk4.trans hk5
  have Hlq := Lib.hid (Hlr1.out al m q ht)
  have h1al : (y < m ↔ 1 ∉ al) := by rw [hy]; exact hx1
  have H1al := Lib.hid h1al
  have hbs : sb ≠ b := by omega
  have e5 : w5.cell? ⟨sb, 2, none⟩ = some (.pointer none) := hk5.cell hsbW (fun h => h)
  have hsb5 := Hsb4.out.kept hk5
  have Hsb5 := Lib.hid hsb5
  have Hp5 := Lib.hid (Hpart.out.kept hk5)
  clear hr ht hts htp hws ho1 ho2 hap hta hrow hlen2 hnn hy hyk hx1 hx2 h1al hsb5 hsbW Htree
  by_cases hlt : y < m
  · have hyb : decide ((y : Int) < (m : Int)) = true := decide_eq_true (by omega)
    have hyb2 : decide (y < m) = true := decide_eq_true hlt
    go_quiet (fail)
    go_wp2
    go_ret3
    rw [Hlq.out, Hlt.out, if_pos (H1al.out.1 hlt)]
    exact ⟨Kept.any (hk45.drewN _) _, .inr ⟨by decide, by decide, _, _, rfl⟩⟩
  have hyb : decide ((y : Int) < (m : Int)) = false := decide_eq_false (by omega)
  have hyb2 : decide (y < m) = false := decide_eq_false hlt
  go_quiet (fail)
  generalize hW6 : World.drewN w5 _ = W6
  have hk56 : Kept w5 W6 := hW6 ▸ (Keep.refl _ _).drewN _
  have e6 : W6.cell? ⟨sb, 2, none⟩ = some (.pointer none) := hk56.cell e5 (fun h => h)
  have hsb6 := Hsb5.out.kept hk56
  have f6 := hsb6.frozen 2
  have hk6 := hk45.trans hk56
  have Hsb6 := Lib.hid hsb6
  have hrun3 : ∀ w', Sem.run Tryd.prog (Instr.sliceAt 22 (.slice E1 z c2) (some (.int .i64 (q : Int))) none none) w' = .ok (.slice (if c2 = q then E1 else E1.map (·.add (q * 1))) (z - q) (c2 - q)) w' := fun w' => run_back E1 z c2 q hqz w'
  have hp6 : Sl W6 R (if c2 = q then E1 else E1.map (·.add (q * 1))) (u8s (win.drop q)) := (Hp5.out.kept hk56).back (c := c2) (k := q) (by rw [Hwl.out]; exact hzc)
  generalize (if c2 = q then E1 else E1.map (·.add (q * 1))) = E2 at hp6 hrun3
  have hdl : (win.drop q).length = z - q := by rw [List.length_drop, Hwl.out]
  obtain ⟨sq, hsq⟩ : ∃ x, x = z - q := ⟨_, rfl⟩
  obtain ⟨c5, hc5⟩ : ∃ x, x = c2 - q := ⟨_, rfl⟩
  have hsc5 : sq ≤ c5 := by omega
  have hsq20 : sq ≤ 1048576 := by omega
  rw [← hsq] at hdl hrun3
  rw [← hc5] at hrun3
  have Hdl := Lib.hid hdl
  have Hp6 := Lib.hid hp6
  have Hk56 := Lib.hid hk56
  have hsz6 : W4.heap.size ≤ W6.heap.size := (hk5.trans hk56).size
  clear hp6 hdl hsq hc5 hsb6 hW6 e5 hk45 hcy d1 d2 hyb hyb2
  go_upto_region 38 with (fail)
  go_cut [18] from 157 to 164 (fun s18 wx => s18 = .slice E2 sq c5 ∧ Keep (· = sb) W6 wx ∧ Blk wx sb 138 (sc.set 2 (.pointer (some ⟨b, 0, none⟩))))
  case first =>
    go_region
    all_goals
      go_wp2_with fail
      go_meet
      case rel => exact ⟨rfl, by first | exact ((Keep.refl (· = sb) W6).set (p := ⟨sb, 2, none⟩) (.inl rfl) _).drew | exact ((Keep.refl (· = sb) W6).drew).set (p := ⟨sb, 2, none⟩) (.inl rfl) _, by first | exact (Hsb6.out.set 2 _).drew | exact Hsb6.out.drew.set 2 _⟩
  case rest =>
  obtain ⟨rfl, hk7, hsb7⟩ := hcut
  have e7 : wc.cell? ⟨sb, 2, none⟩ = some (.pointer (some ⟨b, 0, none⟩)) := by
    rw [hsb7.cell, List.getElem?_set_self (by have := (List.getElem?_eq_some_iff.1 hsc).1; exact this)]
  have hkw7 : Keep (· = sb) w wc := (Kept.any hk6 _).trans hk7
  have ht7 := (HtA.out.kept Hk56.out).keep hk7 (fun h => hbs h.symm) (fun j hj h => by omega)
  have hp7 := Hp6.out.keep hk7 (fun j _ h1 h2 => hRs (h2 ▸ h1))
  have hs7 := hk7.size
  have Ht7 := Lib.hid ht7
  have Hp7 := Lib.hid hp7
  clear ht7 hp7 e6 f6 hsb7 hrun3
  have hal1 : ¬ 1 ∉ al := fun h => hlt (H1al.out.2 h)
  by_cases hnb : 131072 < n
  · exfalso; omega
  by_cases hn0 : n = 0
  · subst hn0
    go_wp2
    go_ret3
    rw [Hlq.out, Hlt.out, if_neg hal1, if_pos (.inr trivial)]
    exact ⟨hkw7, .inr ⟨by decide, by decide, _, _, rfl⟩⟩
  have hb0 : ((n : Int) == 0) = false := by rw [beq_eq_false_iff_ne]; omega
  have hlf : litH ds 2 1 = ((strV (win.drop q) m (rowsTo al m m) n true).1, (strV (win.drop q) m (rowsTo al m m) n true).2, 3 + z) := by
    rw [Hlq.out, Hlt.out, if_neg hal1, if_neg (by omega), ← Hwin.out]
  have hstr := streams_any (R := R) b (rowsTo al m m) E2 c5 n true (win.drop q) wc Ht7.out Hp7.out (fun j hj => by have := HRw4.out j hj; omega) (fun y hy => Hwb.out y (List.mem_of_mem_drop hy)) (by rw [Hdl.out]; exact hsq20) (by rw [Hdl.out]; exact hsc5) (by omega) hm11 Hlen2.out Hrow.out
  obtain ⟨sv, hsv⟩ : ∃ x, x = strV (win.drop q) m (rowsTo al m m) n true := ⟨_, rfl⟩
  rw [← hsv] at hstr hlf
  rw [Hdl.out] at hstr
  have Hstr := Lib.hid hstr
  have Hlf := Lib.hid hlf
  clear hstr hlf hsv
  go_wp2_with (go_at_call 88; (with_reducible refine Hstr.out.mono ?_); rintro e w8 ⟨hk8, ⟨hv1, A', c', rfl, ho8⟩ | ⟨hv1, hv0, hv2, rfl⟩⟩)
  · go_ret3
    rw [Hlf.out]
    refine ⟨hkw7.kept hk8, .inl ⟨hv1, A', _, c', rfl, rfl, ?_⟩⟩
    exact (Sl.of_own ho8).mono (fun j hj => .inr ⟨by omega, hj.2⟩)
  · go_ret3
    rw [Hlf.out]
    exact ⟨hkw7.kept hk8, .inr ⟨hv1, hv2, _, _, rfl⟩⟩

set_option maxHeartbeats 8000000 in
set_option maxRecDepth 4000 in
theorem specLitH2 {R : Nat → Prop} (sb : Nat) (sc : List Value) (A : Option Addr) (c : Nat) (ds : List Nat) (b0 k : Nat) (w : World) (hs : Sl w R A (u8s ds)) (hRw : ∀ j, R j → j < w.heap.size) (hRs : ¬ R sb) (hsb : Blk w sb 138 sc) (hsc : sc[2]? = some (.pointer none)) (hd : Bytes ds) (hlen : ds.length ≤ 1048576) (hc : ds.length ≤ c)
    (h0 : ds[0]? = some b0) (hk : b0 % 4 = k) (hk2 : 2 ≤ k) (hf : b0 / 4 % 4 = 2) :
    Calls Tryd.prog 65 #[.pointer (some ⟨sb, 0, none⟩), .slice A ds.length c] w (SLitPost R (· = sb) w (litH ds k 2)) := by
  have h256 := hd b0 (List.mem_of_getElem? h0)
  have hl0 : 0 < ds.length := (List.getElem?_eq_some_iff.1 h0).1
  have hg0 : ds.getD 0 0 = b0 := by rw [List.getD_eq_getElem?_getD, h0]; rfl
  obtain ⟨g, o, hRg, rfl, hcell⟩ := hs.get (by simp; omega)
  have hc0 : w.cell? ⟨g, o, none⟩ = some (.int .u8 (b0 : Int)) := by
    have h := hcell 0 _ (u8s_at hl0)
    rw [hg0] at h
    exact h
  have hsb2 : w.cell? ⟨sb, 2, none⟩ = some (.pointer none) := by rw [hsb.cell]; exact hsc
  have hsbl := hsb.lt
  have hbk : Go.bits .and .i64 (b0 : Int) 3 = (k : Int) := by rw [and_i64_3s h256, hk]
  have hbf : Go.bits .and .i64 ((b0 : Int) / 4) 3 = 2 := by
    have h := and_i64_3s (a := b0 / 4) (by omega)
    rw [hf, show ((b0 / 4 : Nat) : Int) = (b0 : Int) / 4 by omega] at h
    exact h
  obtain ⟨N, hN⟩ : ∃ N, N = ds.length := ⟨_, rfl⟩
  obtain ⟨n, hn⟩ : ∃ x, x = lmany ds 2 := ⟨_, rfl⟩
  obtain ⟨z, hz⟩ : ∃ x, x = lsize ds 2 := ⟨_, rfl⟩
  have hO : hd2 2 = 4 := rfl
  have hlr : litH ds k 2 = if N < 4 then (2, [], 0) else if N < 4 + z then (2, [], 0) else if k ≠ 2 then (2, [], 0) else match treeS ((ds.drop 4).take z) with
      | none => (2, [], 0)
      | some (al, m, q) => litT ds 2 m al q := by
    unfold litH
    rw [← hN, ← hz, hO]
    rfl
  have hlt : ∀ al m q, litT ds 2 m al q = if 1 ∉ al then (0, [], 0) else if 131072 < n ∨ n = 0 then (0, [], 0) else ((strV (((ds.drop 4).take z).drop q) m (rowsTo al m m) n true).1, (strV (((ds.drop 4).take z).drop q) m (rowsTo al m m) n true).2, 4 + z) := by
    intro al m q
    unfold litT
    rw [← hn, ← hz, hO]
    rfl
  obtain ⟨v, hv⟩ : ∃ x, x = num (ds.take 4) / 16 := ⟨_, rfl⟩
  have hnb : num (ds.take 4) < 1099511627776 := by
    have h := num_bound (ds.take 4) (fun y hy => hd y (List.mem_of_mem_take hy))
    have h2 : (2 : Nat) ^ (8 * (ds.take 4).length) ≤ 2 ^ 40 := Nat.pow_le_pow_right (by decide) (by rw [List.length_take]; omega)
    omega
  have hvi : ((num (ds.take 4) : Nat) : Int) / 16 = (v : Int) := by omega
  have hnv : v % 2 ^ 14 = n := by rw [hv, hn]; rfl
  have hzv : v / 2 ^ 14 = z := by rw [hv, hz]; rfl
  have hand : Go.bits .and .i64 (v : Int) 16383 = (n : Int) := and_mask_i (wd := 14) (by omega) (by decide) hnv
  have hvz : (v : Int) / 16384 = (z : Int) := by
    have e : (2 : Nat) ^ 14 = 16384 := by decide
    rw [e] at hzv
    omega
  have hnP : n < 16384 := by
    have e : (2 : Nat) ^ 14 = 16384 := by decide
    rw [e] at hnv
    omega
  have hzP : z < 4294967296 * 4 := by
    have e : (2 : Nat) ^ 14 = 16384 := by decide
    rw [e] at hzv
    omega
  have Hlr := Lib.hid hlr
  have Hlt := Lib.hid hlt
  have Hs := Lib.hid hs
  have Hd := Lib.hid hd
  have HRw := Lib.hid hRw
  have Hsb := Lib.hid hsb
  rw [← hN] at hlen hc hl0 ⊢
  have HN := Lib.hid hN
  have h23 : k = 2 ∨ k = 3 := by omega
  have hN0 : ((N : Int) == 0) = false := by rw [beq_eq_false_iff_ne]; omega
  clear hs hd hN hcell hg0 hk hf hlr hlt hO hn hz hv hnv hzv hRw hsb
  go_enter Tryd.func65, Tryd.ntmps65
  go_upto_region 3 with (fail)
  go_quiet (fail)
  generalize hW1 : w.drewN nq = W1
  have hk1 : Kept w W1 := hW1 ▸ (Keep.refl _ _).drewN _
  have hkl : ¬ (k : Int) < 2 := by omega
  clear hW1
  go_upto_region 24 with (fail)
  go_cut [13, 14] from 99 to 107 (fun s13 s14 wx => s13 = .int .i64 4 ∧ s14 = .int .i64 14 ∧ Kept w wx)
  case first =>
    have hA1 : ∀ w' : World, (w'.alloc (.cells #[.int .i64 3, .int .i64 3, .int .i64 4, .int .i64 5] 3)).cell? ⟨w'.heap.size, 2, none⟩ = some (.int .i64 4) := fun w' => (Blk.new w' 3 [.int .i64 3, .int .i64 3, .int .i64 4, .int .i64 5]).cell 2
    have hA2 : ∀ w' : World, (w'.alloc (.cells #[.int .i64 10, .int .i64 10, .int .i64 14, .int .i64 18] 3)).cell? ⟨w'.heap.size, 2, none⟩ = some (.int .i64 14) := fun w' => (Blk.new w' 3 [.int .i64 10, .int .i64 10, .int .i64 14, .int .i64 18]).cell 2
    go_region_with (fail)
    all_goals
      go_wp2_with fail
      go_meet
      case rel => exact ⟨rfl, rfl, by first | exact ((hk1.alloc _).alloc _).drew | exact hk1.any _⟩
  case rest =>
  obtain ⟨rfl, rfl, hk3⟩ := hcut
  clear hk1
  have Hk3 := Lib.hid hk3
  by_cases hshort : N < 4
  · go_wp2
    go_ret3
    rw [Hlr.out, if_pos hshort]
    exact ⟨hk3.any _, .inr ⟨by decide, by decide, _, _, rfl⟩⟩
  have hfr : Sl w R (if c = 0 then some (⟨g, o, none⟩ : Addr) else (some (⟨g, o, none⟩ : Addr)).map (·.add (0 * 1))) (u8s (ds.take 4)) := Hs.out.front c 4
  have hrun : ∀ w', Sem.run Tryd.prog (Instr.sliceAt 22 (.slice (some ⟨g, o, none⟩) N c) none (some (.int .i64 4)) none) w' = .ok (.slice (if c = 0 then some (⟨g, o, none⟩ : Addr) else (some (⟨g, o, none⟩ : Addr)).map (·.add (0 * 1))) 4 c) w' := fun w' => run_front (some ⟨g, o, none⟩) N c 4 (by omega) w'
  generalize (if c = 0 then some (⟨g, o, none⟩ : Addr) else (some (⟨g, o, none⟩ : Addr)).map (·.add (0 * 1))) = E0 at hfr hrun
  have hnum := numberLow_any (R := R) E0 4 c (ds.take 4) (by rw [List.length_take, ← HN.out]; omega) wc (hfr.kept hk3) (fun y hy => Hd.out y (List.mem_of_mem_take hy)) (by decide)
  have Hnum := Lib.hid hnum
  clear hnum hfr
  go_upto_region 28 with (go_at_call 87; (with_reducible refine Hnum.out.mono ?_); rintro e w1 ⟨rfl, rfl⟩)
  go_quiet (fail)
  generalize hW4 : World.drewN wc _ = W4
  have hk4 : Kept w W4 := hW4 ▸ hk3.drewN _
  clear hW4 hk3 Hk3 hrun Hnum
  by_cases hbig : N < 4 + z
  · go_wp2
    go_ret3
    rw [Hlr.out, if_neg hshort, if_pos hbig]
    exact ⟨hk4.any _, .inr ⟨by decide, by decide, _, _, rfl⟩⟩
  obtain ⟨win, hwin⟩ : ∃ x, x = (ds.drop 4).take z := ⟨_, rfl⟩
  have hwl : win.length = z := by rw [hwin, List.length_take, List.length_drop, ← HN.out]; omega
  have hpart : Sl w R (if c = 4 then some (⟨g, o, none⟩ : Addr) else (some (⟨g, o, none⟩ : Addr)).map (·.add (4 * 1))) (u8s win) := by
    rw [hwin]
    exact (Hs.out.back (c := c) (k := 4) (by rw [← HN.out]; exact hc)).firsts z
  have hrun2 : ∀ w', Sem.run Tryd.prog (Instr.sliceAt 22 (.slice (some ⟨g, o, none⟩) N c) (some (.int .i64 4)) (some (.int .i64 ((4 : Int) + (z : Int)))) none) w' = .ok (.slice (if c = 4 then some (⟨g, o, none⟩ : Addr) else (some (⟨g, o, none⟩ : Addr)).map (·.add (4 * 1))) z (c - 4)) w' := fun w' => run_mid (some ⟨g, o, none⟩) N c 4 z (by omega) hc w'
  generalize (if c = 4 then some (⟨g, o, none⟩ : Addr) else (some (⟨g, o, none⟩ : Addr)).map (·.add (4 * 1))) = E1 at hpart hrun2
  obtain ⟨c2, hc2⟩ : ∃ x, x = c - 4 := ⟨_, rfl⟩
  rw [← hc2] at hrun2
  have hzc : z ≤ c2 := by omega
  have hwb : Bytes win := fun y hy => Hd.out y (by rw [hwin] at hy; exact List.mem_of_mem_drop (List.mem_of_mem_take hy))
  have hsbW : W4.cell? ⟨sb, 2, none⟩ = some (.pointer none) := hk4.cell hsb2 (fun h => h)
  have hsb4 := Hsb.out.kept hk4
  have hsf4 := hsb4.frozen 2
  have Hsb4 := Lib.hid hsb4
  have Hwl := Lib.hid hwl
  have Hwin := Lib.hid hwin
  have Hpart := Lib.hid (hpart.kept hk4)
  have Hwb := Lib.hid hwb
  have HRw4 := Lib.hid (fun j (hj : R j) => Nat.lt_of_lt_of_le (HRw.out j hj) hk4.size)
  have hsw4 : w.heap.size ≤ W4.heap.size := hk4.size
  have hz20 : z ≤ 1048576 := by omega
  clear hwl hwin hpart hwb hsb4 Hs hc2
  rcases h23 with rfl | rfl
  rotate_left
  · go_wp2
    go_ret3
    rw [Hlr.out, if_neg hshort, if_neg hbig, if_pos (by decide)]
    exact ⟨hk4.any _, .inr ⟨by decide, by decide, _, _, rfl⟩⟩
  have hlr0 : treeS win = none → litH ds 2 2 = (2, [], 0) := fun h => by
    rw [Hlr.out, if_neg hshort, if_neg hbig, if_neg (by decide), ← Hwin.out]
    simp only [h]
  have hlr1 : ∀ al m q, treeS win = some (al, m, q) → litH ds 2 2 = litT ds 2 m al q := fun al m q h => by
    rw [Hlr.out, if_neg hshort, if_neg hbig, if_neg (by decide), ← Hwin.out]
    simp only [h]
  have Hlr0 := Lib.hid hlr0
  have Hlr1 := Lib.hid hlr1
  have htree := treeOf_any (R := R) E1 z c2 win Hwl.out.symm W4 Hpart.out HRw4.out Hwb.out hz20 hzc
  have Htree := Lib.hid htree
  clear hlr0 hlr1 htree hsb2
  go_upto_region 36 with (go_at_call 64; (with_reducible refine Htree.out.mono ?_); rintro e w5 ⟨hk5, ⟨al, m, q, b, nn, ht, rfl, hb, hta⟩ | ⟨ht, p, z', rfl⟩⟩)
  rotate_left
  · have Ht := Lib.hid ht
    clear ht
    go_wp2
    go_ret3
    rw [Hlr0.out Ht.out]
    exact ⟨Kept.any (hk4.trans hk5) _, .inr ⟨by decide, by decide, _, _, rfl⟩⟩
  have HtA := Lib.hid hta
  obtain ⟨A1, c1, A2, c3, hta, hnn, ho1, ho2, hap⟩ := hta
  obtain ⟨ws, hws, htp⟩ := (treeS_some ht).2.2.2
  have hqz : q ≤ z := by have := (treeS_some ht).2.2.1; rw [Hwl.out] at this; exact this
  have hts := treeP_some htp
  have hm1 : 1 ≤ m := by rw [hts.2.2.1]; unfold mostW; omega
  obtain ⟨x, r, hr, hx1, hx2⟩ := first_row hts.2.2.2.2.2.2.2 hts.2.2.2.2.2.2.1 hm1
  have hm11 := hts.2.2.2.1
  have hlen2 : nn = 2 ^ m := by rw [hnn, rows_length hts.2.2.2.2.2.2.2, hts.2.2.2.2.2.2.1]
  have hrow : ∀ x ∈ rowsTo al m m, x.1 < 256 ∧ x.2 ≤ 11 := fun x hx => by
    obtain ⟨v, h2, h3, h4, h5⟩ := rowsTo_mem hx
    have hwl := (wtsIn_fine Hwb.out hws).2
    have hal : al.length ≤ 256 := by rw [hts.2.2.2.2.1, List.length_append]; simp; omega
    have := (List.getElem?_eq_some_iff.1 h4).1
    omega
  have hnn0 : 0 < nn := by rw [hlen2]; exact pow_pos' _
  obtain ⟨g2, o2, y, _, hA2, hcy, hyk⟩ := (Sl.of_own ho2).nat (k := 0) (by rw [List.length_map, ← hnn]; omega)
  rw [Nat.add_zero] at hcy
  have hy : y = x.2 := by
    have := hyk.out
    rw [hr] at this
    simpa using this.symm
  have d1 : w5.cell? ⟨b, 1, none⟩ = some (.slice A2 nn c3) := hta.cell 1
  have d2 : w5.cell? ⟨b, 2, none⟩ = some (.int .i64 (m : Int)) := hta.cell 2
  subst hA2
  have Ht := Lib.hid ht
  have Hrow := Lib.hid hrow
  have Hlen2 := Lib.hid hlen2
  have hk45 := hk4.trans hk5
  have Hlq := Lib.hid (Hlr1.out al m q ht)
  have h1al : (y < m ↔ 1 ∉ al) := by rw [hy]; exact hx1
  have H1al := Lib.hid h1al
  have hbs : sb ≠ b := by omega
  have e5 : w5.cell? ⟨sb, 2, none⟩ = some (.pointer none) := hk5.cell hsbW (fun h => h)
  have hsb5 := Hsb4.out.kept hk5
  have Hsb5 := Lib.hid hsb5
  have Hp5 := Lib.hid (Hpart.out.kept hk5)
  clear hr ht hts htp hws ho1 ho2 hap hta hrow hlen2 hnn hy hyk hx1 hx2 h1al hsb5 hsbW Htree
  by_cases hlt : y < m
  · have hyb : decide ((y : Int) < (m : Int)) = true := decide_eq_true (by omega)
    have hyb2 : decide (y < m) = true := decide_eq_true hlt
    go_quiet (fail)
    go_wp2
    go_ret3
    rw [Hlq.out, Hlt.out, if_pos (H1al.out.1 hlt)]
    exact ⟨Kept.any (hk45.drewN _) _, .inr ⟨by decide, by decide, _, _, rfl⟩⟩
  have hyb : decide ((y : Int) < (m : Int)) = false := decide_eq_false (by omega)
  have hyb2 : decide (y < m) = false := decide_eq_false hlt
  go_quiet (fail)
  generalize hW6 : World.drewN w5 _ = W6
  have hk56 : Kept w5 W6 := hW6 ▸ (Keep.refl _ _).drewN _
  have e6 : W6.cell? ⟨sb, 2, none⟩ = some (.pointer none) := hk56.cell e5 (fun h => h)
  have hsb6 := Hsb5.out.kept hk56
  have f6 := hsb6.frozen 2
  have hk6 := hk45.trans hk56
  have Hsb6 := Lib.hid hsb6
  have hrun3 : ∀ w', Sem.run Tryd.prog (Instr.sliceAt 22 (.slice E1 z c2) (some (.int .i64 (q : Int))) none none) w' = .ok (.slice (if c2 = q then E1 else E1.map (·.add (q * 1))) (z - q) (c2 - q)) w' := fun w' => run_back E1 z c2 q hqz w'
  have hp6 : Sl W6 R (if c2 = q then E1 else E1.map (·.add (q * 1))) (u8s (win.drop q)) := (Hp5.out.kept hk56).back (c := c2) (k := q) (by rw [Hwl.out]; exact hzc)
  generalize (if c2 = q then E1 else E1.map (·.add (q * 1))) = E2 at hp6 hrun3
  have hdl : (win.drop q).length = z - q := by rw [List.length_drop, Hwl.out]
  obtain ⟨sq, hsq⟩ : ∃ x, x = z - q := ⟨_, rfl⟩
  obtain ⟨c5, hc5⟩ : ∃ x, x = c2 - q := ⟨_, rfl⟩
  have hsc5 : sq ≤ c5 := by omega
  have hsq20 : sq ≤ 1048576 := by omega
  rw [← hsq] at hdl hrun3
  rw [← hc5] at hrun3
  have Hdl := Lib.hid hdl
  have Hp6 := Lib.hid hp6
  have Hk56 := Lib.hid hk56
  have hsz6 : W4.heap.size ≤ W6.heap.size := (hk5.trans hk56).size
  clear hp6 hdl hsq hc5 hsb6 hW6 e5 hk45 hcy d1 d2 hyb hyb2
  go_upto_region 38 with (fail)
  go_cut [18] from 157 to 164 (fun s18 wx => s18 = .slice E2 sq c5 ∧ Keep (· = sb) W6 wx ∧ Blk wx sb 138 (sc.set 2 (.pointer (some ⟨b, 0, none⟩))))
  case first =>
    go_region
    all_goals
      go_wp2_with fail
      go_meet
      case rel => exact ⟨rfl, by first | exact ((Keep.refl (· = sb) W6).set (p := ⟨sb, 2, none⟩) (.inl rfl) _).drew | exact ((Keep.refl (· = sb) W6).drew).set (p := ⟨sb, 2, none⟩) (.inl rfl) _, by first | exact (Hsb6.out.set 2 _).drew | exact Hsb6.out.drew.set 2 _⟩
  case rest =>
  obtain ⟨rfl, hk7, hsb7⟩ := hcut
  have e7 : wc.cell? ⟨sb, 2, none⟩ = some (.pointer (some ⟨b, 0, none⟩)) := by
    rw [hsb7.cell, List.getElem?_set_self (by have := (List.getElem?_eq_some_iff.1 hsc).1; exact this)]
  have hkw7 : Keep (· = sb) w wc := (Kept.any hk6 _).trans hk7
  have ht7 := (HtA.out.kept Hk56.out).keep hk7 (fun h => hbs h.symm) (fun j hj h => by omega)
  have hp7 := Hp6.out.keep hk7 (fun j _ h1 h2 => hRs (h2 ▸ h1))
  have hs7 := hk7.size
  have Ht7 := Lib.hid ht7
  have Hp7 := Lib.hid hp7
  clear ht7 hp7 e6 f6 hsb7 hrun3
  have hal1 : ¬ 1 ∉ al := fun h => hlt (H1al.out.2 h)
  by_cases hnb : 131072 < n
  · exfalso; omega
  by_cases hn0 : n = 0
  · subst hn0
    go_wp2
    go_ret3
    rw [Hlq.out, Hlt.out, if_neg hal1, if_pos (.inr trivial)]
    exact ⟨hkw7, .inr ⟨by decide, by decide, _, _, rfl⟩⟩
  have hb0 : ((n : Int) == 0) = false := by rw [beq_eq_false_iff_ne]; omega
  have hlf : litH ds 2 2 = ((strV (win.drop q) m (rowsTo al m m) n true).1, (strV (win.drop q) m (rowsTo al m m) n true).2, 4 + z) := by
    rw [Hlq.out, Hlt.out, if_neg hal1, if_neg (by omega), ← Hwin.out]
  have hstr := streams_any (R := R) b (rowsTo al m m) E2 c5 n true (win.drop q) wc Ht7.out Hp7.out (fun j hj => by have := HRw4.out j hj; omega) (fun y hy => Hwb.out y (List.mem_of_mem_drop hy)) (by rw [Hdl.out]; exact hsq20) (by rw [Hdl.out]; exact hsc5) (by omega) hm11 Hlen2.out Hrow.out
  obtain ⟨sv, hsv⟩ : ∃ x, x = strV (win.drop q) m (rowsTo al m m) n true := ⟨_, rfl⟩
  rw [← hsv] at hstr hlf
  rw [Hdl.out] at hstr
  have Hstr := Lib.hid hstr
  have Hlf := Lib.hid hlf
  clear hstr hlf hsv
  go_wp2_with (go_at_call 88; (with_reducible refine Hstr.out.mono ?_); rintro e w8 ⟨hk8, ⟨hv1, A', c', rfl, ho8⟩ | ⟨hv1, hv0, hv2, rfl⟩⟩)
  · go_ret3
    rw [Hlf.out]
    refine ⟨hkw7.kept hk8, .inl ⟨hv1, A', _, c', rfl, rfl, ?_⟩⟩
    exact (Sl.of_own ho8).mono (fun j hj => .inr ⟨by omega, hj.2⟩)
  · go_ret3
    rw [Hlf.out]
    exact ⟨hkw7.kept hk8, .inr ⟨hv1, hv2, _, _, rfl⟩⟩

set_option maxHeartbeats 8000000 in
set_option maxRecDepth 4000 in
theorem specLitH3 {R : Nat → Prop} (sb : Nat) (sc : List Value) (A : Option Addr) (c : Nat) (ds : List Nat) (b0 k : Nat) (w : World) (hs : Sl w R A (u8s ds)) (hRw : ∀ j, R j → j < w.heap.size) (hRs : ¬ R sb) (hsb : Blk w sb 138 sc) (hsc : sc[2]? = some (.pointer none)) (hd : Bytes ds) (hlen : ds.length ≤ 1048576) (hc : ds.length ≤ c)
    (h0 : ds[0]? = some b0) (hk : b0 % 4 = k) (hk2 : 2 ≤ k) (hf : b0 / 4 % 4 = 3) :
    Calls Tryd.prog 65 #[.pointer (some ⟨sb, 0, none⟩), .slice A ds.length c] w (SLitPost R (· = sb) w (litH ds k 3)) := by
  have h256 := hd b0 (List.mem_of_getElem? h0)
  have hl0 : 0 < ds.length := (List.getElem?_eq_some_iff.1 h0).1
  have hg0 : ds.getD 0 0 = b0 := by rw [List.getD_eq_getElem?_getD, h0]; rfl
  obtain ⟨g, o, hRg, rfl, hcell⟩ := hs.get (by simp; omega)
  have hc0 : w.cell? ⟨g, o, none⟩ = some (.int .u8 (b0 : Int)) := by
    have h := hcell 0 _ (u8s_at hl0)
    rw [hg0] at h
    exact h
  have hsb2 : w.cell? ⟨sb, 2, none⟩ = some (.pointer none) := by rw [hsb.cell]; exact hsc
  have hsbl := hsb.lt
  have hbk : Go.bits .and .i64 (b0 : Int) 3 = (k : Int) := by rw [and_i64_3s h256, hk]
  have hbf : Go.bits .and .i64 ((b0 : Int) / 4) 3 = 3 := by
    have h := and_i64_3s (a := b0 / 4) (by omega)
    rw [hf, show ((b0 / 4 : Nat) : Int) = (b0 : Int) / 4 by omega] at h
    exact h
  obtain ⟨N, hN⟩ : ∃ N, N = ds.length := ⟨_, rfl⟩
  obtain ⟨n, hn⟩ : ∃ x, x = lmany ds 3 := ⟨_, rfl⟩
  obtain ⟨z, hz⟩ : ∃ x, x = lsize ds 3 := ⟨_, rfl⟩
  have hO : hd2 3 = 5 := rfl
  have hlr : litH ds k 3 = if N < 5 then (2, [], 0) else if N < 5 + z then (2, [], 0) else if k ≠ 2 then (2, [], 0) else match treeS ((ds.drop 5).take z) with
      | none => (2, [], 0)
      | some (al, m, q) => litT ds 3 m al q := by
    unfold litH
    rw [← hN, ← hz, hO]
    rfl
  have hlt : ∀ al m q, litT ds 3 m al q = if 1 ∉ al then (0, [], 0) else if 131072 < n ∨ n = 0 then (0, [], 0) else ((strV (((ds.drop 5).take z).drop q) m (rowsTo al m m) n true).1, (strV (((ds.drop 5).take z).drop q) m (rowsTo al m m) n true).2, 5 + z) := by
    intro al m q
    unfold litT
    rw [← hn, ← hz, hO]
    rfl
  obtain ⟨v, hv⟩ : ∃ x, x = num (ds.take 5) / 16 := ⟨_, rfl⟩
  have hnb : num (ds.take 5) < 1099511627776 := by
    have h := num_bound (ds.take 5) (fun y hy => hd y (List.mem_of_mem_take hy))
    have h2 : (2 : Nat) ^ (8 * (ds.take 5).length) ≤ 2 ^ 40 := Nat.pow_le_pow_right (by decide) (by rw [List.length_take]; omega)
    omega
  have hvi : ((num (ds.take 5) : Nat) : Int) / 16 = (v : Int) := by omega
  have hnv : v % 2 ^ 18 = n := by rw [hv, hn]; rfl
  have hzv : v / 2 ^ 18 = z := by rw [hv, hz]; rfl
  have hand : Go.bits .and .i64 (v : Int) 262143 = (n : Int) := and_mask_i (wd := 18) (by omega) (by decide) hnv
  have hvz : (v : Int) / 262144 = (z : Int) := by
    have e : (2 : Nat) ^ 18 = 262144 := by decide
    rw [e] at hzv
    omega
  have hnP : n < 262144 := by
    have e : (2 : Nat) ^ 18 = 262144 := by decide
    rw [e] at hnv
    omega
  have hzP : z < 4294967296 * 4 := by
    have e : (2 : Nat) ^ 18 = 262144 := by decide
    rw [e] at hzv
    omega
  have Hlr := Lib.hid hlr
  have Hlt := Lib.hid hlt
  have Hs := Lib.hid hs
  have Hd := Lib.hid hd
  have HRw := Lib.hid hRw
  have Hsb := Lib.hid hsb
  rw [← hN] at hlen hc hl0 ⊢
  have HN := Lib.hid hN
  have h23 : k = 2 ∨ k = 3 := by omega
  have hN0 : ((N : Int) == 0) = false := by rw [beq_eq_false_iff_ne]; omega
  clear hs hd hN hcell hg0 hk hf hlr hlt hO hn hz hv hnv hzv hRw hsb
  go_enter Tryd.func65, Tryd.ntmps65
  go_upto_region 3 with (fail)
  go_quiet (fail)
  generalize hW1 : w.drewN nq = W1
  have hk1 : Kept w W1 := hW1 ▸ (Keep.refl _ _).drewN _
  have hkl : ¬ (k : Int) < 2 := by omega
  clear hW1
  go_upto_region 24 with (fail)
  go_cut [13, 14] from 99 to 107 (fun s13 s14 wx => s13 = .int .i64 5 ∧ s14 = .int .i64 18 ∧ Kept w wx)
  case first =>
    have hA1 : ∀ w' : World, (w'.alloc (.cells #[.int .i64 3, .int .i64 3, .int .i64 4, .int .i64 5] 3)).cell? ⟨w'.heap.size, 3, none⟩ = some (.int .i64 5) := fun w' => (Blk.new w' 3 [.int .i64 3, .int .i64 3, .int .i64 4, .int .i64 5]).cell 3
    have hA2 : ∀ w' : World, (w'.alloc (.cells #[.int .i64 10, .int .i64 10, .int .i64 14, .int .i64 18] 3)).cell? ⟨w'.heap.size, 3, none⟩ = some (.int .i64 18) := fun w' => (Blk.new w' 3 [.int .i64 10, .int .i64 10, .int .i64 14, .int .i64 18]).cell 3
    go_region_with (fail)
    all_goals
      go_wp2_with fail
      go_meet
      case rel => exact ⟨rfl, rfl, by first | exact ((hk1.alloc _).alloc _).drew | exact hk1.any _⟩
  case rest =>
  obtain ⟨rfl, rfl, hk3⟩ := hcut
  clear hk1
  have Hk3 := Lib.hid hk3
  by_cases hshort : N < 5
  · go_wp2
    go_ret3
    rw [Hlr.out, if_pos hshort]
    exact ⟨hk3.any _, .inr ⟨by decide, by decide, _, _, rfl⟩⟩
  have hfr : Sl w R (if c = 0 then some (⟨g, o, none⟩ : Addr) else (some (⟨g, o, none⟩ : Addr)).map (·.add (0 * 1))) (u8s (ds.take 5)) := Hs.out.front c 5
  have hrun : ∀ w', Sem.run Tryd.prog (Instr.sliceAt 22 (.slice (some ⟨g, o, none⟩) N c) none (some (.int .i64 5)) none) w' = .ok (.slice (if c = 0 then some (⟨g, o, none⟩ : Addr) else (some (⟨g, o, none⟩ : Addr)).map (·.add (0 * 1))) 5 c) w' := fun w' => run_front (some ⟨g, o, none⟩) N c 5 (by omega) w'
  generalize (if c = 0 then some (⟨g, o, none⟩ : Addr) else (some (⟨g, o, none⟩ : Addr)).map (·.add (0 * 1))) = E0 at hfr hrun
  have hnum := numberLow_any (R := R) E0 5 c (ds.take 5) (by rw [List.length_take, ← HN.out]; omega) wc (hfr.kept hk3) (fun y hy => Hd.out y (List.mem_of_mem_take hy)) (by decide)
  have Hnum := Lib.hid hnum
  clear hnum hfr
  go_upto_region 28 with (go_at_call 87; (with_reducible refine Hnum.out.mono ?_); rintro e w1 ⟨rfl, rfl⟩)
  go_quiet (fail)
  generalize hW4 : World.drewN wc _ = W4
  have hk4 : Kept w W4 := hW4 ▸ hk3.drewN _
  clear hW4 hk3 Hk3 hrun Hnum
  by_cases hbig : N < 5 + z
  · go_wp2
    go_ret3
    rw [Hlr.out, if_neg hshort, if_pos hbig]
    exact ⟨hk4.any _, .inr ⟨by decide, by decide, _, _, rfl⟩⟩
  obtain ⟨win, hwin⟩ : ∃ x, x = (ds.drop 5).take z := ⟨_, rfl⟩
  have hwl : win.length = z := by rw [hwin, List.length_take, List.length_drop, ← HN.out]; omega
  have hpart : Sl w R (if c = 5 then some (⟨g, o, none⟩ : Addr) else (some (⟨g, o, none⟩ : Addr)).map (·.add (5 * 1))) (u8s win) := by
    rw [hwin]
    exact (Hs.out.back (c := c) (k := 5) (by rw [← HN.out]; exact hc)).firsts z
  have hrun2 : ∀ w', Sem.run Tryd.prog (Instr.sliceAt 22 (.slice (some ⟨g, o, none⟩) N c) (some (.int .i64 5)) (some (.int .i64 ((5 : Int) + (z : Int)))) none) w' = .ok (.slice (if c = 5 then some (⟨g, o, none⟩ : Addr) else (some (⟨g, o, none⟩ : Addr)).map (·.add (5 * 1))) z (c - 5)) w' := fun w' => run_mid (some ⟨g, o, none⟩) N c 5 z (by omega) hc w'
  generalize (if c = 5 then some (⟨g, o, none⟩ : Addr) else (some (⟨g, o, none⟩ : Addr)).map (·.add (5 * 1))) = E1 at hpart hrun2
  obtain ⟨c2, hc2⟩ : ∃ x, x = c - 5 := ⟨_, rfl⟩
  rw [← hc2] at hrun2
  have hzc : z ≤ c2 := by omega
  have hwb : Bytes win := fun y hy => Hd.out y (by rw [hwin] at hy; exact List.mem_of_mem_drop (List.mem_of_mem_take hy))
  have hsbW : W4.cell? ⟨sb, 2, none⟩ = some (.pointer none) := hk4.cell hsb2 (fun h => h)
  have hsb4 := Hsb.out.kept hk4
  have hsf4 := hsb4.frozen 2
  have Hsb4 := Lib.hid hsb4
  have Hwl := Lib.hid hwl
  have Hwin := Lib.hid hwin
  have Hpart := Lib.hid (hpart.kept hk4)
  have Hwb := Lib.hid hwb
  have HRw4 := Lib.hid (fun j (hj : R j) => Nat.lt_of_lt_of_le (HRw.out j hj) hk4.size)
  have hsw4 : w.heap.size ≤ W4.heap.size := hk4.size
  have hz20 : z ≤ 1048576 := by omega
  clear hwl hwin hpart hwb hsb4 Hs hc2
  rcases h23 with rfl | rfl
  rotate_left
  · go_wp2
    go_ret3
    rw [Hlr.out, if_neg hshort, if_neg hbig, if_pos (by decide)]
    exact ⟨hk4.any _, .inr ⟨by decide, by decide, _, _, rfl⟩⟩
  have hlr0 : treeS win = none → litH ds 2 3 = (2, [], 0) := fun h => by
    rw [Hlr.out, if_neg hshort, if_neg hbig, if_neg (by decide), ← Hwin.out]
    simp only [h]
  have hlr1 : ∀ al m q, treeS win = some (al, m, q) → litH ds 2 3 = litT ds 3 m al q := fun al m q h => by
    rw [Hlr.out, if_neg hshort, if_neg hbig, if_neg (by decide), ← Hwin.out]
    simp only [h]
  have Hlr0 := Lib.hid hlr0
  have Hlr1 := Lib.hid hlr1
  have htree := treeOf_any (R := R) E1 z c2 win Hwl.out.symm W4 Hpart.out HRw4.out Hwb.out hz20 hzc
  have Htree := Lib.hid htree
  clear hlr0 hlr1 htree hsb2
  go_upto_region 36 with (go_at_call 64; (with_reducible refine Htree.out.mono ?_); rintro e w5 ⟨hk5, ⟨al, m, q, b, nn, ht, rfl, hb, hta⟩ | ⟨ht, p, z', rfl⟩⟩)
  rotate_left
  · have Ht := Lib.hid ht
    clear ht
    go_wp2
    go_ret3
    rw [Hlr0.out Ht.out]
    exact ⟨Kept.any (hk4.trans hk5) _, .inr ⟨by decide, by decide, _, _, rfl⟩⟩
  have HtA := Lib.hid hta
  obtain ⟨A1, c1, A2, c3, hta, hnn, ho1, ho2, hap⟩ := hta
  obtain ⟨ws, hws, htp⟩ := (treeS_some ht).2.2.2
  have hqz : q ≤ z := by have := (treeS_some ht).2.2.1; rw [Hwl.out] at this; exact this
  have hts := treeP_some htp
  have hm1 : 1 ≤ m := by rw [hts.2.2.1]; unfold mostW; omega
  obtain ⟨x, r, hr, hx1, hx2⟩ := first_row hts.2.2.2.2.2.2.2 hts.2.2.2.2.2.2.1 hm1
  have hm11 := hts.2.2.2.1
  have hlen2 : nn = 2 ^ m := by rw [hnn, rows_length hts.2.2.2.2.2.2.2, hts.2.2.2.2.2.2.1]
  have hrow : ∀ x ∈ rowsTo al m m, x.1 < 256 ∧ x.2 ≤ 11 := fun x hx => by
    obtain ⟨v, h2, h3, h4, h5⟩ := rowsTo_mem hx
    have hwl := (wtsIn_fine Hwb.out hws).2
    have hal : al.length ≤ 256 := by rw [hts.2.2.2.2.1, List.length_append]; simp; omega
    have := (List.getElem?_eq_some_iff.1 h4).1
    omega
  have hnn0 : 0 < nn := by rw [hlen2]; exact pow_pos' _
  obtain ⟨g2, o2, y, _, hA2, hcy, hyk⟩ := (Sl.of_own ho2).nat (k := 0) (by rw [List.length_map, ← hnn]; omega)
  rw [Nat.add_zero] at hcy
  have hy : y = x.2 := by
    have := hyk.out
    rw [hr] at this
    simpa using this.symm
  have d1 : w5.cell? ⟨b, 1, none⟩ = some (.slice A2 nn c3) := hta.cell 1
  have d2 : w5.cell? ⟨b, 2, none⟩ = some (.int .i64 (m : Int)) := hta.cell 2
  subst hA2
  have Ht := Lib.hid ht
  have Hrow := Lib.hid hrow
  have Hlen2 := Lib.hid hlen2
  have hk45 := hk4.trans hk5
  have Hlq := Lib.hid (Hlr1.out al m q ht)
  have h1al : (y < m ↔ 1 ∉ al) := by rw [hy]; exact hx1
  have H1al := Lib.hid h1al
  have hbs : sb ≠ b := by omega
  have e5 : w5.cell? ⟨sb, 2, none⟩ = some (.pointer none) := hk5.cell hsbW (fun h => h)
  have hsb5 := Hsb4.out.kept hk5
  have Hsb5 := Lib.hid hsb5
  have Hp5 := Lib.hid (Hpart.out.kept hk5)
  clear hr ht hts htp hws ho1 ho2 hap hta hrow hlen2 hnn hy hyk hx1 hx2 h1al hsb5 hsbW Htree
  by_cases hlt : y < m
  · have hyb : decide ((y : Int) < (m : Int)) = true := decide_eq_true (by omega)
    have hyb2 : decide (y < m) = true := decide_eq_true hlt
    go_quiet (fail)
    go_wp2
    go_ret3
    rw [Hlq.out, Hlt.out, if_pos (H1al.out.1 hlt)]
    exact ⟨Kept.any (hk45.drewN _) _, .inr ⟨by decide, by decide, _, _, rfl⟩⟩
  have hyb : decide ((y : Int) < (m : Int)) = false := decide_eq_false (by omega)
  have hyb2 : decide (y < m) = false := decide_eq_false hlt
  go_quiet (fail)
  generalize hW6 : World.drewN w5 _ = W6
  have hk56 : Kept w5 W6 := hW6 ▸ (Keep.refl _ _).drewN _
  have e6 : W6.cell? ⟨sb, 2, none⟩ = some (.pointer none) := hk56.cell e5 (fun h => h)
  have hsb6 := Hsb5.out.kept hk56
  have f6 := hsb6.frozen 2
  have hk6 := hk45.trans hk56
  have Hsb6 := Lib.hid hsb6
  have hrun3 : ∀ w', Sem.run Tryd.prog (Instr.sliceAt 22 (.slice E1 z c2) (some (.int .i64 (q : Int))) none none) w' = .ok (.slice (if c2 = q then E1 else E1.map (·.add (q * 1))) (z - q) (c2 - q)) w' := fun w' => run_back E1 z c2 q hqz w'
  have hp6 : Sl W6 R (if c2 = q then E1 else E1.map (·.add (q * 1))) (u8s (win.drop q)) := (Hp5.out.kept hk56).back (c := c2) (k := q) (by rw [Hwl.out]; exact hzc)
  generalize (if c2 = q then E1 else E1.map (·.add (q * 1))) = E2 at hp6 hrun3
  have hdl : (win.drop q).length = z - q := by rw [List.length_drop, Hwl.out]
  obtain ⟨sq, hsq⟩ : ∃ x, x = z - q := ⟨_, rfl⟩
  obtain ⟨c5, hc5⟩ : ∃ x, x = c2 - q := ⟨_, rfl⟩
  have hsc5 : sq ≤ c5 := by omega
  have hsq20 : sq ≤ 1048576 := by omega
  rw [← hsq] at hdl hrun3
  rw [← hc5] at hrun3
  have Hdl := Lib.hid hdl
  have Hp6 := Lib.hid hp6
  have Hk56 := Lib.hid hk56
  have hsz6 : W4.heap.size ≤ W6.heap.size := (hk5.trans hk56).size
  clear hp6 hdl hsq hc5 hsb6 hW6 e5 hk45 hcy d1 d2 hyb hyb2
  go_upto_region 38 with (fail)
  go_cut [18] from 157 to 164 (fun s18 wx => s18 = .slice E2 sq c5 ∧ Keep (· = sb) W6 wx ∧ Blk wx sb 138 (sc.set 2 (.pointer (some ⟨b, 0, none⟩))))
  case first =>
    go_region
    all_goals
      go_wp2_with fail
      go_meet
      case rel => exact ⟨rfl, by first | exact ((Keep.refl (· = sb) W6).set (p := ⟨sb, 2, none⟩) (.inl rfl) _).drew | exact ((Keep.refl (· = sb) W6).drew).set (p := ⟨sb, 2, none⟩) (.inl rfl) _, by first | exact (Hsb6.out.set 2 _).drew | exact Hsb6.out.drew.set 2 _⟩
  case rest =>
  obtain ⟨rfl, hk7, hsb7⟩ := hcut
  have e7 : wc.cell? ⟨sb, 2, none⟩ = some (.pointer (some ⟨b, 0, none⟩)) := by
    rw [hsb7.cell, List.getElem?_set_self (by have := (List.getElem?_eq_some_iff.1 hsc).1; exact this)]
  have hkw7 : Keep (· = sb) w wc := (Kept.any hk6 _).trans hk7
  have ht7 := (HtA.out.kept Hk56.out).keep hk7 (fun h => hbs h.symm) (fun j hj h => by omega)
  have hp7 := Hp6.out.keep hk7 (fun j _ h1 h2 => hRs (h2 ▸ h1))
  have hs7 := hk7.size
  have Ht7 := Lib.hid ht7
  have Hp7 := Lib.hid hp7
  clear ht7 hp7 e6 f6 hsb7 hrun3
  have hal1 : ¬ 1 ∉ al := fun h => hlt (H1al.out.2 h)
  by_cases hnb : 131072 < n
  · have hb2 : decide ((131072 : Int) < (n : Int)) = true := decide_eq_true (by omega)
    go_wp2
    go_ret3
    rw [Hlq.out, Hlt.out, if_neg hal1, if_pos (.inl hnb)]
    exact ⟨hkw7, .inr ⟨by decide, by decide, _, _, rfl⟩⟩
  by_cases hn0 : n = 0
  · subst hn0
    go_wp2
    go_ret3
    rw [Hlq.out, Hlt.out, if_neg hal1, if_pos (.inr trivial)]
    exact ⟨hkw7, .inr ⟨by decide, by decide, _, _, rfl⟩⟩
  have hb0 : ((n : Int) == 0) = false := by rw [beq_eq_false_iff_ne]; omega
  have hlf : litH ds 2 3 = ((strV (win.drop q) m (rowsTo al m m) n true).1, (strV (win.drop q) m (rowsTo al m m) n true).2, 5 + z) := by
    rw [Hlq.out, Hlt.out, if_neg hal1, if_neg (by omega), ← Hwin.out]
  have hstr := streams_any (R := R) b (rowsTo al m m) E2 c5 n true (win.drop q) wc Ht7.out Hp7.out (fun j hj => by have := HRw4.out j hj; omega) (fun y hy => Hwb.out y (List.mem_of_mem_drop hy)) (by rw [Hdl.out]; exact hsq20) (by rw [Hdl.out]; exact hsc5) (by omega) hm11 Hlen2.out Hrow.out
  obtain ⟨sv, hsv⟩ : ∃ x, x = strV (win.drop q) m (rowsTo al m m) n true := ⟨_, rfl⟩
  rw [← hsv] at hstr hlf
  rw [Hdl.out] at hstr
  have Hstr := Lib.hid hstr
  have Hlf := Lib.hid hlf
  clear hstr hlf hsv
  go_wp2_with (go_at_call 88; (with_reducible refine Hstr.out.mono ?_); rintro e w8 ⟨hk8, ⟨hv1, A', c', rfl, ho8⟩ | ⟨hv1, hv0, hv2, rfl⟩⟩)
  · go_ret3
    rw [Hlf.out]
    refine ⟨hkw7.kept hk8, .inl ⟨hv1, A', _, c', rfl, rfl, ?_⟩⟩
    exact (Sl.of_own ho8).mono (fun j hj => .inr ⟨by omega, hj.2⟩)
  · go_ret3
    rw [Hlf.out]
    exact ⟨hkw7.kept hk8, .inr ⟨hv1, hv2, _, _, rfl⟩⟩

end Go.Proofs.YtabaholflahepaaDoor
