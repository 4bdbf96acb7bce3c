/-
  Contract of (spec.tree).streams.
-/
import Derived.Test.YtabaholflahepaaDoorLitA
namespace Go.Proofs.YtabaholflahepaaDoor
open Go.RowKit

theorem TreeAt.kept {w w' : World} {b base m nn : Nat} {rs : List (Nat × Nat)} (h : TreeAt w b base m nn rs) (hk : Kept w w') : TreeAt w' b base m nn rs := by
  obtain ⟨A1, c1, A2, c2, h1, h2, h3, h4, h5⟩ := h
  exact ⟨A1, c1, A2, c2, h1.kept hk, h2, own_kept h3 hk, own_kept h4 hk, h5⟩
theorem fourV_cons (m : Nat) (rs : List (Nat × Nat)) (sz : Option Nat) (n : Nat) (r : List (Option Nat × Nat)) (d out : List Nat) : fourV m rs ((sz, n) :: r) d out =
    if d.length < sz.getD d.length then (2, []) else if n = 0 then (0, [])
    else if (decV (d.take (sz.getD d.length)) m rs n).1 = 1 then fourV m rs r (d.drop (sz.getD d.length)) (out ++ (decV (d.take (sz.getD d.length)) m rs n).2)
    else ((decV (d.take (sz.getD d.length)) m rs n).1, []) := by rw [fourV]

set_option maxHeartbeats 4000000 in
set_option maxRecDepth 4000 in
theorem streams_any {R : Nat → Prop} {base m nn : Nat} (b : Nat) (rs : List (Nat × Nat)) (A : Option Addr) (c many : Nat) (four : Bool) (ds : List Nat) (w : World) (ht : TreeAt w b base m nn rs) (hs : Sl w R A (u8s ds)) (hR : ∀ k, R k → k < w.heap.size) (hd : Bytes ds) (hlen : ds.length ≤ 1048576) (hc : ds.length ≤ c) (hmany : many ≤ 1048576)
    (hm : m ≤ 11) (hrl : nn = 2 ^ m) (hrow : ∀ x ∈ rs, x.1 < 256 ∧ x.2 ≤ 11) :
    Calls Tryd.prog 88 #[.pointer (some ⟨b, 0, none⟩), .slice A ds.length c, .int .i64 many, .bool four] w (DecV w (strV ds m rs many four)) := by
  cases four with
  | false =>
    have h1 := decode_any b rs A c many ds w ht hs hR hd hlen hmany hm hrl hrow
    have H1 := Lib.hid h1
    clear h1 ht hs hd hrow
    go_enter Tryd.func88, Tryd.ntmps88
    go_wp2_with fail
    refine H1.out.mono ?_
    intro e w' h
    have h2 := decV_any h
    have e1 : strV ds m rs many false = decV ds m rs many := rfl
    clear h
    obtain ⟨hk, ⟨hv, A', c', rfl, ho⟩ | ⟨hv, hv2, hv3, rfl⟩⟩ := h2
    · obtain ⟨v, hvv⟩ : ∃ v, v = decV ds m rs many := ⟨_, rfl⟩
      rw [← hvv] at hv ho e1 ⊢
      obtain ⟨n, hn⟩ : ∃ n, n = v.2.length := ⟨_, rfl⟩
      rw [← hn] at ho ⊢
      have Hn := Lib.hid hn
      have E1 := Lib.hid e1
      clear hn hvv H1 e1
      go_wp2
      go_ret2
      rw [E1.out]
      exact ⟨hk, .inl ⟨hv, A', c', by rw [← Hn.out]; rfl, by rw [← Hn.out]; exact ho⟩⟩
    · obtain ⟨v, hvv⟩ : ∃ v, v = decV ds m rs many := ⟨_, rfl⟩
      rw [← hvv] at hv hv2 hv3 e1 ⊢
      obtain ⟨v1, v2⟩ := v
      simp only at hv hv2 hv3
      have E1 := Lib.hid e1
      clear hvv H1 e1
      go_wp2
      go_ret2
      rw [E1.out]
      exact ⟨hk, .inr ⟨hv, hv2, hv3, rfl⟩⟩
  | true =>
    by_cases h6 : many < 6
    · have e1 : strV ds m rs many true = (0, []) := by unfold strV; rw [if_neg (by decide), if_pos h6]
      rw [e1]
      clear e1 ht hs hd hrow
      go_enter Tryd.func88, Tryd.ntmps88
      go_wp2
      go_ret2
      exact ⟨Keep.refl _ _, .inr ⟨by decide, rfl, by decide, rfl⟩⟩
    by_cases hl6 : ds.length < 6
    · have e1 : strV ds m rs many true = (2, []) := by unfold strV; rw [if_neg (by decide), if_neg h6, if_pos hl6]
      rw [e1]
      clear e1 ht hs hd hrow
      go_enter Tryd.func88, Tryd.ntmps88
      go_wp2
      go_ret2
      exact ⟨Keep.refl _ _, .inr ⟨by decide, rfl, by decide, rfl⟩⟩
    · have e1 : strV ds m rs many true = fourV m rs [(some (num (ds.take 2)), (many + 3) / 4), (some (num ((ds.drop 2).take 2)), (many + 3) / 4), (some (num ((ds.drop 4).take 2)), (many + 3) / 4), (none, many - 3 * ((many + 3) / 4))] (ds.drop 6) [] := by
        unfold strV; rw [if_neg (by decide), if_neg h6, if_neg hl6]
      obtain ⟨g, o, hRg, hA, _⟩ := hs.get (by simp; omega)
      subst hA
      obtain ⟨sz0, hz0⟩ : ∃ x, x = num (ds.take 2) := ⟨_, rfl⟩
      obtain ⟨sz1, hz1⟩ : ∃ x, x = num ((ds.drop 2).take 2) := ⟨_, rfl⟩
      obtain ⟨sz2, hz2⟩ : ∃ x, x = num ((ds.drop 4).take 2) := ⟨_, rfl⟩
      obtain ⟨V, hV⟩ : ∃ V, V = strV ds m rs many true := ⟨_, rfl⟩
      obtain ⟨ec, hec⟩ : ∃ x, x = (many + 3) / 4 := ⟨_, rfl⟩
      obtain ⟨n4, hn4⟩ : ∃ x, x = many - 3 * ec := ⟨_, rfl⟩
      obtain ⟨d6, hd6⟩ : ∃ x, x = ds.drop 6 := ⟨_, rfl⟩
      rw [← hz0, ← hz1, ← hz2, ← hec, ← hn4, ← hd6, ← hV] at e1
      rw [← hV]
      have hdb : ∀ k, Bytes ((ds.drop k).take 2) := fun k x hx => hd x (List.mem_of_mem_drop (List.mem_of_mem_take hx))
      have hb2 : ∀ k, num ((ds.drop k).take 2) < 65536 := fun k => by
        have h1 := num_lt (hdb k)
        have h2 : 2 ^ (8 * ((ds.drop k).take 2).length) ≤ 2 ^ 16 := Nat.pow_le_pow_right (by decide) (by rw [List.length_take]; omega)
        have h3 : (2 : Nat) ^ 16 = 65536 := by decide
        omega
      have hz0b : sz0 < 65536 := by rw [hz0]; exact hb2 0
      have hz1b : sz1 < 65536 := by rw [hz1]; exact hb2 2
      have hz2b : sz2 < 65536 := by rw [hz2]; exact hb2 4
      have hl2 : ∀ k, k + 2 ≤ ds.length → 2 = ((ds.drop k).take 2).length := fun k hk => by rw [List.length_take, List.length_drop]; omega
      have hnl0 := numberLow_any (some ⟨g, o, none⟩) 2 c (ds.take 2) (hl2 0 (by omega)) w.drew (hs.firsts 2) (hdb 0) (by decide)
      have hnl1 := numberLow_any (some ⟨g, o + 2, none⟩) 2 (c - 2) ((ds.drop 2).take 2) (hl2 2 (by omega)) w.drew ((hs.part 2).firsts 2) (hdb 2) (by decide)
      have hnl2 := numberLow_any (some ⟨g, o + 4, none⟩) 2 (c - 4) ((ds.drop 4).take 2) (hl2 4 (by omega)) w.drew ((hs.part 4).firsts 2) (hdb 4) (by decide)
      rw [← hz0] at hnl0
      rw [← hz1] at hnl1
      rw [← hz2] at hnl2
      have hs6 := hs.back (c := c) (k := 6) hc
      rw [← hd6] at hs6
      have hrun6 : ∀ w', Sem.run Tryd.prog (Instr.sliceAt 22 (.slice (some ⟨g, o, none⟩) ds.length c) (some (.int .i64 6)) none none) w' = .ok (.slice (if c = 6 then some (⟨g, o, none⟩ : Addr) else (some (⟨g, o, none⟩ : Addr)).map (·.add (6 * 1))) (ds.length - 6) (c - 6)) w' := fun w' => run_back (some ⟨g, o, none⟩) ds.length c 6 (by omega) w'
      generalize (if c = 6 then some (⟨g, o, none⟩ : Addr) else (some (⟨g, o, none⟩ : Addr)).map (·.add (6 * 1))) = A6 at hs6 hrun6
      have hd6l : ds.length - 6 = d6.length := by rw [hd6, List.length_drop]
      have hd6b : Bytes d6 := by rw [hd6]; exact fun x hx => hd x (List.mem_of_mem_drop hx)
      have hc2 : ¬ c = 2 := by omega
      have hc4 : ¬ c = 4 := by omega
      have hc2i : (2 : Int) ≤ (c : Int) := by omega
      have hc4i : (4 : Int) ≤ (c : Int) := by omega
      have hc6i : (6 : Int) ≤ (c : Int) := by omega
      have hec2 : 2 ≤ ec := by omega
      have hecm : ec ≤ many := by omega
      have hn4m : n4 ≤ many := by omega
      have heci : ((many : Int) + 3) / 4 = (ec : Int) := by omega
      have hn4i : (many : Int) - 3 * (ec : Int) = (n4 : Int) := by omega
      obtain ⟨N, hN⟩ : ∃ N, N = ds.length := ⟨_, rfl⟩
      rw [← hN] at hlen hc hl6 hd6l hrun6 ⊢
      have Hnl0 := Lib.hid hnl0
      have Heci := Lib.hid heci
      have Hnl1 := Lib.hid hnl1
      have Hnl2 := Lib.hid hnl2
      have Hs6 := Lib.hid hs6
      have Hd6l := Lib.hid hd6l
      have E1 := Lib.hid e1
      have Ht := Lib.hid ht
      have HR := Lib.hid hR
      have Hrow := Lib.hid hrow
      have Hrl := Lib.hid hrl
      have Hd6b := Lib.hid hd6b
      clear heci hnl0 hnl1 hnl2 hs6 hd6l e1 ht hR hrow hrl hd6b hz0 hz1 hz2 hec hn4 hd6 hdb hb2 hl2 hN hV hs hd
      go_enter Tryd.func88, Tryd.ntmps88
      go_wp2
      refine wp_region_still_tail 9 (by kernel_rfl) (by kernel_rfl) ?_
      simp only [List.take_succ_cons, List.take_zero, List.drop_succ_cons, List.drop_zero]
      repeat still_step
      still_call (Hnl0.out.mono fun _ _ ⟨h1, h2⟩ => ⟨h1, h2.symm⟩)
      repeat still_step
      still_call (Hnl1.out.mono fun _ _ ⟨h1, h2⟩ => ⟨h1, h2.symm⟩)
      repeat still_step
      still_call (Hnl2.out.mono fun _ _ ⟨h1, h2⟩ => ⟨h1, h2.symm⟩)
      repeat still_step
      refine wpStill_nil ?_
      change wpList _ _ _ _ _ w.drew
      obtain ⟨sb, hsb⟩ : ∃ x, x = w.heap.size := ⟨_, rfl⟩
      go_wp2
      · obtain ⟨W, hW⟩ : ∃ x, x = (w.alloc (.cells #[.int .i64 (sz0 : Int), .int .i64 (sz1 : Int), .int .i64 (sz2 : Int)] 3)).drew := ⟨_, rfl⟩
        have hsz : Blk W sb 3 [.int .i64 (sz0 : Int), .int .i64 (sz1 : Int), .int .i64 (sz2 : Int)] := by rw [hW, hsb]; exact Blk.new w 3 _
        have hkW : Kept w W := by rw [hW]; exact ((Keep.refl _ _).alloc _).drew
        have hWs : w.heap.size ≤ W.heap.size := hkW.size
        rw [← hsb, ← hW, Heci.out]

        clear hW hsb
        go_loopg [1, 12, 46] 5 (fun f s1 s12 s46 wr => ∃ (i n' c' k c2 : Nat) (A' A2 : Option Addr) (d out : List Nat), 4 - i < f ∧ i ≤ 4 ∧ s1 = .slice A' n' c' ∧ s12 = .slice A2 k c2 ∧ s46 = .int .i64 i ∧ n' ≤ 1048576 ∧ n' ≤ c' ∧ k ≤ 1048576 * i ∧ Sl wr R A' (u8s d) ∧ Hid (n' = d.length) ∧ Hid (Bytes d) ∧ wr.ownsRow W.heap.size 5 1 (.slice A2 k c2) k (u8s out) ∧ Hid (k = out.length) ∧ Hid (fourV m rs ([(some sz0, ec), (some sz1, ec), (some sz2, ec), (none, n4)].drop i) d out = V) ∧ Kept W wr)
        case atStart => exact ⟨0, N - 6, _, 0, 0, _, none, d6, [], by omega, by omega, rfl, rfl, rfl, by omega, by omega, by omega, Hs6.out.kept hkW, Hd6l.out, Hd6b.out, World.ownsRow_nil _ _ _ _, rfl, E1.out.symm, Keep.refl _ _⟩
        case round =>
          obtain ⟨i, n', c', k, c2, A', A2, d, out, q1, q2, rfl, rfl, rfl, qn8, q3, q4, qs, qn, qd, qo, qo2, qV, qk⟩ := hrel
          have hqz := qk.size
          by_cases hi3 : i < 3
          · obtain ⟨si, hsi⟩ : ∃ x, x = [sz0, sz1, sz2].getD i 0 := ⟨_, rfl⟩
            obtain ⟨specs', hspe⟩ : ∃ x, x = [(some sz0, ec), (some sz1, ec), (some sz2, ec), (none, n4)].drop (i + 1) := ⟨_, rfl⟩
            have h012 : i = 0 ∨ i = 1 ∨ i = 2 := by omega
            have hsp : [(some sz0, ec), (some sz1, ec), (some sz2, ec), (none, n4)].drop i = (some si, ec) :: specs' := by
              rw [hsi, hspe]; rcases h012 with rfl | rfl | rfl <;> rfl
            have hsc : wr.cell? ⟨sb, i, none⟩ = some (.int .i64 (si : Int)) := by
              rw [(hsz.kept qk).cell, hsi]; rcases h012 with rfl | rfl | rfl <;> rfl
            have hsib : si < 65536 := by rw [hsi]; rcases h012 with rfl | rfl | rfl <;> assumption
            have hi3b : ((i : Int) == 3) = false := beq_eq_false_iff_ne.2 (by omega)
            have Hspe := Lib.hid hspe
            clear hsi h012 hspe
            by_cases hfit : n' < si
            · have hV : V = (2, []) := by rw [← qV.out, hsp, fourV_cons, if_pos (by simp only [Option.getD_some]; rw [← qn.out]; exact hfit)]
              subst hV
              clear hsp qV
              go_wp2
              go_ret2
              exact ⟨hkW.trans qk, .inr ⟨by decide, rfl, by decide, rfl⟩⟩
            · have hfit2 : si ≤ n' := by omega
              have hn0 : ec ≠ 0 := by omega
              have hn0b : ((ec : Int) == 0) = false := beq_eq_false_iff_ne.2 (by omega)
              have hlt : (d.take si).length = si := by rw [List.length_take, ← qn.out]; omega
              have hdec := decode_any b rs A' c' ec (d.take si) wr ((Ht.out.kept hkW).kept qk) (qs.firsts si) (fun j hj => by have := HR.out j hj; omega) (fun x hx => qd.out x (List.mem_of_mem_take hx)) (by omega) (by omega) hm Hrl.out Hrow.out
              rw [hlt] at hdec
              obtain ⟨v, hv⟩ : ∃ v, v = decV (d.take si) m rs ec := ⟨_, rfl⟩
              have hV0 : V = if v.1 = 1 then fourV m rs specs' (d.drop si) (out ++ v.2) else (v.1, []) := by rw [← qV.out, hsp, fourV_cons, if_neg (by simp only [Option.getD_some]; rw [← qn.out]; omega), if_neg hn0, hv]; rfl
              have HV0 := Lib.hid hV0
              have Hdec := Lib.hid hdec
              have Hv := Lib.hid hv
              obtain ⟨E, hE⟩ : ∃ x, x = (if c' = si then A' else A'.map (·.add (si * 1))) := ⟨_, rfl⟩
              have hsE : Sl wr R E (u8s (d.drop si)) := by rw [hE]; exact qs.back (by rw [← qn.out]; exact q3)
              have hrun := run_back A' n' c' si hfit2
              rw [← hE] at hrun
              clear hE
              clear hV0 hdec hv hlt hsp qV
              go_wp2_with fail
              (with_reducible refine Hdec.out.mono ?_)
              intro e w2 hpost
              have hpost2 := decV_any hpost
              rw [← Hv.out] at hpost2
              clear hpost Hdec
              obtain ⟨hk2, ⟨hv1, A3, c3, rfl, ho3⟩ | ⟨hv1, hv2, hv3, rfl⟩⟩ := hpost2
              · have hvl : v.2.length = ec := by have := Hv.out; rw [this]; exact decV_len (by rw [← this]; exact hv1)
                rw [hvl] at ho3
                rw [hvl]
                have HV1 : Hid _ := HV0.out.trans (if_pos hv1)
                obtain ⟨v2, hv2e⟩ : ∃ x, x = v.2 := ⟨_, rfl⟩
                rw [← hv2e] at ho3 HV1 hvl
                have Hvl := Lib.hid hvl
                clear Hv HV0 hv2e hv1 hvl
                have ho2 := own_kept qo hk2
                have hsr := src_sl (size := 1) Tryd.underlying22 (Sl.of_own ho3).drew ec c3 (by rw [u8s_length, Hvl.out, Nat.mul_one]) (u8s_one v2)
                have hsr' := src_sl (size := 1) Tryd.underlying22 (Sl.of_own ho3) ec c3 (by rw [u8s_length, Hvl.out, Nat.mul_one]) (u8s_one v2)
                have h2s := hk2.size
                have hqs := qk.size
                go_wp2
                go_region_law (first
                  | (refine step_app rfl _ _ (by rfl) elByte W.heap.size (.slice A2 k c2) k (u8s out) (by rfl) (own_drew ho2) ec (u8s v2) hsr (by unfold maxLen; omega) (by omega) (by simp; omega) ?_; intro A5 c5 w5 ho5 hg5 hor5))
                all_goals
                  go_wp2
                  go_roundg (4 - i)
                  case measure => exact q1
                  case rel =>
                    have hk5 : Kept W w5 := keep_grown (qk.trans hk2).drew hg5 (fun j hj => (ho2.lt j hj).1)
                    exact ⟨i + 1, _, _, k + ec, c5, E, A5, d.drop si, out ++ v2, by omega, by omega, rfl, rfl, by go_num, by omega, by omega, by omega, sl_grown (hsE.kept hk2).drew hg5 (fun j hj hR => by have h1 := (ho2.lt j hj).1; have h2 := HR.out j hR; omega), by show _ = _; rw [List.length_drop, ← qn.out], fun x hx => qd.out x (List.mem_of_mem_drop hx), by simpa [u8s] using ho5, by show _ = _; rw [List.length_append, ← qo2.out, Hvl.out], by show _ = _; rw [HV1.out, Hspe.out], hk5⟩
              · have HV1 : Hid _ := HV0.out.trans (if_neg hv1)
                obtain ⟨v1, v2⟩ := v
                simp only at hv1 hv2 hv3
                have hV : V = (v1, []) := HV1.out
                subst hV
                have hv1b : ((v1 : Int) != 1) = true := bne_iff_ne.2 (by omega)
                clear HV0 HV1 Hv
                go_wp2
                go_ret2
                exact ⟨hkW.trans (qk.trans hk2), .inr ⟨hv1, rfl, hv3, rfl⟩⟩
          · by_cases hi4 : i = 4
            · subst hi4
              have hV : V = (1, out) := by rw [← qV.out]; rfl
              subst hV
              go_wp2
              go_ret2
              exact ⟨hkW.trans qk, .inl ⟨rfl, A2, c2, by rw [← qo2.out]; rfl, by rw [← qo2.out]; exact own_mono qo hWs⟩⟩
            · obtain rfl : i = 3 := by omega
              have hsp : [(some sz0, ec), (some sz1, ec), (some sz2, ec), (none, n4)].drop 3 = [(none, n4)] := rfl
              by_cases hfit : False
              · exact hfit.elim
              · have hfit2 : n' ≤ n' := by omega
                by_cases hn0 : n4 = 0
                · have hV : V = (0, []) := by rw [← qV.out, hsp, fourV_cons, if_neg (show ¬ d.length < (none : Option Nat).getD d.length from Nat.lt_irrefl _), if_pos hn0]
                  subst hV
                  have hn0b : ((n4 : Int) == 0) = true := beq_iff_eq.2 (by omega)
                  clear hsp qV
                  go_wp2
                  go_ret2
                  exact ⟨hkW.trans qk, .inr ⟨by decide, rfl, by decide, rfl⟩⟩
                · have hn0b : ((n4 : Int) == 0) = false := beq_eq_false_iff_ne.2 (by omega)
                  have hlt : (d.take n').length = n' := by rw [List.length_take, ← qn.out]; omega
                  have hdec := decode_any b rs A' c' n4 (d.take n') wr ((Ht.out.kept hkW).kept qk) (qs.firsts n') (fun j hj => by have := HR.out j hj; omega) (fun x hx => qd.out x (List.mem_of_mem_take hx)) (by omega) (by omega) hm Hrl.out Hrow.out
                  rw [hlt] at hdec
                  obtain ⟨v, hv⟩ : ∃ v, v = decV (d.take n') m rs n4 := ⟨_, rfl⟩
                  have hV0 : V = if v.1 = 1 then fourV m rs [] (d.drop n') (out ++ v.2) else (v.1, []) := by rw [← qV.out, hsp, fourV_cons, if_neg (show ¬ d.length < (none : Option Nat).getD d.length from Nat.lt_irrefl _), if_neg hn0, hv, qn.out]; rfl
                  have HV0 := Lib.hid hV0
                  have Hdec := Lib.hid hdec
                  have Hv := Lib.hid hv
                  obtain ⟨E, hE⟩ : ∃ x, x = (if c' = n' then A' else A'.map (·.add (n' * 1))) := ⟨_, rfl⟩
                  have hsE : Sl wr R E (u8s (d.drop n')) := by rw [hE]; exact qs.back (by rw [← qn.out]; exact q3)
                  have hrun := run_back A' n' c' n' (Nat.le_refl _)
                  rw [← hE] at hrun
                  clear hE
                  clear hV0 hdec hv hlt hsp qV
                  go_wp2_with fail
                  (with_reducible refine Hdec.out.mono ?_)
                  intro e w2 hpost
                  have hpost2 := decV_any hpost
                  rw [← Hv.out] at hpost2
                  clear hpost Hdec
                  obtain ⟨hk2, ⟨hv1, A3, c3, rfl, ho3⟩ | ⟨hv1, hv2, hv3, rfl⟩⟩ := hpost2
                  · have hvl : v.2.length = n4 := by have := Hv.out; rw [this]; exact decV_len (by rw [← this]; exact hv1)
                    rw [hvl] at ho3
                    rw [hvl]
                    have HV1 : Hid _ := HV0.out.trans (if_pos hv1)
                    obtain ⟨v2, hv2e⟩ : ∃ x, x = v.2 := ⟨_, rfl⟩
                    rw [← hv2e] at ho3 HV1 hvl
                    have Hvl := Lib.hid hvl
                    clear Hv HV0 hv2e hv1 hvl
                    have ho2 := own_kept qo hk2
                    have hsr := src_sl (size := 1) Tryd.underlying22 (Sl.of_own ho3).drew n4 c3 (by rw [u8s_length, Hvl.out, Nat.mul_one]) (u8s_one v2)
                    have hsr' := src_sl (size := 1) Tryd.underlying22 (Sl.of_own ho3) n4 c3 (by rw [u8s_length, Hvl.out, Nat.mul_one]) (u8s_one v2)
                    have h2s := hk2.size
                    have hqs := qk.size
                    go_wp2
                    go_region_law (first
                      | (refine step_app rfl _ _ (by rfl) elByte W.heap.size (.slice A2 k c2) k (u8s out) (by rfl) (own_drew ho2) n4 (u8s v2) hsr (by unfold maxLen; omega) (by omega) (by simp; omega) ?_; intro A5 c5 w5 ho5 hg5 hor5))
                    all_goals
                      go_wp2
                      go_roundg (4 - 3)
                      case measure => exact q1
                      case rel =>
                        have hk5 : Kept W w5 := keep_grown (qk.trans hk2).drew hg5 (fun j hj => (ho2.lt j hj).1)
                        exact ⟨4, _, _, k + n4, c5, E, A5, d.drop n', out ++ v2, by omega, by omega, rfl, rfl, by go_num, by omega, by omega, by omega, sl_grown (hsE.kept hk2).drew hg5 (fun j hj hR => by have h1 := (ho2.lt j hj).1; have h2 := HR.out j hR; omega), by show _ = _; rw [List.length_drop, ← qn.out]; omega, fun x hx => qd.out x (List.mem_of_mem_drop hx), by simpa [u8s] using ho5, by show _ = _; rw [List.length_append, ← qo2.out, Hvl.out], by show _ = _; rw [HV1.out]; rfl, hk5⟩
                  · have HV1 : Hid _ := HV0.out.trans (if_neg hv1)
                    obtain ⟨v1, v2⟩ := v
                    simp only at hv1 hv2 hv3
                    have hV : V = (v1, []) := HV1.out
                    subst hV
                    have hv1b : ((v1 : Int) != 1) = true := bne_iff_ne.2 (by omega)
                    clear HV0 HV1 Hv
                    go_wp2
                    go_ret2
                    exact ⟨hkW.trans (qk.trans hk2), .inr ⟨hv1, rfl, hv3, rfl⟩⟩
end Go.Proofs.YtabaholflahepaaDoor
