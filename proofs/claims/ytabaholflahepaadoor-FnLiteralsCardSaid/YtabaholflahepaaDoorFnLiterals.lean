/-
  The walk of laws.FnLiterals: it returns true.
-/
import Derived.Test.YtabaholflahepaaDoorLitD
import Derived.Test.YtabaholflahepaaDoorLitY
import Derived.Laws.BytesArg
import Derived.Shelf.Bytes.SlSmallAll
namespace Go.Proofs.YtabaholflahepaaDoor
open Go.RowKit

set_option maxHeartbeats 1000000 in
set_option maxRecDepth 4000 in
theorem lits_any {R : Nat → Prop} (sb : Nat) (sc : List Value) (A : Option Addr) (c : Nat) (ds : List Nat) (w : World) (hs : Sl w R A (u8s ds)) (hRw : ∀ j, R j → j < w.heap.size) (hRs : ¬ R sb) (hsb : Blk w sb 138 sc) (hsc : sc[2]? = some (.pointer none)) (hd : Bytes ds) (hlen : ds.length ≤ 1048576) (hc : ds.length ≤ c) :
    Calls Tryd.prog 65 #[.pointer (some ⟨sb, 0, none⟩), .slice A ds.length c] w (SLitPost R (· = sb) w (litS ds)) := by
  rcases hds : ds with _ | ⟨b0, tl⟩
  · have hl : litS [] = (2, [], 0) := by unfold litS; rw [if_pos rfl]
    have Hl := Lib.hid hl
    clear hs hRw hRs hsb hd hlen hc hl
    rw [List.length_nil]
    go_enter Tryd.func65, Tryd.ntmps65
    go_wp2
    go_ret3
    rw [Hl.out]
    exact ⟨Keep.refl _ _, .inr ⟨by decide, by decide, _, _, rfl⟩⟩
  · rw [← hds]
    have h0 : ds[0]? = some b0 := by rw [hds]; rfl
    have hg0 : ds.getD 0 0 = b0 := by rw [hds]; rfl
    have hne : ds ≠ [] := by rw [hds]; simp
    have h4 : b0 / 4 % 4 = 0 ∨ b0 / 4 % 4 = 1 ∨ b0 / 4 % 4 = 2 ∨ b0 / 4 % 4 = 3 := by omega
    by_cases hlow : b0 % 4 < 2
    · have hlit : litS ds = litR ds (b0 % 4) (b0 / 4 % 4) := by unfold litS; rw [if_neg hne, hg0, if_pos hlow]
      rw [hlit]
      have hto : ∀ v e w', SLitPost R (fun _ => False) w v e w' → SLitPost R (· = sb) w v e w' := fun v e w' h => ⟨Kept.any h.1 _, h.2⟩
      rcases h4 with h | h | h | h
      · rw [h]; exact (specLitR0 sb A c ds b0 _ w hs hd hlen hc h0 rfl hlow h).mono (hto _)
      · rw [h]; exact (specLitR1 sb A c ds b0 _ w hs hd hlen hc h0 rfl hlow h).mono (hto _)
      · rw [h]; exact (specLitR2 sb A c ds b0 _ w hs hd hlen hc h0 rfl hlow h).mono (hto _)
      · rw [h]; exact (specLitR3 sb A c ds b0 _ w hs hd hlen hc h0 rfl hlow h).mono (hto _)
    · have hlit : litS ds = litH ds (b0 % 4) (b0 / 4 % 4) := by unfold litS; rw [if_neg hne, hg0, if_neg hlow]
      rw [hlit]
      rcases h4 with h | h | h | h
      · rw [h]; exact specLitH0 sb sc A c ds b0 _ w hs hRw hRs hsb hsc hd hlen hc h0 rfl (by omega) h
      · rw [h]; exact specLitH1 sb sc A c ds b0 _ w hs hRw hRs hsb hsc hd hlen hc h0 rfl (by omega) h
      · rw [h]; exact specLitH2 sb sc A c ds b0 _ w hs hRw hRs hsb hsc hd hlen hc h0 rfl (by omega) h
      · rw [h]; exact specLitH3 sb sc A c ds b0 _ w hs hRw hRs hsb hsc hd hlen hc h0 rfl (by omega) h

set_option maxHeartbeats 1000000 in
set_option maxRecDepth 4000 in
theorem specLits_any {R : Nat → Prop} (A : Option Addr) (c : Nat) (ds : List Nat) (w : World) (hs : Sl w R A (u8s ds)) (hRw : ∀ j, R j → j < w.heap.size) (hd : Bytes ds) (hlen : ds.length ≤ 1048576) (hc : ds.length ≤ c) :
    Calls Tryd.prog 38 #[.slice A ds.length c] w (SLitPost R (fun _ => False) w (litS ds)) := by
  have Hs := Lib.hid hs
  have Hd := Lib.hid hd
  have HRw := Lib.hid hRw
  have hl := fun (cs : Array Value) (hcs : cs.toList[2]? = some (.pointer none)) => lits_any (R := R) w.heap.size cs.toList A c ds (w.alloc (.cells cs 138)) (hs.kept ((Keep.refl (fun _ => False) w).alloc _)) (fun j hj => by have := hRw j hj; simp; omega) (fun h => by have := hRw _ h; omega) (by have := Blk.new w 138 cs.toList; rwa [Array.toArray_toList] at this) hcs hd hlen hc
  have Hl := Lib.hid hl
  obtain ⟨v, hv⟩ : ∃ v, v = litS ds := ⟨_, rfl⟩
  rw [← hv] at Hl ⊢
  clear hs hd hRw hl hv
  go_enter Tryd.func38, Tryd.ntmps38
  go_wp2_with (go_at_call 65; (with_reducible refine (Hl.out _ (by kernel_rfl)).mono ?_); rintro e w1 ⟨hk1, ⟨hv1, A', n, c', hn, rfl, hs1⟩ | ⟨hv1, hv2, x, y, rfl⟩⟩)
  · go_ret3
    refine ⟨((Keep.refl _ _).alloc _).then hk1 (fun j hj h => by omega), .inl ⟨hv1, A', n, c', hn, rfl, hs1.mono (fun j hj => ?_)⟩⟩
    rcases hj with hj | ⟨h1, h2⟩
    · exact .inl hj
    · exact .inr ⟨by simp at h1; omega, h2⟩
  · go_ret3
    exact ⟨((Keep.refl _ _).alloc _).then hk1 (fun j hj h => by omega), .inr ⟨hv1, hv2, x, y, rfl⟩⟩

theorem conv_sl {R : Nat → Prop} {A : Option Addr} {c n : Nat} {ds : List Nat} {w : World} (hs : Sl w R A (u8s ds)) (hn : n = ds.length) : (convert 22 9 (.slice A n c)).run Tryd.prog w = .ok (.string (strOfNums (ds.map (fun x : Nat => (x : Int))))) w := by
  have h22 : Tryd.prog.underlying 22 = some (.slice 5) := by kernel_rfl
  have h5 : Tryd.prog.underlying 5 = some (.int .u8) := by kernel_rfl
  have h9 : Tryd.prog.underlying 9 = some .string := by kernel_rfl
  rcases Nat.eq_zero_or_pos n with h0 | h0
  · subst h0
    have hnil : ds = [] := List.length_eq_zero_iff.1 hn.symm
    subst hnil
    exact Go.Proofs.run_convert_bytes_zero w 22 5 h22 h5 A c 9 h9
  · obtain ⟨g, o, _, rfl, hcell⟩ := hs.get (by simp; omega)
    refine run_convert_bytes_arg w 22 5 h22 h5 g o n c (ds.map (fun x : Nat => (x : Int))) (by simp [hn]) (fun i hi => ?_) 9 h9
    have h := hcell i _ (u8s_at (by omega))
    rw [h, List.getD_eq_getElem?_getD, List.getD_eq_getElem?_getD, List.getElem?_map, List.getElem?_eq_getElem (by omega)]
    rfl
theorem same_any {R R' : Nat → Prop} (A A' : Option Addr) (n n' c c' : Nat) (xs : List Nat) (hn : n = xs.length) (hn' : n' = xs.length) (w : World) (hs : Sl w R A (u8s xs)) (hs' : Sl w R' A' (u8s xs)) :
    Calls Tryd.prog 40 #[.slice A n c, .slice A' n' c'] w fun e w' => e = .returned (.bool true) ∧ Kept w w' := by
  have h1 := conv_sl (c := c) hs hn
  have h2 := conv_sl (c := c') hs' hn'
  generalize strOfNums (xs.map (fun x : Nat => (x : Int))) = s at h1 h2
  clear hs hs' hn hn'
  go_enter Tryd.func40, Tryd.ntmps40
  go_wp2
  go_ret
  exact ⟨by simp, Keep.refl _ _⟩

set_option maxHeartbeats 2000000 in
set_option maxRecDepth 4000 in
theorem fnLiterals_walk (A : Option Addr) (c : Nat) (ds : List Nat) (w : World) (hs : Sl w (· < w.heap.size) A (u8s ds)) (hd : Bytes ds) (_hm : ds.length ≤ 9223372036854775807) (hc : ds.length ≤ c) (he : Errs w.heap.size w) :
    Calls Tryd.prog 14 #[.slice A ds.length c] w fun e w' => e = .returned (.bool true) ∧ Kept w w' := by
  by_cases g1 : 2147483647 < ds.length
  · go_enter Tryd.func14, Tryd.ntmps14
    go_wp2_with fail
    go_ret
    exact ⟨rfl, Keep.refl _ _⟩
  by_cases g2 : 131072 < ds.length
  · go_enter Tryd.func14, Tryd.ntmps14
    go_wp2_with fail
    go_ret
    exact ⟨rfl, Keep.refl _ _⟩
  have h1 := specLits_any A c ds w hs (fun _ h => h) hd (by omega) hc
  have h2 := fun w' (hk : Kept w w') hv => implLits_any A c ds w' (hs.kept hk) hd (by omega) (he.kept hk) hv
  obtain ⟨v, hv⟩ : ∃ v, v = litS ds := ⟨_, rfl⟩
  rw [← hv] at h1
  simp only [← hv] at h2
  have H1 := Lib.hid h1
  have H2 := Lib.hid h2
  clear h1 h2 hd hs he hv
  go_enter Tryd.func14, Tryd.ntmps14
  go_wp2_with fail
  refine H1.out.mono ?_
  rintro e w1 ⟨hk1, ⟨hv1, A1, n1, c1, hn1, rfl, hs1⟩ | ⟨hv1, hv2, x, y, rfl⟩⟩
  · have h2 := H2.out w1 hk1 (.inl hv1)
    have H3 := Lib.hid h2
    obtain ⟨z, hz⟩ : ∃ z, z = v.2.2 := ⟨_, rfl⟩
    rw [← hz]
    have hzz : ((z : Int) == (z : Int)) = true := by simp
    have Hz := Lib.hid hz
    clear H1 H2 h2 hz
    go_wp2_with fail
    refine H3.out.mono ?_
    rintro e w2 ⟨hk2, hr, _⟩
    obtain ⟨A2, n2, c2, hn2, rfl, ho2⟩ := hr hv1
    rw [← Hz.out]
    have hsame := fun w' (hk : Kept w2 w') => same_any A2 A1 n2 n1 c2 c1 v.2.1 hn2.out hn1.out w' ((Sl.of_own ho2).kept hk) ((hs1.kept hk2).kept hk)
    have Hsame := Lib.hid hsame
    clear hsame H3 ho2 hs1 hr
    go_wp2_with (go_at_call 40; (with_reducible refine (Hsame.out _ (Keep.refl _ _)).mono ?_); rintro e w3 ⟨rfl, hk3⟩)
    go_ret
    exact ⟨by simp, (hk1.trans hk2).trans hk3⟩
  · have h02 : v.1 = 0 ∨ v.1 = 2 := by omega
    rcases h02 with h0 | h0
    · rw [h0]
      clear H1 H2
      go_wp2
      go_ret
      exact ⟨rfl, hk1⟩
    · have h2 := H2.out w1 hk1 (.inr h0)
      have H3 := Lib.hid h2
      have hi2 : ((v.1 : Nat) : Int) = 2 := by omega
      rw [hi2]
      clear H1 H2 h2 hi2
      go_wp2_with fail
      refine H3.out.mono ?_
      rintro e w2 ⟨hk2, _, hr⟩
      obtain rfl := hr h0
      clear H3
      go_wp2
      go_ret
      exact ⟨by simp, hk1.trans hk2⟩
end Go.Proofs.YtabaholflahepaaDoor
