/-
  The walk of laws.FnTree: it returns true.
-/
import Derived.Test.YtabaholflahepaaDoorHuffZ
import Derived.Test.YtabaholflahepaaDoorTreeT
namespace Go.Proofs.YtabaholflahepaaDoor
open Go.RowKit

set_option maxHeartbeats 2000000 in
set_option maxRecDepth 4000 in
theorem fnTree_walk (A : Option Addr) (c : Nat) (ds : List Nat) (w : World) (hs : Sl w (· < w.heap.size) A (u8s ds)) (hd : Bytes ds) (_hm : ds.length ≤ 9223372036854775807) (hc : ds.length ≤ c) (he : Errs w.heap.size w) :
    Calls Tryd.prog 13 #[.slice A ds.length c] w fun e w' => e = .returned (.bool true) ∧ Kept w w' := by
  by_cases g1 : 2147483647 < ds.length
  · go_enter Tryd.func13, Tryd.ntmps13
    go_wp2_with fail
    go_ret
    exact ⟨rfl, Keep.refl _ _⟩
  by_cases g2 : 1048576 < ds.length
  · go_enter Tryd.func13, Tryd.ntmps13
    go_wp2_with fail
    go_ret
    exact ⟨rfl, Keep.refl _ _⟩
  have h1 := specTree_any A ds.length c ds rfl w hs (fun _ h => h) hd (by omega) hc
  have h2 := fun w' (hk : Kept w w') => implTree_any A c ds w' (hs.kept hk) hd (by omega) (he.kept hk)
  have H1 := Lib.hid h1
  have H2 := Lib.hid h2
  clear h1 h2 hd hs he
  go_enter Tryd.func13, Tryd.ntmps13
  go_wp2_with fail
  refine H1.out.mono ?_
  rintro e w1 ⟨hk1, ⟨al, m, q, A1, c1, A2, c2, ht, h1, rfl, ho1, ho2⟩ | ⟨⟨al, m, q, ht, h1⟩, rfl⟩ | ⟨ht, rfl⟩⟩
  · obtain ⟨ws, hws, htp⟩ := (treeS_some ht).2.2.2
    have hts := treeP_some htp
    have hm11 := hts.2.2.2.1
    have hql := (treeS_some ht).2.2.1
    obtain ⟨P, hP⟩ : ∃ P, P = 2 ^ m := ⟨_, rfl⟩
    have hP11 : P ≤ 2048 := by rw [hP]; exact Nat.pow_le_pow_right (by decide) hm11
    obtain ⟨rs, hrs⟩ : ∃ x, x = rowsTo al m m := ⟨_, rfl⟩
    have hrl : rs.length = P := by rw [hrs, rows_length hts.2.2.2.2.2.2.2, hts.2.2.2.2.2.2.1, hP]
    rw [← hP, ← hrs] at ho1 ho2
    rw [← hP]
    have h2 := H2.out w1 hk1
    have HP := Lib.hid hP
    have Hrs := Lib.hid hrs
    have Hrl := Lib.hid hrl
    have Ht := Lib.hid ht
    have H3 := Lib.hid h2
    clear hP hrs hrl ht hts htp hws H1 H2 h2
    go_wp2_with fail
    refine H3.out.mono ?_
    rintro e w2 ⟨hk2, ⟨al', m', q', A3, c3, A4, c4, ht2, h12, rfl, ho3, ho4⟩ | ⟨rfl, hno⟩⟩
    · have heq := Ht.out.symm.trans ht2
      simp only [Option.some.injEq, Prod.mk.injEq] at heq
      obtain ⟨rfl, rfl, rfl⟩ := heq
      rw [← HP.out, ← Hrs.out] at ho3 ho4
      rw [← HP.out]
      have hmm : ((m : Int) == (m : Int)) = true := by simp
      have hqq : ((q : Int) == (q : Int)) = true := by simp
      have he1 := fun w' (hk : Kept w2 w') => equal_same A3 A1 P c3 c1 (rs.map (·.1)) (by rw [List.length_map, Hrl.out]) w' ((Sl.of_own ho3).kept hk) (((Sl.of_own ho1).kept hk2).kept hk) (by omega)
      have he2 := fun w' (hk : Kept w2 w') => equal_same A4 A2 P c4 c2 (rs.map (·.2)) (by rw [List.length_map, Hrl.out]) w' ((Sl.of_own ho4).kept hk) (((Sl.of_own ho2).kept hk2).kept hk) (by omega)
      have He1 := Lib.hid he1
      have He2 := Lib.hid he2
      clear ht2 H3 he1 he2
      go_wp2_with (first
        | (go_at_call 37; (with_reducible refine (He1.out _ (Keep.refl _ _)).mono ?_); rintro e w3 ⟨rfl, hk3⟩)
        | (go_at_call 37; (with_reducible refine (He2.out _ hk3).mono ?_); rintro e w4 ⟨rfl, hk4⟩))
      go_ret
      exact ⟨by simp, ((hk1.trans hk2).trans hk3).trans hk4⟩
    · have hr := hno al m q Ht.out h1
      have hqi2 : decide ((q : Int) + 2 > (ds.length : Int)) = true := by rw [decide_eq_true_eq]; omega
      have hqi3 : decide ((ds.length : Int) < (q : Int) + 2) = true := by rw [decide_eq_true_eq]; omega
      clear hno H3
      go_wp2
      go_ret
      exact ⟨by simp, hk1.trans hk2⟩
  · clear H2
    go_wp2
    go_ret
    exact ⟨rfl, hk1⟩
  · have h2 := H2.out w1 hk1
    have H3 := Lib.hid h2
    have Ht := Lib.hid ht
    clear h2 H1 H2 ht
    go_wp2_with fail
    refine H3.out.mono ?_
    rintro e w2 ⟨hk2, ⟨al', m', q', A3, c3, A4, c4, ht2, h12, rfl, ho3, ho4⟩ | ⟨rfl, hno⟩⟩
    · rw [Ht.out] at ht2; cases ht2
    · clear hno H3
      go_wp2
      go_ret
      exact ⟨by simp, hk1.trans hk2⟩
end Go.Proofs.YtabaholflahepaaDoor
