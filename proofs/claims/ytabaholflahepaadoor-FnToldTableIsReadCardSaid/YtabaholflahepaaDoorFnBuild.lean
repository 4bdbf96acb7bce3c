/-
  The walk of laws.FnBuild: it returns true, and nothing that was there has turned.
-/
import Derived.Test.YtabaholflahepaaDoorCells
namespace Go.Proofs.YtabaholflahepaaDoor
open Go.RowKit

set_option maxHeartbeats 1000000 in
theorem fnBuild_walk (A : Option Addr) (c : Nat) (xs : List Int) (y : Int) (w : World) (hs : Sl w (· < w.heap.size) A (i64s xs)) (hx : I64s xs) (_hm : xs.length ≤ 9223372036854775807) (hy : I64 y) :
    Calls Tryd.prog 5 #[.slice A xs.length c, .int .i64 y] w fun e w' => e = .returned (.bool true) ∧ Kept w w' := by
  by_cases g1 : 2147483647 < xs.length
  · go_enter Tryd.func5, Tryd.ntmps5
    go_wp2_with fail
    go_ret
    exact ⟨rfl, Keep.refl _ _⟩
  obtain ⟨L, hL⟩ : ∃ L : Nat, 5 + y % 5 = (L : Int) := ⟨(5 + y % 5).toNat, by omega⟩
  have h5 : 5 ≤ L := by omega
  have h9 : L ≤ 9 := by omega
  have hsh := shares_any A c L xs w hs hx (by omega) h5 h9
  have Hsh := Lib.hid hsh
  have h512 : 2 ^ L ≤ 512 := Nat.pow_le_pow_right (by decide) h9
  obtain ⟨N, hN⟩ : ∃ N, N = 2 ^ L := ⟨_, rfl⟩
  rw [← hN] at h512
  have HN := Lib.hid hN
  clear hsh hx hs hN
  go_enter Tryd.func5, Tryd.ntmps5
  go_wp2_with (first
    | (go_at_call 23; refine (below_any y 5 hy (by decide) (by decide) _).mono ?_; rintro e w1 ⟨rfl, rfl⟩)
    | (go_at_call 24; refine Hsh.out.mono ?_; rintro e w1 ⟨A1, c1, ps, rfl, hmade, ho1, hk1⟩))
  obtain ⟨tb, htb⟩ : ∃ tb, tb = tab L ps := ⟨_, rfl⟩
  have htl : tb.length = N := by rw [htb, tab_length, HN.out]
  have hb := implBuild_any A1 ps.length c1 L ps rfl w1 (Sl.of_own ho1) hmade h5 h9
  have hsl : Sl w1 (fun k => w.heap.size ≤ k ∧ k < w1.heap.size) A1 (i64s ps) := Sl.of_own ho1
  have hsp : ∀ w', Kept w1 w' → _ := fun w' hk => specCells A1 ps.length c1 L ps rfl w' (hsl.kept hk) (hmade.shares h5 h9) (by have := hmade.few; omega)
  rw [← htb, ← HN.out] at hb
  rw [← htb, ← HN.out] at hsp
  have Hb := Lib.hid hb
  have Hsp := Lib.hid hsp
  have Htl := Lib.hid htl
  clear hb hsp htl htb hmade
  go_wp2_with (first
    | (go_at_call 25; refine Hb.out.mono ?_; rintro e w2 ⟨A2, c2, rfl, ho2, hk2⟩)
    | (go_at_call 27; refine (Hsp.out w2 hk2).mono ?_; rintro e w3 ⟨A3, c3, rfl, ho3, hk3⟩)
    | (go_at_call 26; refine (cellsAre_true A2 A3 N N c2 c3 tb Htl.out.symm Htl.out.symm w3 ((Sl.of_own ho2).kept hk3) (Sl.of_own ho3) (by rw [Htl.out]; omega)).mono ?_; rintro e w4 ⟨rfl, hk4⟩))
  go_ret
  exact ⟨rfl, ((hk1.trans hk2).trans hk3).trans hk4⟩
end Go.Proofs.YtabaholflahepaaDoor
