/-
  The walk of laws.FnTable: it returns true.
-/
import Derived.Test.YtabaholflahepaaDoorTabZ
import Derived.Test.YtabaholflahepaaDoorFnBuild
namespace Go.Proofs.YtabaholflahepaaDoor
open Go.RowKit

set_option maxHeartbeats 2000000 in
set_option maxRecDepth 4000 in
theorem fnTable_walk (A : Option Addr) (c : Nat) (ds : List Nat) (x y : Int) (w : World) (hs : Sl w (· < w.heap.size) A (u8s ds)) (hd : Bytes ds) (_hm : ds.length ≤ 9223372036854775807) (hx : I64 x) (hy : I64 y) (he : Errs w.heap.size w) :
    Calls Tryd.prog 10 #[.slice A ds.length c, .int .i64 x, .int .i64 y] w fun e w' => e = .returned (.bool true) ∧ Kept w w' := by
  by_cases g1 : 2147483647 < ds.length
  · go_enter Tryd.func10, Tryd.ntmps10
    go_wp2_with fail
    go_ret
    exact ⟨rfl, Keep.refl _ _⟩
  by_cases g2 : 1048576 < ds.length
  · go_enter Tryd.func10, Tryd.ntmps10
    go_wp2_with fail
    go_ret
    exact ⟨rfl, Keep.refl _ _⟩
  obtain ⟨Y, hY⟩ : ∃ Y : Nat, x % 256 = (Y : Int) := ⟨(x % 256).toNat, by omega⟩
  obtain ⟨M, hM⟩ : ∃ M : Nat, 5 + y % 5 = (M : Int) := ⟨(5 + y % 5).toNat, by omega⟩
  have hY255 : Y ≤ 255 := by omega
  have hM5 : 5 ≤ M := by omega
  have hM9 : M ≤ 9 := by omega
  have h1 := specTable_any A ds.length c Y M ds rfl w hs (fun _ h => h) hd (by omega) hY255 hM5 hM9
  have h2 := fun w' (hk : Kept w w') => implTable_any A ds.length c Y M ds rfl w' (hs.kept hk) hd (by omega) (he.kept hk) hY255 hM5 hM9
  have H1 := Lib.hid h1
  have H2 := Lib.hid h2
  clear h1 h2 hd hs he
  go_enter Tryd.func10, Tryd.ntmps10
  go_wp2_with (first
    | (go_at_call 23; (with_reducible refine (below_any x 256 hx (by decide) (by decide) _).mono ?_); rintro e w1 ⟨rfl, rfl⟩)
    | (go_at_call 23; (with_reducible refine (below_any y 5 hy (by decide) (by decide) _).mono ?_); rintro e w1 ⟨rfl, rfl⟩))
  refine H1.out.mono ?_
  rintro e w1 ⟨hk1, ⟨L, ps, q, A1, c1, hde, rfl, ho⟩ | ⟨rfl, hno⟩⟩
  · have hds := desc_some hde hM9
    have hL9 : L ≤ 9 := by have := hds.2.2.1; omega
    have hq := hds.2.2.2.2.2.2.2.2
    clear hds
    obtain ⟨N, hN⟩ : ∃ N, N = 2 ^ L := ⟨_, rfl⟩
    have h512 : N ≤ 512 := by rw [hN]; exact Nat.pow_le_pow_right (by decide) hL9
    obtain ⟨tb, htb⟩ : ∃ tb, tb = tab L ps := ⟨_, rfl⟩
    have hl : tb.length = N := by rw [htb, tab_length, hN]
    obtain ⟨qq, hqq⟩ : ∃ qq, qq = (q + 7) / 8 := ⟨_, rfl⟩
    rw [← hN, ← htb] at ho
    rw [← hqq, ← hN]
    have h2 := H2.out w1 hk1
    have Hqq := Lib.hid hqq
    have HN := Lib.hid hN
    have Htb := Lib.hid htb
    have Hl := Lib.hid hl
    have Hde := Lib.hid hde
    have H3 := Lib.hid h2
    clear hqq hN hl hde H1 H2 h2 htb
    go_wp2_with fail
    refine H3.out.mono ?_
    rintro e w2 ⟨hk2, ⟨L', ps', q', A2, c2, hde2, rfl, ho2⟩ | ⟨A2, c2, rfl, hno⟩⟩
    · have heq := Hde.out.symm.trans hde2
      simp only [Option.some.injEq, Prod.mk.injEq] at heq
      obtain ⟨rfl, rfl, rfl⟩ := heq
      rw [← Htb.out, ← HN.out] at ho2
      rw [← Hqq.out, ← HN.out]
      clear hde2 H3
      go_wp2_with (go_at_call 26; refine (cellsAre_true A2 A1 N N c2 c1 tb Hl.out.symm Hl.out.symm w2 (Sl.of_own ho2) ((Sl.of_own ho).kept hk2) (by rw [Hl.out]; omega)).mono ?_; rintro e w4 ⟨rfl, hk4⟩)
      go_ret
      exact ⟨by simp, (hk1.trans hk2).trans hk4⟩
    · have hr := hno L ps q Hde.out
      have hqi : ¬ ((qq : Int) + 2 ≤ (ds.length : Int)) := by have := Hqq.out; omega
      have hqi2 : decide ((qq : Int) + 2 > (ds.length : Int)) = true := by rw [decide_eq_true_eq]; omega
      have hqq2 : qq ≤ 1048577 := by have := Hqq.out; omega
      clear hno H3
      go_wp2
      go_ret
      exact ⟨by simp, hk1.trans hk2⟩
  · have h2 := H2.out w1 hk1
    have H3 := Lib.hid h2
    have Hno := Lib.hid hno
    clear h2 H1 H2 hno
    go_wp2_with fail
    refine H3.out.mono ?_
    rintro e w2 ⟨hk2, ⟨L', ps', q', A2, c2, hde2, rfl, ho2⟩ | ⟨A2, c2, rfl, hno⟩⟩
    · rw [Hno.out] at hde2; cases hde2
    · clear hno H3
      go_wp2
      go_ret
      exact ⟨by simp, hk1.trans hk2⟩
end Go.Proofs.YtabaholflahepaaDoor
