/-
  The walk of laws.FnWindow: it returns true, and nothing that was there has turned.
-/
import Derived.Test.YtabaholflahepaaWinZz
namespace Go.Proofs.Ytabaholflahepaa
open Go.RowKit

set_option maxHeartbeats 1000000 in
theorem fnWindow_walk (x y z : Int) (A : Option Addr) (c : Nat) (bss : List (List Nat)) (w : World) (hx : I64 x) (hy : I64 y) (hz : I64 z) (hp : Parts w (· < w.heap.size) A bss) (hm : bss.length ≤ 9223372036854775807) (hm2 : ∀ bs ∈ bss, bs.length ≤ 9223372036854775807) :
    Calls Try.prog 3 #[.int .i64 x, .slice A bss.length c, .int .i64 y, .int .i64 z] w fun e w' => e = .returned (.bool true) ∧ Kept w w' := by
  have hfit := fits_any A c bss w hp hm hm2
  have Hfit := Lib.hid hfit
  obtain ⟨S, hS⟩ : ∃ S : Nat, 1 + x % 1048576 = (S : Int) := ⟨(1 + x % 1048576).toNat, by omega⟩
  have hS1 : 1 ≤ S := by omega
  have hS2 : S ≤ 1048576 := by omega
  have Hm2 := Lib.hid hm2
  clear hfit hm2
  go_enter Try.func3, Try.ntmps3
  go_wp2_with (first
    | (go_at_call 7; refine Hfit.out.mono ?_; rintro e w1 ⟨v, rfl, hv, rfl⟩; have Hv := Lib.hid hv; clear hv; cases v)
    | (go_at_call 8; refine (below_any x 1048576 hx (by decide) (by decide) _).mono ?_; rintro e w1 ⟨rfl, rfl⟩))
  · go_ret
    exact ⟨rfl, Keep.refl _ _⟩
  have hb : bss.length ≤ 2147483647 := (Hv.out trivial).1
  have hb2 := (Hv.out trivial).2
  have Hb2 := Lib.hid hb2
  clear Hv Hfit hb2
  go_loopg [9, 23] (bss.length + 1) (fun gg a v wr => ∃ k n : Nat, bss.length - k < gg ∧ k ≤ bss.length ∧ v = .int .i64 k ∧ a = .int .i64 n ∧ Hid (n = total (bss.take k)) ∧ n ≤ 1048576 ∧ w = wr)
  case atStart => exact ⟨0, 0, by omega, by omega, rfl, rfl, rfl, by omega, rfl⟩
  case round =>
    obtain ⟨k, n, q1, q2, rfl, rfl, q3, q4, rfl⟩ := hrel
    by_cases hlt : k < bss.length
    · obtain ⟨ga, o, B, c2, bs, rfl, hc, hbs, hs, hlc⟩ := hp.part hlt
      have hLm := Hb2.out bs (List.mem_of_getElem? hbs.out)
      have hpush := total_push hbs.out
      obtain ⟨L, hL⟩ : ∃ L, L = bs.length := ⟨_, rfl⟩
      rw [← hL] at hc hlc hLm hpush
      have Hpush := Lib.hid hpush
      clear hL hpush
      by_cases hbig : 1048576 < n + L
      · go_wp2
        go_ret
        exact ⟨rfl, Keep.refl _ _⟩
      · go_wp2
        go_roundg (bss.length - k)
        case measure => exact q1
        case rel =>
          refine ⟨k + 1, n + L, by omega, by omega, rfl, rfl, ?_, by omega, rfl⟩
          show _ = _
          rw [Hpush.out, q3.out]
    · obtain rfl : k = bss.length := by omega
      rw [List.take_length] at q3
      have ht : total bss ≤ 1048576 := by rw [← q3.out]; exact q4
      have hspec := specWindow S A c bss w hp hb ht hS1 hS2
      have Hspec := Lib.hid hspec
      have Ht := Lib.hid ht
      have hTl : (lastOf S bss.flatten).length ≤ 1048576 := by rw [lastOf_length]; exact Nat.le_trans (Nat.min_le_right ..) hS2
      obtain ⟨T, hT⟩ : ∃ T, T = lastOf S bss.flatten := ⟨_, rfl⟩
      obtain ⟨N, hN⟩ : ∃ N, N = T.length := ⟨_, rfl⟩
      rw [← hT, ← hN] at hTl
      obtain ⟨i, hi⟩ : ∃ i : Nat, y % ((N : Int) + 1) = (i : Int) := ⟨(y % ((N : Int) + 1)).toNat, by have := Int.emod_nonneg y (show ((N : Int) + 1) ≠ 0 by omega); omega⟩
      have hi2 : i ≤ N := by have := Int.emod_lt_of_pos y (show (0 : Int) < (N : Int) + 1 by omega); omega
      obtain ⟨r, hr⟩ : ∃ r : Nat, z % ((N : Int) - i + 1) = (r : Int) := ⟨(z % ((N : Int) - i + 1)).toNat, by have := Int.emod_nonneg z (show ((N : Int) - i + 1) ≠ 0 by omega); omega⟩
      have hr2 : i + r ≤ N := by have := Int.emod_lt_of_pos z (show (0 : Int) < (N : Int) - i + 1 by omega); omega
      obtain ⟨j, hj⟩ : ∃ j, j = i + r := ⟨_, rfl⟩
      have hj1 : (i : Int) + (r : Int) = (j : Int) := by omega
      have hij : i ≤ j := by omega
      have hjN : j ≤ N := by omega
      obtain ⟨n1, hn1⟩ : ∃ n1 : Int, (N : Int) + 1 = n1 := ⟨_, rfl⟩
      obtain ⟨n2, hn2⟩ : ∃ n2 : Int, (N : Int) - (i : Int) + 1 = n2 := ⟨_, rfl⟩
      rw [hn1] at hi
      rw [hn2] at hr
      have HT := Lib.hid hT
      have HN := Lib.hid hN
      have Hi := Lib.hid hi
      have Hr := Lib.hid hr
      have Hq3 := q3
      clear hspec ht hT hN hi hr hj hr2
      go_wp2_with fail
      refine Hspec.out.mono ?_
      rintro e w1 ⟨D, c1, rfl, hs1, hc1, hD, hk1⟩
      rw [← HT.out] at hs1 hc1 ⊢
      rw [← HN.out] at hc1 ⊢
      go_wp2_with fail
      refine (below_any y n1 hy (by omega) (by omega) _).mono ?_
      rintro e w2 ⟨rfl, rfl⟩
      rw [Hi.out]
      go_wp2_with fail
      refine (below_any z n2 hz (by omega) (by omega) _).mono ?_
      rintro e w2 ⟨rfl, rfl⟩
      rw [Hr.out]
      have hzz := implWindow (zzWindow S i j A c bss w1 ((hp.kept hk1).mono (fun k hk => Nat.lt_of_lt_of_le hk hk1.size)) hb Ht.out hS1 hS2 hij (by rw [← HT.out, ← HN.out]; exact hjN)) (by rintro e w' ⟨_, _, rfl, _⟩; exact ⟨_, _, rfl⟩)
      rw [← HT.out, ← HN.out] at hzz
      have Hzz := Lib.hid hzz
      clear hzz
      go_wp2_with fail
      refine Hzz.out.mono ?_
      rintro e w3 ⟨D3, c3, rfl, hs3, hk3⟩
      have hlx : ((T.drop i).take (j - i)).length = j - i := by
        rw [List.length_take, List.length_drop, ← HN.out]; omega
      obtain ⟨X, hX⟩ : ∃ X, X = (T.drop i).take (j - i) := ⟨_, rfl⟩
      obtain ⟨m, hm9⟩ : ∃ m, m = j - i := ⟨_, rfl⟩
      rw [← hX] at hs3 hlx
      rw [← hm9] at hlx hX ⊢
      have hjc : j ≤ c1 := by omega
      have hm8 : j - i = m := hm9.symm
      have Hlx := Lib.hid hlx
      have HX := Lib.hid hX
      clear hlx hX hm9
      have hs4 := hs1.kept hk3
      rcases hD with ⟨rfl, rfl⟩ | ⟨g, o, rfl⟩
      · -- nothing is kept
        have hi0 : i = 0 := by omega
        have hj0 : j = 0 := by omega
        have hN0 : N = 0 := by omega
        have hm0 : m = 0 := by omega
        subst hi0 hj0 hN0 hm0
        have hX0 : X = [] := List.eq_nil_of_length_eq_zero Hlx.out
        go_wp2_with fail
        refine (same_true D3 none 0 0 c3 0 [] rfl rfl w3 (hX0 ▸ hs3) (Sl.nil w3 (fun _ => True) _)).mono ?_
        rintro e w4 ⟨rfl, rfl⟩
        go_wp2
        go_ret
        exact ⟨rfl, hk1.trans hk3⟩
      · obtain ⟨E, hE⟩ : ∃ E : Option Addr, (if c1 = i then some (⟨g, o, none⟩ : Addr) else some ⟨g, o + i, none⟩) = E := ⟨_, rfl⟩
        have hs5 : Sl w3 (fun k => w.heap.size ≤ k ∧ k < w1.heap.size) E (u8s X) := by
          have := (hs4.drop i E (fun hp g' o' h => by
            simp only [Option.some.injEq, Addr.mk.injEq] at h
            obtain ⟨rfl, rfl, _⟩ := h
            rw [← hE, if_neg (by have := HN.out; simp at hp; omega)])).take m
          rw [HX.out]
          simpa [u8s, List.map_take, List.map_drop] using this
        go_wp2_with fail
        refine (same_true D3 E m m c3 _ X Hlx.out.symm Hlx.out.symm w3 hs3 hs5).mono ?_
        rintro e w4 ⟨rfl, rfl⟩
        go_wp2
        go_ret
        exact ⟨rfl, hk1.trans hk3⟩
end Go.Proofs.Ytabaholflahepaa
