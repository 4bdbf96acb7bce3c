/-
  Contracts of the window: appendTo; of ZZWindow, impl.Window, spec.Window.
-/
import Derived.Test.YtabaholflahepaaWinWalk
namespace Go.Proofs.Ytabaholflahepaa
open Go.RowKit

theorem Sl.at {w : World} {R : Nat → Prop} {g : Nat} {vs : List Value} (h : Sl w R (some ⟨g, 0, none⟩) vs) (p : Nat) (D : Option Addr) (hD : p < vs.length → D = some ⟨g, p, none⟩) : Sl w R D (vs.drop p) :=
  h.drop p D fun hp g' o' h => by
    simp only [Option.some.injEq, Addr.mk.injEq] at h
    obtain ⟨rfl, rfl, _⟩ := h
    rw [Nat.zero_add]
    exact hD hp

set_option maxHeartbeats 1000000 in
theorem winPart (b g S : Nat) (T : List Nat) (i j : Nat) (w : World) (h : Win w b g S T) (hS2 : S ≤ 1048576) (hij : i ≤ j) (hj : j ≤ T.length) :
    Calls Try.prog 30 #[.pointer (some ⟨b, 0, none⟩), .slice none 0 0, .int .u32 i, .int .u32 j] w fun e w' => ∃ A c, e = .returned (.slice A (j - i) c) ∧ w'.ownsRow w.heap.size 5 1 (.slice A (j - i) c) (j - i) (u8s ((T.drop i).take (j - i))) ∧ Kept w w' := by
  obtain ⟨cs, n, off, hb, hg, ha⟩ := h
  have hn := ha.length
  rw [hn] at hj
  have hpart := ha.part hij hj
  rw [hpart]
  have hcl := ha.len
  have hu := ha.used
  have ho := ha.within
  have c1 : w.cell? ⟨b, 1, none⟩ = some (.slice (some ⟨g, 0, none⟩) n S) := hb.cell 1
  have c2 : w.cell? ⟨b, 2, none⟩ = some (.int .i64 off) := hb.cell 2
  have hsl : Sl w (· = g) (some ⟨g, 0, none⟩) (u8s (cs.take n)) := by
    have := hg.sl.take n
    simpa [u8s, List.map_take] using this
  have hk0 : Kept w w := Keep.refl _ _
  have hlt : (cs.take n).length = n := by simp; omega
  obtain ⟨X, hX⟩ : ∃ X, X = cs.take n := ⟨_, rfl⟩
  rw [← hX] at hsl hlt ⊢
  clear ha hpart hn hcl hX hg
  have Hlt := Lib.hid hlt
  by_cases q1 : j + off ≤ n
  · rw [if_pos q1]
    obtain ⟨p, hp⟩ : ∃ p, p = i + off := ⟨_, rfl⟩
    obtain ⟨q, hq⟩ : ∃ q, q = j + off := ⟨_, rfl⟩
    have hp1 : (i : Int) + (off : Int) = (p : Int) := by omega
    have hq1 : (j : Int) + (off : Int) = (q : Int) := by omega
    rw [← hp]
    have hqn : q ≤ n := by omega
    have hpq : p ≤ q := by omega
    have hqS : q ≤ S := by omega
    have hm : q - p = j - i := by omega
    obtain ⟨D, hD⟩ : ∃ D : Option Addr, (if S = p then some (⟨g, 0, none⟩ : Addr) else some ⟨g, p, none⟩) = D := ⟨_, rfl⟩
    obtain ⟨m, hm2⟩ : ∃ m, m = j - i := ⟨_, rfl⟩
    rw [← hm2] at hm ⊢
    have hs2 : Sl w (· = g) D (u8s ((X.drop p).take m)) := by
      have := (hsl.at p D (fun hp => by rw [← hD, if_neg (by simp at hp; omega)])).take m
      simpa [u8s, List.map_take, List.map_drop] using this
    have hl2 : (u8s ((X.drop p).take m)).length = m * 1 := by simp; omega
    have Hm2 := Lib.hid hm2
    have Hl2 := Lib.hid hl2
    clear hp hq hlt hl2 hm2
    go_enter Try.func30, Try.ntmps30
    go_wp2_with (at_builtin; refine wpList_append rfl _ _ rfl el25 hk0 none 0 0 [] rfl (World.ownsRow_nil _ _ _ _) m (u8s ((X.drop p).take m)) _ rfl (src_sl Try.underlying25 hs2 m _ Hl2.out (u8s_one _)) (by omega) ?_; intro A2 c2 w2 hown2 hk2 hg2; simp only [Nat.zero_add, List.nil_append] at hown2)
    go_ret
    exact ⟨A2, c2, rfl, hown2, hk2⟩
  · rw [if_neg q1]
    by_cases q2 : i + off ≤ n
    · rw [if_pos q2]
      obtain ⟨p, hp⟩ : ∃ p, p = i + off := ⟨_, rfl⟩
      obtain ⟨q, hq⟩ : ∃ q, q = j + off - n := ⟨_, rfl⟩
      have hp1 : (i : Int) + (off : Int) = (p : Int) := by omega
      have hq1 : (j : Int) + (off : Int) - (n : Int) = (q : Int) := by omega
      have hq2 : (n : Int) < (j : Int) + (off : Int) := by omega
      rw [← hp, ← hq]
      have hpn : p ≤ n := by omega
      have hqn : q ≤ n := by omega
      have hqS : q ≤ S := by omega
      have hpS : p ≤ S := by omega
      obtain ⟨D, hD⟩ : ∃ D : Option Addr, (if S = p then some (⟨g, 0, none⟩ : Addr) else some ⟨g, p, none⟩) = D := ⟨_, rfl⟩
      obtain ⟨m, hm2⟩ : ∃ m, m = j - i := ⟨_, rfl⟩
      obtain ⟨k, hk⟩ : ∃ k, k = n - p := ⟨_, rfl⟩
      have hk1 : n - p = k := hk.symm
      have hm : m = k + q := by omega
      rw [← hm2]
      have hs2 : Sl w (· = g) D (u8s (X.drop p)) := by
        have := hsl.at p D (fun hp => by rw [← hD, if_neg (by simp at hp; omega)])
        simpa [u8s, List.map_drop] using this
      have hs3 : Sl w (· = g) (some ⟨g, 0, none⟩) (u8s (X.take q)) := by
        have := hsl.take q
        simpa [u8s, List.map_take] using this
      have hl2 : (u8s (X.drop p)).length = k * 1 := by simp; omega
      have hl3 : (u8s (X.take q)).length = q * 1 := by simp; omega
      have hgl : g < w.heap.size := by
        have : 0 < n := by omega
        obtain ⟨g', o', h1, h2, h3⟩ := hsl.get (by simp; omega)
        obtain rfl : g' = g := h1
        have h4 := h3 0 _ (u8s_at (by omega))
        simpa using World.block_lt_of_cell? _ _ h4
      have hk20 : k ≤ 1048576 := by omega
      have hq20 : q ≤ 1048576 := by omega
      have Hm2 := Lib.hid hm2
      have Hm := Lib.hid hm
      have Hl2 := Lib.hid hl2
      have Hl3 := Lib.hid hl3
      have Hk := Lib.hid hk
      clear hp hq hlt hl2 hl3 hm2 hm hk
      go_enter Try.func30, Try.ntmps30
      go_wp2_with (first
        | (at_builtin; refine wpList_append rfl _ _ rfl el25 hk0 none 0 0 [] rfl (World.ownsRow_nil _ _ _ _) k (u8s (X.drop p)) _ rfl (src_sl Try.underlying25 hs2 k _ Hl2.out (u8s_one _)) (by omega) ?_; intro A2 c2' w2 hown2 hk2 hg2; simp only [Nat.zero_add, List.nil_append] at hown2; have hs4 := hs3.kept hk2; have hb2 := hb.kept hk2; have d1 : w2.cell? ⟨b, 1, none⟩ = some (.slice (some ⟨g, 0, none⟩) n S) := hb2.cell 1)
        | (at_builtin; refine wpList_append rfl _ _ rfl el25 hk2 A2 k c2' (u8s (X.drop p)) rfl hown2 q (u8s (X.take q)) _ rfl (src_sl Try.underlying25 hs4 q _ Hl3.out (u8s_one _)) (by omega) ?_; intro A3 c3 w3 hown3 hk3 hg3))
      go_ret
      rw [Hm.out]
      refine ⟨A3, c3, rfl, ?_, hk3⟩
      simpa [u8s] using hown3
    · rw [if_neg q2]
      obtain ⟨p, hp⟩ : ∃ p, p = i + off - n := ⟨_, rfl⟩
      obtain ⟨q, hq⟩ : ∃ q, q = j + off - n := ⟨_, rfl⟩
      have hp1 : (i : Int) + (off : Int) - (n : Int) = (p : Int) := by omega
      have hq1 : (j : Int) + (off : Int) - (n : Int) = (q : Int) := by omega
      have hp2 : (n : Int) < (i : Int) + (off : Int) := by omega
      have hq2 : (n : Int) < (j : Int) + (off : Int) := by omega
      rw [← hp]
      have hqn : q ≤ n := by omega
      have hpq : p ≤ q := by omega
      have hqS : q ≤ S := by omega
      have hm : q - p = j - i := by omega
      obtain ⟨D, hD⟩ : ∃ D : Option Addr, (if S = p then some (⟨g, 0, none⟩ : Addr) else some ⟨g, p, none⟩) = D := ⟨_, rfl⟩
      obtain ⟨m, hm2⟩ : ∃ m, m = j - i := ⟨_, rfl⟩
      rw [← hm2] at hm ⊢
      have hs2 : Sl w (· = g) D (u8s ((X.drop p).take m)) := by
        have := (hsl.at p D (fun hp => by rw [← hD, if_neg (by simp at hp; omega)])).take m
        simpa [u8s, List.map_take, List.map_drop] using this
      have hl2 : (u8s ((X.drop p).take m)).length = m * 1 := by simp; omega
      have Hm2 := Lib.hid hm2
      have Hl2 := Lib.hid hl2
      clear hp hq hlt hl2 hm2
      go_enter Try.func30, Try.ntmps30
      go_wp2_with (at_builtin; refine wpList_append rfl _ _ rfl el25 hk0 none 0 0 [] rfl (World.ownsRow_nil _ _ _ _) m (u8s ((X.drop p).take m)) _ rfl (src_sl Try.underlying25 hs2 m _ Hl2.out (u8s_one _)) (by omega) ?_; intro A2 c2 w2 hown2 hk2 hg2; simp only [Nat.zero_add, List.nil_append] at hown2)
      go_ret
      exact ⟨A2, c2, rfl, hown2, hk2⟩
end Go.Proofs.Ytabaholflahepaa
