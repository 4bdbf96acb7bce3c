/-
  Contracts of ZZWindow, impl.Window, spec.Window, zzFits1.
-/
import Derived.Test.YtabaholflahepaaWinPart
import Derived.Test.YtabaholflahepaaLow
namespace Go.Proofs.Ytabaholflahepaa
open Go.RowKit

/-- A slice of slices of bytes that is known. -/
structure Parts (w : World) (R : Nat → Prop) (A : Option Addr) (bss : List (List Nat)) : Prop where
  cells : ∃ vs : List Value, Sl w R A vs ∧ vs.length = bss.length ∧ ∀ (k : Nat) (bs : List Nat), bss[k]? = some bs → ∃ B c, vs[k]? = some (Value.slice B bs.length c) ∧ Sl w R B (u8s bs) ∧ bs.length ≤ c

theorem Parts.kept {w w' : World} {R : Nat → Prop} {A : Option Addr} {bss : List (List Nat)} (h : Parts w R A bss) (hk : Kept w w') : Parts w' R A bss := by
  obtain ⟨vs, h1, h2, h3⟩ := h.cells
  refine ⟨⟨vs, h1.kept hk, h2, fun k bs hb => ?_⟩⟩
  obtain ⟨B, c, h4, h5, h6⟩ := h3 k bs hb
  exact ⟨B, c, h4, h5.kept hk, h6⟩

theorem Parts.mono {w : World} {R R' : Nat → Prop} {A : Option Addr} {bss : List (List Nat)} (h : Parts w R A bss) (hR : ∀ k, R k → R' k) : Parts w R' A bss := by
  obtain ⟨vs, h1, h2, h3⟩ := h.cells
  refine ⟨⟨vs, h1.mono hR, h2, fun k bs hb => ?_⟩⟩
  obtain ⟨B, c, h4, h5, h6⟩ := h3 k bs hb
  exact ⟨B, c, h4, h5.mono hR, h6⟩

/-- Of one part: where its slice's cell is read, and its bytes. -/
theorem Parts.part {w : World} {R : Nat → Prop} {A : Option Addr} {bss : List (List Nat)} (h : Parts w R A bss) {k : Nat} (hk : k < bss.length) :
    ∃ g o B c bs, A = some ⟨g, o, none⟩ ∧ w.cell? ⟨g, o + k, none⟩ = some (.slice B bs.length c) ∧ Hid (bss[k]? = some bs) ∧ Sl w R B (u8s bs) ∧ bs.length ≤ c := by
  obtain ⟨vs, h1, h2, h3⟩ := h.cells
  obtain ⟨B, c, h4, h5, h6⟩ := h3 k _ (List.getElem?_eq_getElem hk)
  obtain ⟨g, o, _, hA, hc⟩ := h1.at_ h4
  exact ⟨g, o, B, c, _, hA, hc, List.getElem?_eq_getElem hk, h5, h6⟩

section
variable {R : Nat → Prop}

/-- What zzFits1 says is not below the truth. -/
theorem fits_any (A : Option Addr) (c : Nat) (bss : List (List Nat)) (w : World) (hp : Parts w R A bss) (hm : bss.length ≤ 9223372036854775807) (hm2 : ∀ bs ∈ bss, bs.length ≤ 9223372036854775807) :
    Calls Try.prog 7 #[.slice A bss.length c] w fun e w' => ∃ x, e = .returned (.bool x) ∧ (x = true → bss.length ≤ 2147483647 ∧ ∀ bs ∈ bss, bs.length ≤ 2147483647) ∧ w = w' := by
  by_cases g1 : 2147483647 < bss.length
  · go_enter Try.func7, Try.ntmps7
    go_wp2
    go_ret
    exact ⟨false, rfl, fun h => by simp at h, rfl⟩
  have Hm2 := Lib.hid hm2
  clear hm2
  go_enter Try.func7, Try.ntmps7
  go_wp2
  go_loopg [10] (bss.length + 1) (fun g i wr => ∃ k : Nat, bss.length - k < g ∧ k ≤ bss.length ∧ i = .int .i64 k ∧ Hid (∀ bs ∈ bss.take k, bs.length ≤ 2147483647) ∧ w = wr)
  case atStart => exact ⟨0, by omega, by omega, rfl, fun bs h => by simp at h, rfl⟩
  case round =>
    obtain ⟨k, q1, q2, rfl, q3, rfl⟩ := hrel
    by_cases hlt : k < bss.length
    · obtain ⟨g, o, B, c', bs, rfl, hc, hb, hs, hlc⟩ := hp.part hlt
      obtain ⟨L, hL⟩ : ∃ L, L = bs.length := ⟨_, rfl⟩
      have hLm := Hm2.out bs (List.mem_of_getElem? hb.out)
      rw [← hL] at hc hlc hLm
      have HL := Lib.hid hL
      clear hL
      by_cases hbig : 2147483647 < L
      · go_wp2
        go_ret
        exact ⟨false, rfl, fun h => by simp at h, rfl⟩
      · go_wp2
        go_roundg (bss.length - k)
        case measure => exact q1
        case rel =>
          refine ⟨k + 1, by omega, by omega, rfl, ?_, rfl⟩
          intro b hb2
          rw [take_push hb.out, List.mem_append] at hb2
          rcases hb2 with h | h
          · exact q3.out b h
          · obtain rfl : b = bs := by simpa using h
            have := HL.out; omega
    · go_wp2
      go_ret
      obtain rfl : k = bss.length := by omega
      exact ⟨true, rfl, fun _ => ⟨by omega, by have := q3.out; rwa [List.take_length] at this⟩, rfl⟩

/-- All texts, one behind the other. -/
def total (bss : List (List Nat)) : Nat := (bss.map List.length).sum
theorem total_push {bss : List (List Nat)} {k : Nat} {bs : List Nat} (h : bss[k]? = some bs) : total (bss.take (k + 1)) = total (bss.take k) + bs.length := by
  unfold total
  rw [take_push h, List.map_append, List.sum_append]; simp
theorem total_le (bss : List (List Nat)) (k : Nat) : total (bss.take k) ≤ total bss := by
  unfold total
  conv => rhs; rw [← List.take_append_drop k bss, List.map_append, List.sum_append]
  omega
theorem total_flat (bss : List (List Nat)) : bss.flatten.length = total bss := by simp [total, List.length_flatten]
theorem flat_push {bss : List (List Nat)} {k : Nat} {bs : List Nat} (h : bss[k]? = some bs) : (bss.take (k + 1)).flatten = (bss.take k).flatten ++ bs := by
  rw [take_push h]; simp
theorem lastOf_app {α : Type} (S : Nat) (X Y : List α) : lastOf S (lastOf S X ++ Y) = lastOf S (X ++ Y) := by
  unfold lastOf
  by_cases h : X.length ≤ S
  · rw [show X.length - S = 0 by omega, List.drop_zero]
  · rw [List.length_append, List.length_append, List.length_drop]
    rw [show X.length + Y.length - S = (X.length - S) + (X.length - (X.length - S) + Y.length - S) by omega, ← List.drop_drop, List.drop_append_of_le_length (l₁ := X) (by omega)]
theorem lastOf_length {α : Type} (S : Nat) (X : List α) : (lastOf S X).length = Nat.min X.length S := by
  unfold lastOf
  rw [List.length_drop]
  show _ = min _ _
  omega

theorem specWindow (S : Nat) (A : Option Addr) (c : Nat) (bss : List (List Nat)) (w : World) (hp : Parts w (· < w.heap.size) A bss) (hm : bss.length ≤ 2147483647) (ht : total bss ≤ 1048576) (hS : 1 ≤ S) (hS2 : S ≤ 1048576) :
    Calls Try.prog 9 #[.int .i64 S, .slice A bss.length c] w fun e w' => ∃ D c', e = .returned (.slice D (lastOf S bss.flatten).length c') ∧ Sl w' (fun k => w.heap.size ≤ k ∧ k < w'.heap.size) D (u8s (lastOf S bss.flatten)) ∧ (lastOf S bss.flatten).length ≤ c' ∧ (D = none ∧ c' = 0 ∨ ∃ g o, D = some ⟨g, o, none⟩) ∧ Kept w w' := by
  have Ht := Lib.hid ht
  clear ht
  go_enter Try.func9, Try.ntmps9
  go_wp2
  go_loopg [5, 10] (bss.length + 1) (fun g v i wr => ∃ (k : Nat) (A' : Option Addr) (c' n : Nat), bss.length - k < g ∧ k ≤ bss.length ∧ i = .int .i64 k ∧ v = .slice A' n c' ∧ Hid (n = (bss.take k).flatten.length) ∧ wr.ownsRow w.heap.size 5 1 (.slice A' n c') n (u8s (bss.take k).flatten) ∧ Kept w wr)
  case atStart => exact ⟨0, none, 0, 0, by omega, by omega, rfl, rfl, rfl, by simpa [u8s] using World.ownsRow_nil _ _ _ _, Keep.refl _ _⟩
  case round =>
    obtain ⟨k, A', c', n, q1, q2, rfl, rfl, q3, qo, qk⟩ := hrel
    have hnt : n ≤ 1048576 := by
      have := total_le bss k
      have h2 := q3.out
      rw [total_flat] at h2
      have := Ht.out
      omega
    by_cases hlt : k < bss.length
    · obtain ⟨g, o, B, c2, bs, rfl, hc, hb, hs, hlc⟩ := (hp.kept qk).part hlt
      obtain ⟨L, hL⟩ : ∃ L, L = bs.length := ⟨_, rfl⟩
      have hnL : n + L ≤ 1048576 := by
        have h1 := total_push hb.out
        have h2 := q3.out
        rw [total_flat] at h2
        have := total_le bss (k + 1)
        have := Ht.out
        omega
      rw [← hL] at hc hlc
      have hl2 : (u8s bs).length = L * 1 := by simp [hL]
      have Hl2 := Lib.hid hl2
      have HL := Lib.hid hL
      clear hL hl2
      go_wp2_with (at_builtin; refine wpList_append rfl _ _ rfl el25 qk A' n c' _ rfl qo L (u8s bs) _ rfl (src_sl Try.underlying25 hs L c2 Hl2.out (u8s_one _)) (by omega) ?_; intro A3 c3 w3 hown3 hk3 hg3)
      go_roundg (bss.length - k)
      case measure => exact q1
      case rel =>
        refine ⟨k + 1, A3, c3, n + L, by omega, by omega, rfl, rfl, ?_, ?_, hk3⟩
        · show _ = _
          rw [flat_push hb.out, List.length_append, ← q3.out, HL.out]
        · rw [flat_push hb.out]
          simpa [u8s] using hown3
    · obtain rfl : k = bss.length := by omega
      rw [List.take_length] at q3 qo
      obtain ⟨fr, hfr⟩ : ∃ fr, fr = n - S := ⟨_, rfl⟩
      have hmax : max (0 : Int) ((n : Int) - S) = (fr : Int) := by omega
      have hfn : fr ≤ n := by omega
      obtain ⟨m, hm'⟩ : ∃ m, m = n - fr := ⟨_, rfl⟩
      have hm1 : n - fr = m := hm'.symm
      have hlast : lastOf S bss.flatten = bss.flatten.drop fr := by rw [lastOf, ← q3.out, hfr]
      have hlen : (lastOf S bss.flatten).length = m := by rw [hlast, List.length_drop, ← q3.out]; exact hm1
      have Hlast := Lib.hid hlast
      have Hlen := Lib.hid hlen
      have hsl := Sl.of_own qo
      have hcap : n ≤ c' := by
        rcases qo.2 with ⟨he, _⟩ | ⟨g, cap, cur, hv, _, _, hn, _⟩
        · simp only [Value.slice.injEq] at he; omega
        · simp only [Value.slice.injEq] at hv; omega
      clear hfr hm' hlast hlen
      rcases qo.2 with ⟨he, _⟩ | ⟨g, cap, cur, hv, hbg, hg, _, _⟩
      · simp only [Value.slice.injEq] at he
        obtain ⟨rfl, rfl, rfl⟩ := he
        have hm0 : m = 0 := by omega
        go_wp2
        go_ret
        rw [Hlen.out, hm0]
        have h0 : lastOf S bss.flatten = [] := List.eq_nil_of_length_eq_zero (by rw [Hlen.out, hm0])
        rw [h0]
        exact ⟨none, 0, rfl, Sl.nil _ _ _, by omega, .inl ⟨rfl, rfl⟩, qk⟩
      · simp only [Value.slice.injEq, true_and] at hv
        obtain ⟨rfl, rfl⟩ := hv
        have hgl := (Array.getElem?_eq_some_iff.1 hg).1
        by_cases hnS : n ≤ S
        · have hf0 : fr = 0 := by omega
          subst hf0
          rw [List.drop_zero] at Hlast
          have hm0 : m = n := by omega
          subst hm0
          clear hg hmax hm1
          go_wp2
          go_ret
          rw [Hlen.out, Hlast.out]
          exact ⟨_, _, rfl, hsl, hcap, .inr ⟨_, _, rfl⟩, qk⟩
        · have hns : (n : Int) - (S : Int) = (fr : Int) := by omega
          have hcf : ¬ c' = fr := by omega
          have hfc : fr ≤ c' := by omega
          have hs2 : Sl wr (fun k => w.heap.size ≤ k ∧ k < wr.heap.size) (some ⟨g, fr, none⟩) (u8s (bss.flatten.drop fr)) := by
            have := hsl.at fr (some ⟨g, fr, none⟩) (fun _ => rfl)
            simpa [u8s, List.map_drop] using this
          clear hg hmax
          go_wp2
          go_ret
          rw [Hlen.out, Hlast.out]
          exact ⟨_, c' - fr, rfl, hs2, by omega, .inr ⟨_, _, rfl⟩, qk⟩

set_option maxHeartbeats 400000 in
theorem zzWindow (S i j : Nat) (A : Option Addr) (c : Nat) (bss : List (List Nat)) (w : World) (hp : Parts w (· < w.heap.size) A bss) (hm : bss.length ≤ 2147483647) (ht : total bss ≤ 1048576) (hS : 1 ≤ S) (hS2 : S ≤ 1048576)
    (hij : i ≤ j) (hj : j ≤ (lastOf S bss.flatten).length) :
    Calls Try.prog 17 #[.int .i64 S, .slice A bss.length c, .int .i64 i, .int .i64 j] w fun e w' => ∃ D c', e = .returned (.tuple #[.slice D (j - i) c', .int .i64 ((lastOf S bss.flatten).length : Nat)]) ∧
      Sl w' (fun k => w.heap.size ≤ k ∧ k < w'.heap.size) D (u8s (((lastOf S bss.flatten).drop i).take (j - i))) ∧ Kept w w' := by
  have Ht := Lib.hid ht
  have hll := lastOf_length S bss.flatten
  have hll2 : (lastOf S bss.flatten).length ≤ 1048576 := by rw [hll]; exact Nat.le_trans (Nat.min_le_right ..) hS2
  clear ht hll
  obtain ⟨T, hT⟩ : ∃ T, T = lastOf S bss.flatten := ⟨_, rfl⟩
  rw [← hT] at hj hll2 ⊢
  have HT := Lib.hid hT
  obtain ⟨n, hn⟩ : ∃ n, n = T.length := ⟨_, rfl⟩
  rw [← hn] at hj hll2 ⊢
  have Hn := Lib.hid hn
  clear hT hn
  have hk0 : Kept w (w.alloc (.cells #[.int .i64 0, .slice none 0 0, .int .i64 0] 63)) := (Keep.refl _ _).alloc _
  have hb0 : Blk (w.alloc (.cells #[.int .i64 0, .slice none 0 0, .int .i64 0] 63)) w.heap.size 63 [.int .i64 0, .slice none 0 0, .int .i64 0] := Blk.new w 63 _
  have hmin : min (S : Int) 1048576 = S := by omega
  go_enter Try.func17, Try.ntmps17
  go_wp2_with (go_at_call 27; refine (winReset w.heap.size S _ hb0 hS hS2).mono ?_; rintro e w1 ⟨rfl, hw1, hk1⟩)
  obtain ⟨b, hbe⟩ : ∃ b, b = w.heap.size := ⟨_, rfl⟩
  obtain ⟨g, hge⟩ : ∃ g, g = (w.alloc (.cells #[.int .i64 0, .slice none 0 0, .int .i64 0] 63)).heap.size := ⟨_, rfl⟩
  have hbg : b < g := by rw [hbe, hge]; simp
  rw [← hge, ← hbe] at hw1
  rw [← hbe] at hk1
  have hkw1 : Kept w w1 := hk0.then hk1 (fun k hk h => by subst h; omega)
  have hR : ∀ k, k < w.heap.size → k ≠ b ∧ k ≠ g := fun k hk => by omega
  have hW : ∀ k, k < w.heap.size → WinSet b g k → False := fun k hk h => by
    rcases h with h | h <;> omega
  rw [← hbe]
  have HR := Lib.hid hR
  have HW := Lib.hid hW
  have Hbe := Lib.hid hbe
  clear hge hk0 hb0 hk1 hR hW hbe hmin
  go_loopg [19] (bss.length + 1) (fun gg v wr => ∃ k : Nat, bss.length - k < gg ∧ k ≤ bss.length ∧ v = .int .i64 k ∧ Win wr b g S (lastOf S (bss.take k).flatten) ∧ Kept w wr)
  case atStart => exact ⟨0, by omega, by omega, rfl, by simpa [lastOf] using hw1, hkw1⟩
  case round =>
    obtain ⟨k, q1, q2, rfl, qw, qk⟩ := hrel
    by_cases hlt : k < bss.length
    · obtain ⟨ga, o, B, c2, bs, rfl, hc, hb, hs, hlc⟩ := (hp.kept qk).part hlt
      have hbl : bs.length ≤ 1048576 := by
        have h1 := total_push hb.out
        have := total_le bss (k + 1)
        have := Ht.out
        omega
      have hcall := winSave_any b g S _ bs B c2 wr qw hS hS2 hs HR.out hbl hlc
      rw [lastOf_app, ← flat_push hb.out] at hcall
      have Hcall := Lib.hid hcall
      obtain ⟨L, hL⟩ : ∃ L, L = bs.length := ⟨_, rfl⟩
      rw [← hL] at hc Hcall
      clear hcall hL hbl hlc
      go_wp2_with (go_at_call 28; refine Hcall.out.mono ?_; rintro e w2 ⟨rfl, hw2, hk2⟩)
      go_roundg (bss.length - k)
      case measure => exact q1
      case rel => exact ⟨k + 1, by omega, by omega, rfl, hw2, qk.then hk2 HW.out⟩
    · obtain rfl : k = bss.length := by omega
      rw [List.take_length, ← HT.out] at qw
      have hcall := winPart b g S T i j wr qw hS2 hij (Hn.out ▸ hj)
      have Hcall := Lib.hid hcall
      have hlen := winLen b g S T wr qw hS2
      rw [← Hn.out] at hlen
      have Hlen := Lib.hid hlen
      have hmj : min (j : Int) (n : Int) = j := by omega
      have hmi : min (i : Int) (j : Int) = i := by omega
      have hin : i ≤ 1048576 := by omega
      have hjn : j ≤ 1048576 := by omega
      clear hcall hlen
      go_wp2_with (first
        | (go_at_call 29; refine Hlen.out.mono ?_; rintro e w2 ⟨rfl, rfl⟩)
        | (go_at_call 30; refine Hcall.out.mono ?_; rintro e w2 ⟨A2, c2, rfl, ho2, hk2⟩))
      go_ret2
      refine ⟨A2, c2, rfl, ?_, qk.trans hk2⟩
      exact (Sl.of_own ho2).mono fun k hk => ⟨Nat.le_trans qk.size hk.1, hk.2⟩

theorem implWindow {w : World} {a b c d : Value} {Q : Ending → World → Prop} (h : Calls Try.prog 17 #[a, b, c, d] w Q) (hQ : ∀ e w', Q e w' → ∃ x y, e = .returned (.tuple #[x, y])) :
    Calls Try.prog 10 #[a, b, c, d] w Q := by
  have H := Lib.hid h
  have HQ := Lib.hid hQ
  clear h hQ
  go_enter Try.func10, Try.ntmps10
  go_wp2_with fail
  refine H.out.mono ?_
  rintro e w' hq
  obtain ⟨x, y, rfl⟩ := HQ.out _ _ hq
  have Hq := Lib.hid hq
  clear hq
  go_wp2
  exact Hq.out
end
end Go.Proofs.Ytabaholflahepaa
