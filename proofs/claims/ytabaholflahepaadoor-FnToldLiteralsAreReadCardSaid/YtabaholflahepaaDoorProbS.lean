/-
  Contracts of spec.value, spec.probabilities, spec.Table.
-/
import Derived.Test.YtabaholflahepaaDoorProb
import Derived.Test.YtabaholflahepaaDoorSpecLow
import Derived.Test.YtabaholflahepaaDoorSpecB
import Derived.Test.YtabaholflahepaaDoorCells
import Derived.Test.YtabaholflahepaaDoorCopies
import Derived.Test.YtabaholflahepaaDoorShares
import Derived.Test.YtabaholflahepaaDoorLow
import Derived.Test.YtabaholflahepaaDoorQt
namespace Go.Proofs.YtabaholflahepaaDoor
open Go.RowKit

theorem val_small {N pos left : Nat} (h : rdb N pos (vk left) < vfew left) : vof N pos left = rdb N pos (vk left) ∧ wof N pos left = vk left := by
  unfold vof wof
  rw [if_pos h, if_pos h]
  exact ⟨rfl, rfl⟩
theorem val_hi {N pos left : Nat} (h : ¬ rdb N pos (vk left) < vfew left) (hd : rdb N (pos + vk left) 1 = 1) : vof N pos left = rdb N pos (vk left) + 2 ^ vk left - vfew left ∧ wof N pos left = vk left + 1 := by
  unfold vof wof
  rw [if_neg h, if_neg h, rdb_succ, hd, if_pos (by omega), Nat.mul_one]
  exact ⟨rfl, rfl⟩
theorem val_lo {N pos left : Nat} (h : ¬ rdb N pos (vk left) < vfew left) (hd : rdb N (pos + vk left) 1 = 0) : vof N pos left = rdb N pos (vk left) ∧ wof N pos left = vk left + 1 := by
  have := rdb_lt N pos (vk left)
  unfold vof wof
  rw [if_neg h, if_neg h, rdb_succ, hd, if_neg (by omega), Nat.mul_zero, Nat.add_zero]
  exact ⟨rfl, rfl⟩
theorem bit_cases (N pos : Nat) : rdb N pos 1 = 0 ∨ rdb N pos 1 = 1 := by
  have := rdb_lt N pos 1
  omega

set_option maxHeartbeats 1000000 in
theorem value_any {R : Nat → Prop} (b : Nat) (A : Option Addr) (c : Nat) (ds : List Nat) (pos left : Nat) (w : World) (hb : Blk w b 88 (blCells A c ds pos false)) (hs : Sl w R A (u8s ds)) (hR : ¬ R b)
    (hd : Bytes ds) (hlen : ds.length < 2 ^ 40) (_h0 : left ≠ 0) (hleft : left ≤ 512) (hp : pos ≤ 8 * ds.length) :
    Calls Tryd.prog 80 #[.pointer (some ⟨b, 0, none⟩), .int .i64 ((left : Int) + 1)] w fun e w' => Keep (· = b) w w' ∧
      ((pos + wof (num ds) pos left ≤ 8 * ds.length ∧ e = .returned (.int .i64 (vof (num ds) pos left : Nat)) ∧ Blk w' b 88 (blCells A c ds (pos + wof (num ds) pos left) false)) ∨
       (8 * ds.length < pos + wof (num ds) pos left ∧ ∃ x p, e = .returned (.int .i64 x) ∧ Blk w' b 88 (blCells A c ds p true))) := by
  obtain ⟨k, hk⟩ : ∃ k, k = vk left := ⟨_, rfl⟩
  obtain ⟨N2, hN2⟩ : ∃ x, x = 2 ^ k := ⟨_, rfl⟩
  have hk1 := vk_low left
  have hk2 := vk_high left
  rw [← hk, ← hN2] at hk1
  rw [← hk, Nat.pow_succ, ← hN2] at hk2
  have hk9 : k ≤ 9 := by
    rcases Nat.lt_or_ge 9 k with h | h
    · have : 2 ^ 10 ≤ N2 := hN2 ▸ Nat.pow_le_pow_right (by decide) h
      omega
    · exact h
  obtain ⟨F, hF⟩ : ∃ F, F = vfew left := ⟨_, rfl⟩
  have hF2 : F + left + 2 = 2 * N2 := by rw [hF, vfew, ← hk, Nat.pow_succ, ← hN2]; omega
  obtain ⟨a, ha⟩ : ∃ a, a = rdb (num ds) pos k := ⟨_, rfl⟩
  have ha2 : a < N2 := by rw [ha, hN2]; exact rdb_lt _ _ _
  obtain ⟨d, hdd⟩ : ∃ d, d = rdb (num ds) (pos + k) 1 := ⟨_, rfl⟩
  have hsm : a < F → vof (num ds) pos left = a ∧ wof (num ds) pos left = k := by
    intro h
    rw [ha, hF, hk] at h
    rw [ha, hk]
    exact val_small h
  have hhi : ¬ a < F → d = 1 → vof (num ds) pos left = a + N2 - F ∧ wof (num ds) pos left = k + 1 := by
    intro h h1
    rw [ha, hF, hk] at h
    rw [hdd, hk] at h1
    rw [ha, hN2, hF, hk]
    exact val_hi h h1
  have hlo : ¬ a < F → d = 0 → vof (num ds) pos left = a ∧ wof (num ds) pos left = k + 1 := by
    intro h h1
    rw [ha, hF, hk] at h
    rw [hdd, hk] at h1
    rw [ha, hk]
    exact val_lo h h1
  have hd01 : d = 0 ∨ d = 1 := by rw [hdd]; exact bit_cases _ _
  have hr1 : pos + k ≤ 8 * ds.length → Calls Tryd.prog 42 #[.pointer (some ⟨b, 0, none⟩), .int .i64 (k : Int)] w fun e w' => e = .returned (.int .i64 (a : Nat)) ∧ Blk w' b 88 (blCells A c ds (pos + k) false) ∧ Keep (· = b) w w' := by
    intro h
    rw [ha]
    exact blRead_ok b A c ds pos k false w hb hs hd hlen (by omega) h
  have hr1b : 8 * ds.length < pos + k → Calls Tryd.prog 42 #[.pointer (some ⟨b, 0, none⟩), .int .i64 (k : Int)] w fun e w' => e = .returned (.int .i64 0) ∧ Blk w' b 88 (blCells A c ds pos true) ∧ Keep (· = b) w w' :=
    fun h => blRead_bad b A c ds pos k false w hb hs hd hlen (by omega) hp h
  have hr2 : ∀ w1 bad, Keep (· = b) w w1 → Blk w1 b 88 (blCells A c ds (pos + k) bad) → pos + k + 1 ≤ 8 * ds.length → Calls Tryd.prog 42 #[.pointer (some ⟨b, 0, none⟩), .int .i64 1] w1 fun e w' => e = .returned (.int .i64 (d : Nat)) ∧ Blk w' b 88 (blCells A c ds (pos + k + 1) bad) ∧ Keep (· = b) w1 w' := by
    intro w1 bad hk1 hb1 h
    rw [hdd]
    exact blRead_ok b A c ds (pos + k) 1 bad w1 hb1 (hs.keep hk1 (fun j _ hj => by rintro rfl; exact hR hj)) hd hlen (by decide) h
  have hr2b : ∀ w1 p bad, Keep (· = b) w w1 → Blk w1 b 88 (blCells A c ds p bad) → p ≤ 8 * ds.length → 8 * ds.length < p + 1 → Calls Tryd.prog 42 #[.pointer (some ⟨b, 0, none⟩), .int .i64 1] w1 fun e w' => e = .returned (.int .i64 0) ∧ Blk w' b 88 (blCells A c ds p true) ∧ Keep (· = b) w1 w' :=
    fun w1 p bad hk1 hb1 h1 h2 => blRead_bad b A c ds p 1 bad w1 hb1 (hs.keep hk1 (fun j _ hj => by rintro rfl; exact hR hj)) hd hlen (by decide) h1 h2
  have hr2c : ∀ w1 p, Keep (· = b) w w1 → Blk w1 b 88 (blCells A c ds p true) → p ≤ 8 * ds.length → Calls Tryd.prog 42 #[.pointer (some ⟨b, 0, none⟩), .int .i64 1] w1 fun e w' => ∃ x q : Nat, x ≤ 1 ∧ e = .returned (.int .i64 x) ∧ Blk w' b 88 (blCells A c ds q true) ∧ Keep (· = b) w1 w' := by
    intro w1 p hk1 hb1 h1
    have hs1 := hs.keep hk1 (fun j _ hj => by rintro rfl; exact hR hj)
    by_cases h : p + 1 ≤ 8 * ds.length
    · refine (blRead_ok b A c ds p 1 true w1 hb1 hs1 hd hlen (by decide) h).mono ?_
      rintro e w' ⟨rfl, h2, h3⟩
      have := rdb_lt (num ds) p 1
      exact ⟨_, _, by unfold rdb at this; omega, rfl, h2, h3⟩
    · refine (blRead_bad b A c ds p 1 true w1 hb1 hs1 hd hlen (by decide) h1 (by omega)).mono ?_
      rintro e w' ⟨rfl, h2, h3⟩
      exact ⟨0, _, by omega, rfl, h2, h3⟩
  have hp2 : (2 : Int) ^ k = (N2 : Int) := by rw [two_pow_int, hN2]
  have hp3 : (2 : Int) ^ (k + 1) = ((2 * N2 : Nat) : Int) := by rw [two_pow_int, Nat.pow_succ, ← hN2, Nat.mul_comm]
  have hq : ∀ j, j ≤ k → ∃ q : Nat, 0 < q ∧ ((left : Int) + 1) / 2 ^ j = (q : Int) := by
    intro j hj
    have h1 : 2 ^ j ≤ left + 1 := Nat.le_trans (Nat.pow_le_pow_right (by decide) hj) (hN2 ▸ hk1)
    refine ⟨(left + 1) / 2 ^ j, Nat.div_pos h1 (pow_pos' _), ?_⟩
    rw [← cast_div_pow]; rfl
  have hq0 : ((left : Int) + 1) / (2 * (N2 : Int)) = 0 := Int.ediv_eq_zero_of_lt (by omega) (by omega)
  generalize vof (num ds) pos left = V at hsm hhi hlo ⊢
  generalize wof (num ds) pos left = W at hsm hhi hlo ⊢
  have Hsm := Lib.hid hsm
  have Hhi := Lib.hid hhi
  have Hlo := Lib.hid hlo
  have Hr1 := Lib.hid hr1
  have Hr1b := Lib.hid hr1b
  have Hr2 := Lib.hid hr2
  have Hr2b := Lib.hid hr2b
  have Hr2c := Lib.hid hr2c
  have Hq := Lib.hid hq
  have HF2 := Lib.hid hF2
  clear hsm hhi hlo hr1 hr1b hr2 hr2b hr2c hq hF hk hN2 ha hdd hF2
  go_enter Tryd.func80, Tryd.ntmps80
  go_wp2
  go_loopg [5] (k + 3) (fun g n wr => ∃ j : Nat, k + 2 - j < g ∧ j ≤ k + 1 ∧ n = .int .i64 j ∧ w = wr)
  case atStart => exact ⟨0, by omega, by omega, rfl, rfl⟩
  case round =>
    obtain ⟨j, q1, q2, rfl, rfl⟩ := hrel
    by_cases hj : j ≤ k
    · obtain ⟨q, hq1, hq2⟩ := Hq.out j hj
      clear hp2 hp3
      go_wp2
      go_roundg (k + 2 - j)
      case measure => exact q1
      case rel => exact ⟨j + 1, by omega, by omega, rfl, rfl⟩
    · obtain rfl : j = k + 1 := by omega
      have hF2 := HF2.out
      have hfew : (2 : Int) * (N2 : Int) - 1 - ((left : Int) + 1) = (F : Int) := by omega
      by_cases hin : pos + k ≤ 8 * ds.length
      · have h42 := Lib.hid (Hr1.out hin)
        by_cases hsmall : a < F
        · go_wp2_with (go_at_call 42; refine h42.out.mono ?_; rintro e w1 ⟨rfl, hb1, hk1⟩)
          go_ret
          obtain ⟨rfl, rfl⟩ := Hsm.out hsmall
          exact ⟨hk1, .inl ⟨hin, rfl, hb1⟩⟩
        · by_cases hin2 : pos + k + 1 ≤ 8 * ds.length
          · rcases hd01 with rfl | rfl
            · go_wp2_with (first
                | (go_at_call 42; with_reducible refine h42.out.mono ?_; rintro e w1 ⟨rfl, hb1, hk1⟩)
                | (go_at_call 42; with_reducible refine (Hr2.out _ _ hk1 hb1 hin2).mono ?_; rintro e w2 ⟨rfl, hb2, hk2⟩))
              go_ret
              obtain ⟨rfl, rfl⟩ := Hlo.out hsmall (by first | rfl | trivial)
              exact ⟨hk1.trans hk2, .inl ⟨hin2, rfl, hb2⟩⟩
            · have hle : F ≤ a + N2 := by omega
              go_wp2_with (first
                | (go_at_call 42; with_reducible refine h42.out.mono ?_; rintro e w1 ⟨rfl, hb1, hk1⟩)
                | (go_at_call 42; with_reducible refine (Hr2.out _ _ hk1 hb1 hin2).mono ?_; rintro e w2 ⟨rfl, hb2, hk2⟩))
              go_ret
              obtain ⟨rfl, rfl⟩ := Hhi.out hsmall (by first | rfl | trivial)
              refine ⟨hk1.trans hk2, .inl ⟨hin2, ?_, hb2⟩⟩
              have : (a : Int) + (N2 : Int) - (F : Int) = ((a + N2 - F : Nat) : Int) := by omega
              rw [← this]
              rfl
          · have hw : 8 * ds.length < pos + W := by
              rcases hd01 with h | h
              · have := (Hlo.out hsmall h).2; omega
              · have := (Hhi.out hsmall h).2; omega
            go_wp2_with (first
              | (go_at_call 42; with_reducible refine h42.out.mono ?_; rintro e w1 ⟨rfl, hb1, hk1⟩)
              | (go_at_call 42; with_reducible refine (Hr2b.out _ _ _ hk1 hb1 hin (by omega)).mono ?_; rintro e w2 ⟨rfl, hb2, hk2⟩))
            go_ret
            exact ⟨hk1.trans hk2, .inr ⟨hw, _, _, rfl, hb2⟩⟩
      · have h42 := Lib.hid (Hr1b.out (by omega))
        have hw : 8 * ds.length < pos + W := by
          by_cases hsmall : a < F
          · have := (Hsm.out hsmall).2; omega
          · rcases hd01 with h | h
            · have := (Hlo.out hsmall h).2; omega
            · have := (Hhi.out hsmall h).2; omega
        by_cases hF0 : 0 < F
        · go_wp2_with (go_at_call 42; refine h42.out.mono ?_; rintro e w1 ⟨rfl, hb1, hk1⟩)
          go_ret
          exact ⟨hk1, .inr ⟨hw, _, _, rfl, hb1⟩⟩
        · obtain rfl : F = 0 := by omega
          go_wp2_with (first
            | (go_at_call 42; with_reducible refine h42.out.mono ?_; rintro e w1 ⟨rfl, hb1, hk1⟩)
            | (go_at_call 42; with_reducible refine (Hr2c.out _ _ hk1 hb1 hp).mono ?_; rintro e w2 ⟨x, q, hx, rfl, hb2, hk2⟩))
          all_goals
            go_ret
            exact ⟨hk1.trans hk2, .inr ⟨hw, _, _, rfl, hb2⟩⟩

theorem value_ok {R : Nat → Prop} (b : Nat) (A : Option Addr) (c : Nat) (ds : List Nat) (pos left : Nat) (w : World) (hb : Blk w b 88 (blCells A c ds pos false)) (hs : Sl w R A (u8s ds)) (hR : ¬ R b)
    (hd : Bytes ds) (hlen : ds.length < 2 ^ 40) (h0 : left ≠ 0) (hleft : left ≤ 512) (hin : pos + wof (num ds) pos left ≤ 8 * ds.length) :
    Calls Tryd.prog 80 #[.pointer (some ⟨b, 0, none⟩), .int .i64 ((left : Int) + 1)] w fun e w' => e = .returned (.int .i64 (vof (num ds) pos left : Nat)) ∧ Blk w' b 88 (blCells A c ds (pos + wof (num ds) pos left) false) ∧ Keep (· = b) w w' := by
  refine (value_any b A c ds pos left w hb hs hR hd hlen h0 hleft (by omega)).mono ?_
  rintro e w' ⟨hk, ⟨_, rfl, hb'⟩ | ⟨h, _⟩⟩
  · exact ⟨rfl, hb', hk⟩
  · omega
theorem value_bad {R : Nat → Prop} (b : Nat) (A : Option Addr) (c : Nat) (ds : List Nat) (pos left : Nat) (w : World) (hb : Blk w b 88 (blCells A c ds pos false)) (hs : Sl w R A (u8s ds)) (hR : ¬ R b)
    (hd : Bytes ds) (hlen : ds.length < 2 ^ 40) (h0 : left ≠ 0) (hleft : left ≤ 512) (hp : pos ≤ 8 * ds.length) (hout : 8 * ds.length < pos + wof (num ds) pos left) :
    Calls Tryd.prog 80 #[.pointer (some ⟨b, 0, none⟩), .int .i64 ((left : Int) + 1)] w fun e w' => ∃ x p, e = .returned (.int .i64 x) ∧ Blk w' b 88 (blCells A c ds p true) ∧ Keep (· = b) w w' := by
  refine (value_any b A c ds pos left w hb hs hR hd hlen h0 hleft hp).mono ?_
  rintro e w' ⟨hk, ⟨h, _⟩ | ⟨_, x, p, rfl, hb'⟩⟩
  · omega
  · exact ⟨x, p, rfl, hb', hk⟩
/-- Two bits, if they are there. -/
theorem blRead_two {R : Nat → Prop} (b : Nat) (A : Option Addr) (c : Nat) (ds : List Nat) (pos : Nat) (w : World) (hb : Blk w b 88 (blCells A c ds pos false)) (hs : Sl w R A (u8s ds))
    (hd : Bytes ds) (hlen : ds.length < 2 ^ 40) (hp : pos ≤ 8 * ds.length) : ∃ (n p2 : Nat) (bd : Bool), n ≤ 3 ∧ ((bd = false ∧ n = rdb (num ds) pos 2 ∧ p2 = pos + 2 ∧ pos + 2 ≤ 8 * ds.length) ∨ (bd = true ∧ n = 0 ∧ 8 * ds.length < pos + 2)) ∧
    Calls Tryd.prog 42 #[.pointer (some ⟨b, 0, none⟩), .int .i64 2] w fun e w' => e = .returned (.int .i64 (n : Nat)) ∧ Blk w' b 88 (blCells A c ds p2 bd) ∧ Keep (· = b) w w' := by
  by_cases h : pos + 2 ≤ 8 * ds.length
  · have := rdb_lt (num ds) pos 2
    exact ⟨_, _, false, by omega, .inl ⟨rfl, rfl, rfl, h⟩, blRead_ok b A c ds pos 2 false w hb hs hd hlen (by decide) h⟩
  · exact ⟨0, pos, true, by omega, .inr ⟨rfl, rfl, by omega⟩, blRead_bad b A c ds pos 2 false w hb hs hd hlen (by decide) hp (by omega)⟩

theorem i64s_zeros (out : List Int) (k : Nat) : i64s (out ++ List.replicate (k + 1) 0) = i64s (out ++ List.replicate k 0) ++ [.int .i64 0] := by
  rw [List.replicate_succ', ← List.append_assoc, i64s_push]

/-- What spec.probabilities hands back. -/
def ProbPost (w : World) (ds : List Nat) (S M : Nat) (e : Ending) (w' : World) : Prop :=
  Kept w w' ∧ ((∃ L ps q A' c', desc (num ds) (8 * ds.length) S M 0 = some (L, ps, q) ∧ e = .returned (.tuple #[.slice A' ps.length c', .int .i64 (L : Nat), .int .i64 ((q + 7) / 8 : Nat), .bool true]) ∧
      w'.ownsRow w.heap.size 3 1 (.slice A' ps.length c') ps.length (i64s ps)) ∨
    (desc (num ds) (8 * ds.length) S M 0 = none ∧ e = .returned (.tuple #[.slice none 0 0, .int .i64 0, .int .i64 0, .bool false])))

set_option maxHeartbeats 2000000 in
set_option maxRecDepth 4000 in
theorem probs_any {R : Nat → Prop} (A : Option Addr) (n c : Nat) (ds : List Nat) (M S : Nat) (hn : n = ds.length) (w : World) (hs : Sl w R A (u8s ds)) (hR : ∀ k, R k → k < w.heap.size) (hd : Bytes ds) (hlen : ds.length < 2 ^ 31)
    (hM : M ≤ 9) (hS : S ≤ 256) :
    Calls Tryd.prog 57 #[.slice A n c, .int .i64 M, .int .i64 S] w (ProbPost w ds S M) := by
  subst hn
  obtain ⟨T, hT⟩ : ∃ T, T = 8 * ds.length := ⟨_, rfl⟩
  obtain ⟨b, hbe⟩ : ∃ b, b = w.heap.size := ⟨_, rfl⟩
  have hRb : ¬ R b := fun h => by have := hR b h; omega
  obtain ⟨W, hW⟩ : ∃ W, W = w.alloc (.cells #[.slice A ds.length c, .int .i64 0, .bool false] 88) := ⟨_, rfl⟩
  have hb0 : Blk W b 88 (blCells A c ds 0 false) := by rw [hW, hbe]; exact Blk.new w _ _
  have hk0 : Kept w W := by rw [hW]; exact (Keep.refl _ _).alloc _
  have hs0 := hs.kept hk0
  have hwb : w.heap.size ≤ b := by omega
  have Hbe := Lib.hid hbe
  have HWe := Lib.hid hW.symm
  clear hbe hW
  by_cases hin4 : 8 * ds.length < 4
  · have hde : desc (num ds) (8 * ds.length) S M 0 = none := by unfold desc; rw [if_pos (Or.inl (by omega))]
    have h42 := blRead_bad b A c ds 0 4 false W hb0 hs0 hd (by omega) (by decide) (by omega) hin4
    have Hde := Lib.hid hde
    have H42 := Lib.hid h42
    clear hde h42
    go_enter Tryd.func57, Tryd.ntmps57
    go_wp2_with fail
    rw [HWe.out, ← Hbe.out]
    (refine H42.out.mono ?_; rintro e w1 ⟨rfl, hb1, hk1⟩; have e2 : w1.cell? ⟨b, 2, none⟩ = some (.bool true) := hb1.cell 2)
    go_wp2
    refine bodyPost_ret (results4 rfl _ _ _) rfl ?_
    exact ⟨hk0.then hk1 (fun k hk h => by subst h; omega), .inr ⟨Hde.out, rfl⟩⟩
  have h42 := blRead_ok b A c ds 0 4 false W hb0 hs0 hd (by omega) (by decide) (by omega)
  obtain ⟨a, ha⟩ : ∃ a, a = num ds / 2 ^ 0 % 2 ^ 4 := ⟨_, rfl⟩
  have har : a = rdb (num ds) 0 4 := ha
  have ha15 : a < 16 := by rw [ha]; exact Nat.mod_lt _ (by decide)
  rw [← ha] at h42
  obtain ⟨L, hL⟩ : ∃ L, L = a + 5 := ⟨_, rfl⟩
  have hLi : (a : Int) + 5 = (L : Int) := by omega
  have H42 := Lib.hid h42
  clear h42 ha
  by_cases hLM : M < L
  · have hde : desc (num ds) (8 * ds.length) S M 0 = none := by unfold desc; rw [if_pos (Or.inr (by rw [← har]; omega))]
    have Hde := Lib.hid hde
    clear hde har hL
    go_enter Tryd.func57, Tryd.ntmps57
    go_wp2_with fail
    rw [HWe.out, ← Hbe.out]
    (refine H42.out.mono ?_; rintro e w1 ⟨rfl, hb1, hk1⟩; have e2 : w1.cell? ⟨b, 2, none⟩ = some (.bool false) := hb1.cell 2)
    go_wp2
    refine bodyPost_ret (results4 rfl _ _ _) rfl ?_
    exact ⟨hk0.then hk1 (fun k hk h => by subst h; omega), .inr ⟨Hde.out, rfl⟩⟩
  obtain ⟨N, hN⟩ : ∃ N, N = num ds := ⟨_, rfl⟩
  obtain ⟨Rr, hRr⟩ : ∃ x, x = pr (num ds) (8 * ds.length) S false 4 (2 ^ L) [] := ⟨_, rfl⟩
  have hde : desc (num ds) (8 * ds.length) S M 0 = Rr.map fun x => (L, x.1, x.2) := by
    unfold desc
    rw [if_neg (by rw [← har]; omega), ← har, ← hL, hRr]
  obtain ⟨Z, hZ⟩ : ∃ Z, Z = 2 ^ L := ⟨_, rfl⟩
  have hZ9 : Z ≤ 512 := by rw [hZ]; exact Nat.pow_le_pow_right (by decide) (show L ≤ 9 by omega)
  have hZi : (2 : Int) ^ L = (Z : Int) := by rw [two_pow_int, hZ]
  rw [← hZ] at hRr
  have Hde := Lib.hid hde
  have HRr := Lib.hid hRr.symm
  have hL9 : L ≤ 9 := by omega
  have hT4 : 4 ≤ T := by omega
  have HT := Lib.hid hT
  clear hde hRr har hL hZ hN hin4 hT
  go_enter Tryd.func57, Tryd.ntmps57
  go_wp2_with fail
  rw [HWe.out, ← Hbe.out]
  (refine H42.out.mono ?_; rintro e w1 ⟨rfl, hb1, hk1⟩; have e2 : w1.cell? ⟨b, 2, none⟩ = some (.bool false) := hb1.cell 2)
  go_wp2
  have hkw : Kept w w1 := hk0.then hk1 (fun k hk h => by subst h; omega)
  have hs1 : Sl w1 R A (u8s ds) := hs.kept hkw
  clear e2 hb0 hk0 hs0 hk1
  go_loopg [12, 13] (T + 1) (fun g s v wr => ∃ (pos left : Nat) (out : List Int) (A' : Option Addr) (c' k : Nat), T - pos < g ∧ pos ≤ T ∧ left ≤ 512 ∧ k ≤ S ∧ s = .slice A' k c' ∧ v = .int .i64 left ∧ Hid (k = out.length) ∧
    wr.ownsRow w.heap.size 3 1 (.slice A' k c') k (i64s out) ∧ Blk wr b 88 (blCells A c ds pos false) ∧ Kept w wr ∧ Hid (pr (num ds) (8 * ds.length) S false pos left out = Rr))
  case atStart => exact ⟨4, Z, [], none, 0, 0, by omega, hT4, hZ9, by omega, rfl, rfl, rfl, World.ownsRow_nil _ _ _ _, hb1, hkw, HRr.out⟩
  case round =>
    obtain ⟨pos, left, out, A', c', k, q1, q2, q3, q4, rfl, rfl, q5, qo, qb, qk, q6⟩ := hrel
    have hsr : Sl wr R A (u8s ds) := hs.kept qk
    have hne := own_ne qo qb (by decide)
    by_cases h0 : left = 0
    · subst h0
      have hres := q6.out
      rw [pr_done] at hres
      have Hres := Lib.hid hres
      clear hres
      have hT9 : T ≤ 17179869184 := by rw [HT.out]; omega
      have h43 := fun m => quiet_same (n := m) (blBytes b A c ds pos false (wr.drewN m) (qb.drewN m) (by omega))
      have H43 := Lib.hid h43
      clear h43
      go_wp2_with (go_at_call 43; refine (blBytes b A c ds pos false wr qb (by omega)).mono ?_; rintro e w2 ⟨rfl, rfl⟩)
      refine bodyPost_ret (results4 rfl _ _ _) rfl ?_
      have h5 := q5.out
      subst h5
      refine ⟨qk, .inl ⟨L, out, pos, A', c', ?_, rfl, qo⟩⟩
      rw [Hde.out, ← Hres.out]
      rfl
    · have hle := wof_le (num ds) pos left
      have hwp := wof_pos (num ds) pos h0
      by_cases hin : pos + wof (num ds) pos left ≤ 8 * ds.length
      · have h80 := value_ok b A c ds pos left wr qb hsr hRb hd (by omega) h0 q3 hin
        obtain ⟨V, hV⟩ : ∃ V, V = vof (num ds) pos left := ⟨_, rfl⟩
        obtain ⟨pos1, hpos1⟩ : ∃ p, p = pos + wof (num ds) pos left := ⟨_, rfl⟩
        have hVle := vof_le (num ds) pos left
        rw [← hV] at hVle
        rw [← hV, ← hpos1] at h80
        have H80 := Lib.hid h80
        clear h80
        have hp1T : pos1 ≤ T := by rw [HT.out, hpos1]; exact hin
        have hpp1 : pos < pos1 := by omega
        by_cases hroom : S ≤ k
        · have hres : desc (num ds) (8 * ds.length) S M 0 = none := by
            rw [Hde.out, ← q6.out, pr_bad h0 (.inr (by rw [← q5.out]; exact hroom))]; rfl
          have Hres := Lib.hid hres
          clear hres hV hpos1 hin hle hwp
          go_wp2_with (go_at_call 80; refine H80.out.mono ?_; rintro e w2 ⟨rfl, hb2, hk2⟩; have e2 : w2.cell? ⟨b, 2, none⟩ = some (.bool false) := hb2.cell 2)
          refine bodyPost_ret (results4 rfl _ _ _) rfl ?_
          exact ⟨qk.then hk2 (fun k hk h => by subst h; omega), .inr ⟨Hres.out, rfl⟩⟩
        · obtain ⟨p, hp⟩ : ∃ p : Int, (V : Int) - 1 = p := ⟨_, rfl⟩
          obtain ⟨m, hm⟩ : ∃ m : Nat, m = p.natAbs := ⟨_, rfl⟩
          have hp1 : -1 ≤ p := by omega
          have hp2 : p ≤ 512 := by omega
          have hmx : max p (-p) = (m : Int) := by omega
          have hml : m ≤ left := by omega
          obtain ⟨l2, hl2⟩ : ∃ l2, l2 = left - m := ⟨_, rfl⟩
          have hl2i : (left : Int) - (m : Int) = (l2 : Int) := by omega
          have hstep : pr (num ds) (8 * ds.length) S (p == 0) pos1 l2 (out ++ [p]) = Rr := by
            rw [← q6.out, pr_step h0 hin (by rw [← q5.out]; omega), ← hV, ← hpos1, hp, ← hm, ← hl2]
            congr 1
            by_cases h : V = 1
            · subst h; simp at hp; subst hp; rfl
            · have : p ≠ 0 := by omega
              rw [beq_eq_false_iff_ne.2 this, beq_eq_false_iff_ne.2 h]
          have hl512 : l2 ≤ 512 := by omega
          have hk1S : k + 1 ≤ S := by omega
          have Hstep := Lib.hid hstep
          have Hpm := Lib.hid hm
          clear hstep hV hpos1 hin hle hwp hm hl2
          go_wp2_with (first
            | (go_at_call 80; refine H80.out.mono ?_; rintro e w2 ⟨rfl, hb2, hk2⟩; have e2 : w2.cell? ⟨b, 2, none⟩ = some (.bool false) := hb2.cell 2; have qk2 := qk.then hk2 (fun k hk h => by subst h; omega); have qo2 := own_keep qo hk2 (fun g hg h => hne (h ▸ hg)))
            | (at_builtin; refine wpList_push rfl _ _ rfl elInt qk2 A' k c' _ rfl qo2 [.int .i64 p] rfl rfl (by simp [Value.oneCell']) (by omega) ?_; intro A3 c3 w3 hown3 hk3 hg3))
          have hb3 : Blk w3 b 88 (blCells A c ds pos1 false) := blk_grown hb2 hg3 (own_ne qo2 hb2 (by decide))
          rw [← i64s_push] at hown3
          have hlen3 : Hid (k + 1 = (out ++ [p]).length) := by
            show _ = _
            rw [List.length_append, ← q5.out]; rfl
          clear e2 hb2 hk2 qk2 qo2 hg3 qo qb qk q5 q6 H80
          go_loopg [12] (T + 1) (fun g2 s2 wr2 => ∃ (pos2 : Nat) (out2 : List Int) (A4 : Option Addr) (c4 k2 : Nat), T - pos2 < g2 ∧ pos1 ≤ pos2 ∧ pos2 ≤ T ∧ k2 ≤ S ∧ s2 = .slice A4 k2 c4 ∧ Hid (k2 = out2.length) ∧
            wr2.ownsRow w.heap.size 3 1 (.slice A4 k2 c4) k2 (i64s out2) ∧ Blk wr2 b 88 (blCells A c ds pos2 false) ∧ Kept w wr2 ∧ Hid (pr (num ds) (8 * ds.length) S (p == 0) pos2 l2 out2 = Rr))
          case atStart => exact ⟨pos1, out ++ [p], A3, c3, k + 1, by omega, by omega, hp1T, hk1S, rfl, hlen3, hown3, hb3, hk3, Hstep.out⟩
          case round =>
            clear hb3 hown3 hk3 Hstep hlen3
            obtain ⟨pos2, out2, A4, c4, k2, r1, r2, r3, r4, rfl, r5, ro, rb, rk, r6⟩ := hrel
            have hne2 := own_ne ro rb (by decide)
            by_cases hp0 : p = 0
            · obtain rfl : p = 0 := hp0
              have r6' : pr (num ds) (8 * ds.length) S true pos2 l2 out2 = Rr := r6.out
              obtain ⟨n, p2, bd, hn3, hcase, h42⟩ := blRead_two b A c ds pos2 wr rb (hs.kept rk) hd (by omega) (by rw [← HT.out]; exact r3)
              have H42' := Lib.hid h42
              have Hcase := Lib.hid hcase
              have R6 := Lib.hid r6'
              clear h42 hcase r6 r6'
              go_wp2_with (go_at_call 42; refine H42'.out.mono ?_; rintro e w4 ⟨rfl, hb4, hk4⟩; have rk4 := rk.then hk4 (fun k hk h => by subst h; omega); have ro4 := own_keep ro hk4 (fun g hg h => hne2 (h ▸ hg)))
              clear rk ro rb hk4 hne2 H42'
              go_loopg [12, 69] (n + 1) (fun g3 s3 i wr3 => ∃ (j : Nat) (A5 : Option Addr) (c5 : Nat), n - j < g3 ∧ j ≤ n ∧ i = .int .i64 j ∧ s3 = .slice A5 (k2 + j) c5 ∧
                wr3.ownsRow w.heap.size 3 1 (.slice A5 (k2 + j) c5) (k2 + j) (i64s (out2 ++ List.replicate j 0)) ∧ Blk wr3 b 88 (blCells A c ds p2 bd) ∧ Kept w wr3)
              case atStart => exact ⟨0, A4, c4, by omega, by omega, rfl, rfl, by simpa using ro4, hb4, rk4⟩
              case round =>
                clear hb4 rk4 ro4
                obtain ⟨j, A5, c5, t1, t2, rfl, rfl, to, tb, tk⟩ := hrel
                by_cases hj : j < n
                · go_wp2_with (at_builtin; refine wpList_push rfl _ _ rfl elInt tk A5 (k2 + j) c5 _ rfl to [.int .i64 0] rfl rfl (by simp [Value.oneCell']) (by omega) ?_; intro A6 c6 w5 hown5 hk5 hg5)
                  go_roundg (n - j)
                  case measure => exact t1
                  case rel => exact ⟨j + 1, A6, c6, by omega, by omega, rfl, rfl, by rw [i64s_zeros]; exact hown5, blk_grown tb hg5 (own_ne to tb (by decide)), hk5⟩
                · obtain rfl : j = n := by omega
                  have e2 : wr.cell? ⟨b, 2, none⟩ = some (.bool bd) := tb.cell 2
                  rcases Hcase.out with ⟨rfl, hnr, hp2, hle2⟩ | ⟨rfl, hn0, hout⟩
                  · have hp2T : p2 ≤ T := by rw [HT.out]; omega
                    by_cases hS2 : S < k2 + j
                    · have hres : desc (num ds) (8 * ds.length) S M 0 = none := by
                        rw [Hde.out, ← R6.out, pr_zeros_bad (.inr (by rw [← r5.out, ← hnr]; exact hS2))]; rfl
                      have Hres := Lib.hid hres
                      clear hres hnr hp2 hle2
                      go_wp2
                      refine bodyPost_ret (results4 rfl _ _ _) rfl ?_
                      exact ⟨tk, .inr ⟨Hres.out, rfl⟩⟩
                    · have hz : pr (num ds) (8 * ds.length) S (j == 3) p2 l2 (out2 ++ List.replicate j 0) = Rr := by
                        rw [← R6.out, pr_zeros hle2 (by rw [← r5.out, ← hnr]; omega), ← hnr, ← hp2]
                      have hlz : Hid (k2 + j = (out2 ++ List.replicate j (0 : Int)).length) := by
                        show _ = _
                        rw [List.length_append, List.length_replicate, ← r5.out]
                      have hpp : pos2 < p2 := by omega
                      have Hz := Lib.hid hz
                      clear hz hnr hp2 hle2
                      by_cases hj3 : j = 3
                      · subst hj3
                        go_wp2
                        go_roundg (T - pos2)
                        case measure => exact r1
                        case rel => exact ⟨p2, _, A5, c5, k2 + 3, by omega, by omega, hp2T, by omega, rfl, hlz, to, tb, tk, Hz.out⟩
                      · have hj0 : (j == 3) = false := beq_eq_false_iff_ne.2 hj3
                        rw [hj0] at Hz
                        clear hj0
                        go_wp2
                        go_roundg (T - pos)
                        case measure => exact q1
                        case rel => exact ⟨p2, l2, _, A5, c5, k2 + j, by omega, hp2T, hl512, by omega, rfl, rfl, hlz, to, tb, tk, Hz.out⟩
                  · have hres : desc (num ds) (8 * ds.length) S M 0 = none := by
                      rw [Hde.out, ← R6.out, pr_zeros_bad (.inl (by omega))]; rfl
                    have Hres := Lib.hid hres
                    clear hres
                    go_wp2
                    refine bodyPost_ret (results4 rfl _ _ _) rfl ?_
                    exact ⟨tk, .inr ⟨Hres.out, rfl⟩⟩
            · have hpf : (p == 0) = false := beq_eq_false_iff_ne.2 hp0
              have R6 : Hid (pr (num ds) (8 * ds.length) S false pos2 l2 out2 = Rr) := by
                rw [← hpf]; exact r6
              clear r6
              go_wp2
              go_roundg (T - pos)
              case measure => exact q1
              case rel => exact ⟨pos2, l2, out2, A4, c4, k2, by omega, r3, hl512, r4, rfl, rfl, r5, ro, rb, rk, R6.out⟩
      · have h80 := value_bad b A c ds pos left wr qb hsr hRb hd (by omega) h0 q3 (by rw [← HT.out]; exact q2) (by omega)
        have H80 := Lib.hid h80
        have hres : desc (num ds) (8 * ds.length) S M 0 = none := by
          rw [Hde.out, ← q6.out, pr_bad h0 (.inl (by omega))]; rfl
        have Hres := Lib.hid hres
        clear h80 hres hin hle hwp
        go_wp2_with (go_at_call 80; refine H80.out.mono ?_; rintro e w2 ⟨x, p, rfl, hb2, hk2⟩; have e2 : w2.cell? ⟨b, 2, none⟩ = some (.bool true) := hb2.cell 2)
        refine bodyPost_ret (results4 rfl _ _ _) rfl ?_
        exact ⟨qk.then hk2 (fun k hk h => by subst h; omega), .inr ⟨Hres.out, rfl⟩⟩
end Go.Proofs.YtabaholflahepaaDoor
