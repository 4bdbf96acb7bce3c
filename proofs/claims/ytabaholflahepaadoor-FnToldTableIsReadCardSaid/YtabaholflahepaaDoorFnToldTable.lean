/-
  The walk of laws.FnToldTableIsRead: it returns true.
-/
import Derived.Test.YtabaholflahepaaDoorToldW
import Derived.Test.YtabaholflahepaaDoorTabZ
import Derived.Test.YtabaholflahepaaDoorFnBuild
namespace Go.Proofs.YtabaholflahepaaDoor
open Go.RowKit

theorem u8s_append (a b : List Nat) : u8s (a ++ b) = u8s a ++ u8s b := by simp [u8s]
theorem Bytes.append {a b : List Nat} (ha : Bytes a) (hb : Bytes b) : Bytes (a ++ b) := fun x hx => (List.mem_append.1 hx).elim (ha x) (hb x)
theorem bytes_two : Bytes [0, 0] := by unfold Bytes; decide

/-- What is owned of two kinds lies apart. -/
theorem own_apart {w : World} {base base' n n' size size' : Nat} {e e' : TypeId} {v v' : Value} {xs xs' : List Value} (h : w.ownsRow base e size v n xs) (h' : w.ownsRow base' e' size' v' n' xs') (hne : e ≠ e') :
    v.ownBlock = none ∨ v.ownBlock ≠ v'.ownBlock := by
  rcases h.2 with ⟨rfl, _⟩ | ⟨g, cap, cur, rfl, _, hh, _⟩
  · exact .inl rfl
  · refine .inr fun heq => ?_
    rcases h'.2 with ⟨rfl, _⟩ | ⟨g', cap', cur', rfl, _, hh', _⟩
    · simp [Value.ownBlock] at heq
    · have : g = g' := by simpa [Value.ownBlock] using heq
      subst this
      rw [hh] at hh'
      injection hh' with hh'
      injection hh' with _ ht
      exact hne ht

/-- What is told is read, whatever stands behind it. -/
theorem desc_behind {zs bs : List Nat} {L : Nat} {ps : List Int} (h5 : 5 ≤ L) (h9 : L ≤ 9) (h : Rest ps (2 ^ L)) (hl : ps.length ≤ 256) (hz : zs.length = (flen (told L ps) + 7) / 8) (hn : num zs = fnum (told L ps)) :
    desc (num (zs ++ bs)) (8 * (zs ++ bs).length) (255 + 1) 9 0 = some (L, ps, flen (told L ps)) := by
  refine desc_told h5 h9 h h9 ?_ (by rw [List.length_append]; omega) hl
  have h1 := fnum_lt (told_fits h5 h9 h)
  rw [num_append, hn]
  have h2 : 2 ^ (8 * zs.length) = 2 ^ flen (told L ps) * 2 ^ (8 * zs.length - flen (told L ps)) := by rw [← Nat.pow_add]; congr 1; omega
  rw [h2, Nat.mul_left_comm, Nat.add_mul_mod_self_left, Nat.mod_eq_of_lt h1]

set_option maxHeartbeats 4000000 in
set_option maxRecDepth 4000 in
theorem fnToldTableIsRead_walk (A : Option Addr) (c : Nat) (xs : List Int) (y : Int) (A' : Option Addr) (c' : Nat) (bs : List Nat) (w : World) (hs : Sl w (· < w.heap.size) A (i64s xs)) (hx : I64s xs) (_hm : xs.length ≤ 9223372036854775807) (hy : I64 y)
    (hs' : Sl w (· < w.heap.size) A' (u8s bs)) (hb : Bytes bs) (_hm' : bs.length ≤ 9223372036854775807) (he : Errs w.heap.size w) :
    Calls Tryd.prog 11 #[.slice A xs.length c, .int .i64 y, .slice A' bs.length c'] w fun e w' => e = .returned (.bool true) ∧ Kept w w' := by
  by_cases g1 : 2147483647 < xs.length
  · go_enter Tryd.func11, Tryd.ntmps11
    go_wp2_with fail
    go_ret
    exact ⟨rfl, Keep.refl _ _⟩
  have hd1 : decide ((xs.length : Int) > 2147483647) = false := decide_eq_false (by omega)
  by_cases g2 : 2147483647 < bs.length
  · go_enter Tryd.func11, Tryd.ntmps11
    go_wp2_with fail
    go_ret
    exact ⟨rfl, Keep.refl _ _⟩
  have hd2 : decide ((bs.length : Int) > 2147483647) = false := decide_eq_false (by omega)
  by_cases g3 : 1048576 < bs.length
  · go_enter Tryd.func11, Tryd.ntmps11
    go_wp2_with fail
    go_ret
    exact ⟨rfl, Keep.refl _ _⟩
  have hd3 : decide ((bs.length : Int) > 1048576) = false := decide_eq_false (by omega)
  obtain ⟨L, hL⟩ : ∃ L : Nat, 5 + y % 5 = (L : Int) := ⟨(5 + y % 5).toNat, by omega⟩
  have h5 : 5 ≤ L := by omega
  have h9 : L ≤ 9 := by omega
  have hsh := shares_any A c L xs w hs hx (by omega) h5 h9
  have Hsh := Lib.hid hsh
  obtain ⟨N, hN⟩ : ∃ N, N = 2 ^ L := ⟨_, rfl⟩
  have h512 : N ≤ 512 := by rw [hN]; exact Nat.pow_le_pow_right (by decide) h9
  have hNi : (2 : Int) ^ L = (N : Int) := by rw [two_pow_int, hN]
  have HN := Lib.hid hN
  have Hb := Lib.hid hb
  clear hsh hx hs hN hb
  go_enter Tryd.func11, Tryd.ntmps11
  go_wp2_with (first
    | (go_at_call 23; refine (below_any y 5 hy (by decide) (by decide) _).mono ?_; rintro e w1 ⟨rfl, rfl⟩)
    | (go_at_call 24; refine Hsh.out.mono ?_; rintro e w1 ⟨A1, c1, ps, rfl, hmade, ho1, hk1⟩))
  obtain ⟨nB, hnB⟩ : ∃ nB, nB = (flen (told L ps) + 7) / 8 := ⟨_, rfl⟩
  have hps : ps.length ≤ 252 := hmade.few
  have hsl : Sl w1 (fun k => w.heap.size ≤ k ∧ k < w1.heap.size) A1 (i64s ps) := Sl.of_own ho1
  have htold : Calls Tryd.prog 33 #[.slice A1 ps.length c1, .int .i64 L] w1 fun e w' => ∃ g zs, List.length zs = nB ∧ e = .returned (.slice (some ⟨g, 0, none⟩) nB nB) ∧ w1.heap.size ≤ g ∧ Blk w' g 5 (u8s zs) ∧ Bytes zs ∧ num zs = fnum (told L ps) ∧ Kept w1 w' := by
    have := told_any A1 ps.length c1 L ps rfl w1 hsl hmade.rest h5 h9 (by omega)
    unfold ToldPost at this
    rw [← hnB] at this
    exact this
  have hbuild := fun w' (hk : Kept w1 w') => implBuild_any A1 ps.length c1 L ps rfl w' (hsl.kept hk) hmade h5 h9
  obtain ⟨tb, htb⟩ : ∃ tb, tb = tab L ps := ⟨_, rfl⟩
  have htl : tb.length = N := by rw [htb, tab_length, HN.out]
  rw [← htb, ← HN.out] at hbuild
  have hfl : flen (told L ps) ≤ 4096 := by
    have h1 := encs_len _ false (2 ^ L) ps (Nat.lt_succ_self _) (by rw [← HN.out]; exact h512)
    rw [told, flen_cons]
    simp only [Bool.false_eq_true, if_false] at h1
    simp only
    omega
  have hnBl : nB ≤ 1024 := by omega
  have Htold := Lib.hid htold
  have Hbuild := Lib.hid hbuild
  have HnB := Lib.hid hnB
  have Htb := Lib.hid htb
  have Htl := Lib.hid htl
  have Hmade := Lib.hid hmade
  clear htold hbuild hnB htb htl hmade hfl ho1 hsl
  have hsb1 := hs'.kept hk1
  go_wp2_with (first
    | (go_at_call 33; refine Htold.out.mono ?_; rintro e w2 ⟨g, zs, hzl, rfl, hwg, hgb, hzb, hzn, hk2⟩; have Hzl := Lib.hid hzl; have Hzn := Lib.hid hzn; have Hzb := Lib.hid hzb; clear hzl hzn hzb)
    | (go_at_call 25; refine (Hbuild.out _ hk2).mono ?_; rintro e w3 ⟨A2, c2, rfl, ho2, hk3⟩; have hk23 := hk2.trans hk3; have hgb3 := hgb.kept hk3; have hsb3 := hsb1.kept hk23; have hownz := own_of_blk (n := nB) hgb3 hwg (by rw [u8s_length, Hzl.out]) (by unfold maxLen; omega))
    | (at_builtin; refine wpList_append rfl _ _ rfl elByte (hk4.alloc _) A4 (nB + bs.length) c4 (u8s zs ++ u8s bs) rfl (ho4.alloc _) 2 [.int .u8 0, .int .u8 0] _ rfl (src_blk Tryd.underlying22 (Blk.new w4 5 [.int .u8 0, .int .u8 0]) 2 2 (by simp) (by simp [Value.oneCell'])) (by omega) ?_; intro A5 c5 w5 ho5 hk5 hg5; have ho2c := (ho2b.alloc _).kept hg5 (own_apart ho2b ho4 (by decide)))
    | (at_builtin; refine wpList_append rfl _ _ rfl elByte hk23 (some ⟨g, 0, none⟩) nB nB (u8s zs) rfl hownz bs.length (u8s bs) _ rfl (src_sl Tryd.underlying22 hsb3 bs.length c' (by simp) (u8s_one bs)) (by omega) ?_; intro A4 c4 w4 ho4 hk4 hg4; have ho2b := ho2.kept hg4 (own_apart ho2 hownz (by decide))))
  have hdsl : (zs ++ (bs ++ [0, 0])).length = nB + bs.length + 2 := by rw [List.length_append, List.length_append, Hzl.out, Nat.add_assoc]; rfl
  have hdse : u8s zs ++ u8s bs ++ [.int .u8 0, .int .u8 0] = u8s (zs ++ (bs ++ [0, 0])) := by rw [u8s_append, u8s_append, List.append_assoc]; rfl
  have hdsc := desc_behind (bs := bs ++ [0, 0]) h5 h9 Hmade.out.rest (by omega) (by rw [Hzl.out, HnB.out]) Hzn.out
  rw [hdse] at ho5
  have htab := implTable_any A5 (nB + bs.length + 2) c5 255 9 (zs ++ (bs ++ [0, 0])) hdsl.symm w5 (Sl.of_own ho5) (Hzb.out.append (Hb.out.append bytes_two)) (by rw [hdsl]; omega) (he.kept (hk1.trans hk5)) (by decide) (by decide) (by decide)
  have Htab := Lib.hid htab
  have Hdsc := Lib.hid hdsc
  have Hdsl := Lib.hid hdsl
  clear hdsl hdse hdsc htab ho5 ho4 hgb3 hgb hg4 hg5 he
  refine Htab.out.mono ?_
  rintro e w6 ⟨hk6, ⟨L', ps', q', A6, c6, hde, rfl, ho6⟩ | ⟨A6, c6, rfl, hno⟩⟩
  · have heq := Hdsc.out.symm.trans hde
    simp only [Option.some.injEq, Prod.mk.injEq] at heq
    obtain ⟨rfl, rfl, rfl⟩ := heq
    rw [← Htb.out, ← HN.out] at ho6
    rw [← HnB.out, ← HN.out]
    clear hde Htab Hdsc
    have hsg : Sl w6 (fun k => w5.heap.size ≤ k ∧ k < w6.heap.size) A6 (flat cel3 tb) := Sl.of_own ho6
    have hsm := Sl.of_own (own_kept ho2c hk6)
    have hkw : Kept w w6 := (hk1.trans hk5).trans hk6
    have HtL := Lib.hid (show (L : Int) = (L : Int) from rfl)
    clear ho2 ho2b ho2c ho6 hk23 hk2 hk3 hk4 hk5 hk6 hownz hsb1 hsb3 hs' Hmade Htb
    go_wp2
    go_loopg [88] (N + 1) (fun g i wr => ∃ k : Nat, N - k < g ∧ k ≤ N ∧ i = .int .i64 k ∧ Kept w6 wr)
    case atStart => exact ⟨0, by omega, by omega, rfl, Keep.refl _ _⟩
    case round =>
      obtain ⟨k, q1, q2, rfl, qk⟩ := hrel
      by_cases hlt : k < N
      · have hlt2 : k < tb.length := by rw [Htl.out]; exact hlt
        obtain ⟨g8, o8, x, hR, rfl, hx, hc⟩ := (hsg.kept qk).row cel3_length (by decide) hlt2
        obtain ⟨g9, o9, y, hR', rfl, hy, hc'⟩ := (hsm.kept qk).row cel3_length (by decide) hlt2
        obtain rfl : x = y := Option.some.inj (hx.out.symm.trans hy.out)
        obtain ⟨x0, x1, x2⟩ := x
        have d0 : wr.cell? ⟨g8, o8 + k * 3, none⟩ = some (.int .i64 x0) := hc 0 _ rfl
        have d1 : wr.cell? ⟨g8, o8 + k * 3 + 1, none⟩ = some (.int .i64 x1) := hc 1 _ rfl
        have d2 : wr.cell? ⟨g8, o8 + k * 3 + 2, none⟩ = some (.int .i64 x2) := hc 2 _ rfl
        have e0 : wr.cell? ⟨g9, o9 + k * 3, none⟩ = some (.int .i64 x0) := hc' 0 _ rfl
        have e1 : wr.cell? ⟨g9, o9 + k * 3 + 1, none⟩ = some (.int .i64 x1) := hc' 1 _ rfl
        have e2 : wr.cell? ⟨g9, o9 + k * 3 + 2, none⟩ = some (.int .i64 x2) := hc' 2 _ rfl
        clear hc hc' hy hlt2
        go_wp2
        go_quiet (fail)
        go_wp2
        go_roundg (N - k)
        case measure => exact q1
        case rel => exact ⟨k + 1, by omega, by omega, rfl, qk.drewN _⟩
      · go_wp2
        go_ret
        exact ⟨rfl, hkw.trans qk⟩
  · have := hno _ _ _ Hdsc.out
    rw [Hdsl.out] at this
    have := HnB.out
    omega
end Go.Proofs.YtabaholflahepaaDoor
