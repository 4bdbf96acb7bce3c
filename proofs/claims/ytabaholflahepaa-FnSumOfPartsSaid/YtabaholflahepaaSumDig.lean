/-
  Contract of (*xxhash64).digest: of a checksum under way, of the text T, it is xxh T.
-/
import Derived.Test.YtabaholflahepaaSumAcc
namespace Go.Proofs.Ytabaholflahepaa
open Go.RowKit

theorem and31 (a : Nat) (ha : U64 a) : bits .and .u64 (a : Int) 31 = ((a % 32 : Nat) : Int) := by
  rw [show (31 : Int) = ((31 : Nat) : Int) from rfl, u64_and_nat a 31 ha (by decide), show (31 : Nat) = 2 ^ 5 - 1 by decide, and_mask]
theorem take_first {bf : List Nat} {n k : Nat} (h : k ≤ n) : (bf.take n).take k = bf.take k := by rw [List.take_take, Nat.min_eq_left h]
theorem take_rest (bf : List Nat) (n k : Nat) : (bf.take n).drop k = (bf.drop k).take (n - k) := List.drop_take

set_option maxHeartbeats 4000000 in
set_option maxRecDepth 4000 in
theorem digest_small (b : Nat) (T : List Nat) (w : World) (hx : XH w b T) (hbig : T.length ≤ 2097152) (h32 : T.length < 32) :
    Calls Try.prog 40 #[.pointer (some ⟨b, 0, none⟩)] w fun e w' => e = .returned (.int .u64 (xxh T : Nat)) ∧ ∃ m, w' = w.drewN m := by
  obtain ⟨buf, hbl, hbd, hbt, hb⟩ := hx
  obtain ⟨N0, hN0⟩ : ∃ N0, N0 = T.length := ⟨_, rfl⟩
  obtain ⟨n0, hn0⟩ : ∃ k, k = T.length % 32 := ⟨_, rfl⟩
  obtain ⟨v, hv⟩ : ∃ v, v = accOf acc0 T := ⟨_, rfl⟩
  have hv4 : v.length = 4 := by rw [hv]; exact accOf_length rfl
  have hall : ∀ x ∈ v, U64 x := by rw [hv]; exact accOf_lt acc0_lt
  have hxx : xxh T = endOf (add64 (headOf T) T.length) (restOf T) := rfl
  rw [← hbt] at hxx
  rw [← hn0, ← hv, ← hN0] at hb
  rw [← hn0, ← hN0] at hxx
  have c0 : w.cell? ⟨b, 0, none⟩ = some (.int .u64 (N0 : Int)) := hb.cell 0
  have hNU : U64 N0 := by unfold U64; omega
  have hand : bits .and .u64 (N0 : Int) 31 = (n0 : Int) := by rw [hn0, ← hN0]; exact and31 N0 hNU
  have hn32 : n0 < 32 := by omega
  have Hbl := Lib.hid hbl
  have Hbd := Lib.hid hbd
  have hNl : N0 ≤ 2097152 := by omega
  have hs0 : Sl w (· = b) (some ⟨b, 5, none⟩) (u8s buf) := hb.xhBuf hv4
  have hh0 : headOf T = 2870177450012600261 := by rw [headOf, if_neg (by omega)]
  have hv2 : v[2]? = some 0 := by rw [hv, accOf_short h32]; rfl
  have c3 : w.cell? ⟨b, 3, none⟩ = some (.int .u64 0) := by
    have := xh_at (n := N0) (buf := buf) (cnt := n0) hv2
    rw [hb.cell]; exact this
  rw [hh0] at hxx
  obtain ⟨h1, hh1'⟩ : ∃ x, x = add64 2870177450012600261 N0 := ⟨_, rfl⟩
  have hadd : IntKind.u64.wrap (2870177450012600261 + (N0 : Int)) = (h1 : Int) := by rw [hh1']; exact w_add 2870177450012600261 _
  have hh1 : Hid (U64 h1) := by rw [hh1']; exact add64_lt _ _
  rw [← hh1'] at hxx
  have hend0 := Lib.hid hxx
  have hN32 : N0 < 32 := by omega
  have hd32 : decide ((N0 : Int) < 32) = true := decide_eq_true (by omega)
  obtain ⟨WX, hWX⟩ : ∃ W, w = W := ⟨_, rfl⟩
  have hs1 := hs0
  have hkx : ∀ m, ∃ m', WX.drewN m = w.drewN m' := fun m => ⟨m, by rw [hWX]⟩
  clear hxx hh1' hbl hbd hbt hb hv2 hv hv4 hall hn0 hN0 hh0 hs0
  subst hWX
  go_enter Try.func40, Try.ntmps40
  go_wp2
  go_loopg [3, 4, 5] (n0 + 1) (fun gg hv lv bv wr => ∃ (n2 f q : Nat) (bf : List Nat) (h : Nat), n2 < gg ∧ hv = .int .u64 h ∧ lv = .int .u64 n2 ∧ bv = .slice (some ⟨b, f, none⟩) q q ∧ n2 < q ∧ q ≤ 32 ∧ Sl w (· = b) (some ⟨b, f, none⟩) (u8s bf) ∧ Hid (q = bf.length) ∧
    Hid (Bytes bf) ∧ Hid (U64 h) ∧ Hid (tail8 (n2 / 8) h (bf.take n2) = tail8 (n0 / 8) h1 (buf.take n0)) ∧ Hid (end8 (bf.take n2) = end8 (buf.take n0)) ∧ ∃ m, wr = w.drewN m)
  case atStart => exact ⟨n0, 5, 32, buf, h1, by omega, rfl, rfl, rfl, by omega, by omega, hs1, Hbl.out.symm, Hbd.out, hh1.out, rfl, rfl, 0, rfl⟩
  case round =>
    clear hs1
    obtain ⟨n2, f, q, bf, h2, u1, rfl, rfl, rfl, u3, u4, hs2, hl2, hb2, hh2, u7, u8', mw, rfl⟩ := hrel
    have hbl2' : n2 ≤ bf.length := by rw [← hl2.out]; omega
    have hlt2 : (bf.take n2).length = n2 := by rw [List.length_take]; omega
    by_cases h8 : 8 ≤ n2
    · have hwl := le64_any (R := (· = b)) (some ⟨b, f, none⟩) q q bf hl2.out (w.drewN mw) (hs2.drewN mw) hb2.out (by omega) (Nat.le_refl _)
      have hrd := fun v w => implRound_any v 0 (num (bf.take 8)) w
      have hst := tail8_step (h := h2) (l := bf.take n2) (by omega)
      have hst2 := end8_step (l := bf.take n2) (by omega)
      rw [take_first h8, hlt2, take_rest, List.length_take, List.length_drop, Nat.min_eq_left (by omega)] at hst
      rw [take_rest] at hst2
      have hlt := by8_lt h2 (num (bf.take 8))
      obtain ⟨z, m, f1, f3, f4, f5⟩ := by8_facts h2 (num (bf.take 8)) hh2.out
      generalize num (bf.take 8) = wd at hwl hrd hst f1 f5 hlt
      have hrl := rot_lt (k := 27) f3
      have hrot := rotate_any z 27 f3 (by decide) (by decide)
      generalize by8 h2 wd = h' at f5 hst hlt
      generalize rnd 0 wd = rw0 at hrd f1
      generalize rot z 27 = ro at f4 hrl hrot
      have hsE : Sl w (· = b) (some ⟨b, f + 8, none⟩) (u8s (bf.drop 8)) := hs2.cut' 8
      have hq8 : ¬ q = 8 := by omega
      have hq8i : (8 : Int) ≤ (q : Int) := by omega
      have hn8i : (8 : Int) ≤ (n2 : Int) := by omega
      have Hwl := Lib.hid hwl
      have Hrd := Lib.hid hrd
      have Hrot := Lib.hid hrot
      have Hst := Lib.hid hst
      have Hst2 := Lib.hid hst2
      have Hlt := Lib.hid hlt
      clear hwl hrd hrot hst hst2 hlt f3 hrl hlt2 hbl2'
      go_wp2_with (first
        | (go_at_call 42; refine Hwl.out.mono ?_; rintro e w9 ⟨rfl, m9, rfl⟩)
        | (go_at_call 41; refine (Hrd.out _ _).mono ?_; rintro e w9 ⟨rfl, rfl⟩)
        | (go_at_call 26; refine (Hrot.out _).mono ?_; rintro e w9 ⟨rfl, rfl⟩))
      go_roundg n2
      case measure => exact u1
      case rel => exact ⟨n2 - 8, f + 8, q - 8, bf.drop 8, h', by omega, rfl, by congr 1; omega, rfl, by omega, by omega, hsE, by show _ = _; rw [List.length_drop, ← hl2.out], hb2.out.drop 8, Hlt.out, Hst.out.symm.trans u7.out, Hst2.out.symm.trans u8'.out, mw + m9, rfl⟩
    · have hend' : xxh T = aval3 (aval2 (aval1 ((end4 (bf.take n2)).foldl by1 (tail4 h2 (bf.take n2))))) := by
        rw [hend0.out, endOf, List.length_take, Nat.min_eq_left (by rw [Hbl.out]; omega), ← u7.out, ← u8'.out]
        have e1 : tail8 (n2 / 8) h2 (bf.take n2) = h2 := by rw [show n2 / 8 = 0 by omega]; rfl
        rw [e1, end8_short (by omega)]
      have hend := Lib.hid hend'
      clear hend' u7 u8'
      by_cases h4 : 4 ≤ n2
      · have hwl := le32_any (R := (· = b)) (some ⟨b, f, none⟩) q q bf hl2.out (w.drewN mw) (hs2.drewN mw) hb2.out (by omega)
        have hend' : xxh T = aval3 (aval2 (aval1 (((bf.drop 4).take (n2 - 4)).foldl by1 (by4 h2 (num (bf.take 4)))))) := by
          rw [hend.out, tail4, if_pos (by omega), end4, if_pos (by omega), take_first h4, take_rest]
        have hwlt : num (bf.take 4) < 4294967296 := by
          have := num_lt (hb2.out.take 4)
          rwa [List.length_take, Nat.min_eq_left (by omega)] at this
        generalize num (bf.take 4) = wd at hwl hend' hwlt
        obtain ⟨y, z, m, f1, f2, f3, f4, f5⟩ := by4_facts h2 wd hh2.out
        have hrl := rot_lt (k := 23) f3
        have hrot := rotate_any z 23 f3 (by decide) (by decide)
        have hlt := by4_lt h2 wd
        generalize by4 h2 wd = h3 at f5 hend' hlt
        generalize rot z 23 = ro at f4 hrl hrot
        have hs3 : Sl w (· = b) (some ⟨b, f + 4, none⟩) (u8s (bf.drop 4)) := hs2.cut' 4
        have hl3' : q - 4 = (bf.drop 4).length := by rw [List.length_drop, ← hl2.out]
        have hb3 := Lib.hid (hb2.out.drop 4)
        have hl3 := Lib.hid hl3'
        have hh3 := Lib.hid hlt
        have Hwl := Lib.hid hwl
        have Hrot := Lib.hid hrot
        replace hend := Lib.hid hend'
        have hq4 : ¬ q = 4 := by omega
        have hq4i : (4 : Int) ≤ (q : Int) := by omega
        have hn4i : (4 : Int) ≤ (n2 : Int) := by omega
        have hn4e : (n2 : Int) - 4 = ((n2 - 4 : Nat) : Int) := by omega
        have hn3q : n2 - 4 < q - 4 := by omega
        clear hl3' hlt hwl hrot hend' f3 hrl hlt2 hbl2'
        obtain ⟨n3, hn3⟩ : ∃ n3, n2 - 4 = n3 := ⟨_, rfl⟩
        obtain ⟨q3, hq3⟩ : ∃ q3, q - 4 = q3 := ⟨_, rfl⟩
        have hq32 : q3 ≤ 32 := by omega
        rw [hn3] at hend hn4e hn3q
        rw [hq3] at hl3 hn3q
        clear hn3
        generalize bf.drop 4 = bf3 at hs3 hb3 hl3 hend
        go_wp2_with (first
          | (go_at_call 44; refine Hwl.out.mono ?_; rintro e w9 ⟨rfl, m9, rfl⟩)
          | (go_at_call 26; refine (Hrot.out _).mono ?_; rintro e w9 ⟨rfl, rfl⟩))
        go_loopg [3, 4, 5] (n3 + 1) (fun gg hv lv bv wr => ∃ (n4 f4 q4 : Nat) (bf4 : List Nat) (h : Nat), n4 < gg ∧ hv = .int .u64 h ∧ lv = .int .u64 n4 ∧ bv = .slice (some ⟨b, f4, none⟩) q4 q4 ∧ n4 < q4 ∧ q4 ≤ 32 ∧ Sl w (· = b) (some ⟨b, f4, none⟩) (u8s bf4) ∧ Hid (q4 = bf4.length) ∧
          Hid (Bytes bf4) ∧ Hid (U64 h) ∧ Hid (xxh T = aval3 (aval2 (aval1 ((bf4.take n4).foldl by1 h)))) ∧ ∃ m, wr = w.drewN m)
        case atStart => exact ⟨n3, f + 4, q3, bf3, h3, by omega, rfl, rfl, rfl, by omega, by omega, hs3, hl3.out, hb3.out, hh3.out, hend.out, _, rfl⟩
        case round =>
          obtain ⟨n4, f4, q4, bf4, h, t1, rfl, rfl, rfl, t5, t6, hs4, hl4, hb4, hh4, hend4, mw4, rfl⟩ := hrel
          by_cases hk : 0 < n4
          · obtain ⟨g9, o9, x, hg9, ho9, hcx, hxk⟩ := (hs4.drewN mw4).u8 (k := 0) (show 0 < bf4.length by rw [← hl4.out]; omega)
            simp only [Option.some.injEq, Addr.mk.injEq] at ho9
            obtain ⟨rfl, rfl, _⟩ := ho9
            rw [Nat.add_zero] at hcx
            have hx256 := hb4.out x (List.mem_of_getElem? hxk.out)
            obtain ⟨y, z, f1, f2, f3, f5⟩ := by1_facts h x hh4.out
            have hrl := rot_lt (k := 11) f3
            have hrot := rotate_any z 11 f3 (by decide) (by decide)
            have hstep : xxh T = aval3 (aval2 (aval1 (((bf4.drop 1).take (n4 - 1)).foldl by1 (by1 h x)))) := by
              have e : bf4.take n4 = x :: (bf4.drop 1).take (n4 - 1) := by
                obtain ⟨n5, rfl⟩ : ∃ n5, n4 = n5 + 1 := ⟨n4 - 1, by omega⟩
                cases bf4 with
                | nil => simp at hxk; have := hxk.out; simp at this
                | cons y r =>
                  have := hxk.out
                  simp at this
                  subst this
                  simp
              rw [hend4.out, e, List.foldl_cons]
            have hlt := by1_lt h x
            generalize by1 h x = h' at f5 hstep hlt
            generalize rot z 11 = ro at f5 hrl hrot
            have hs5 : Sl w (· = b) (some ⟨b, f4 + 1, none⟩) (u8s (bf4.drop 1)) := hs4.cut' 1
            have hq1 : ¬ q4 = 1 := by omega
            have hq1i : (1 : Int) ≤ (q4 : Int) := by omega
            have hq0 : 0 < q4 := by omega
            have hn1i : (1 : Int) ≤ (n4 : Int) := by omega
            have Hstep := Lib.hid hstep
            have Hlt := Lib.hid hlt
            have Hrot := Lib.hid hrot
            clear hstep hlt hrot f3 hrl
            go_wp2_with (go_at_call 26; refine (Hrot.out _).mono ?_; rintro e w9 ⟨rfl, rfl⟩)
            go_roundg n4
            case measure => exact t1
            case rel => exact ⟨n4 - 1, f4 + 1, q4 - 1, bf4.drop 1, h', by omega, rfl, by congr 1; omega, rfl, by omega, by omega, hs5, by show _ = _; rw [List.length_drop, ← hl4.out], hb4.out.drop 1, Hlt.out, Hstep.out, mw4, rfl⟩
          · obtain rfl : n4 = 0 := by omega
            have hfin0 := hend4.out
            rw [List.take_zero, List.foldl_nil] at hfin0
            obtain ⟨x1, a, x2, bb, q1', q2', q3', f1, f2, f3, f4', f5, f6, f7, f8, _, _⟩ := aval_facts h hh4.out
            generalize aval3 (aval2 (aval1 h)) = fin at f8 hfin0
            have Hfin := Lib.hid hfin0
            clear hfin0 hend4
            go_wp2
            go_ret
            exact ⟨by rw [Hfin.out]; rfl, hkx _⟩
      · have hend' : xxh T = aval3 (aval2 (aval1 ((bf.take n2).foldl by1 h2))) := by rw [hend.out, tail4, if_neg (by omega), end4, if_neg (by omega)]
        replace hend := Lib.hid hend'
        have hn4d : decide ((4 : Int) ≤ (n2 : Int)) = false := decide_eq_false (by omega)
        clear hend' hlt2 hbl2'
        go_wp2
        go_loopg [3, 4, 5] (n2 + 1) (fun gg hv lv bv wr => ∃ (n4 f4 q4 : Nat) (bf4 : List Nat) (h : Nat), n4 < gg ∧ hv = .int .u64 h ∧ lv = .int .u64 n4 ∧ bv = .slice (some ⟨b, f4, none⟩) q4 q4 ∧ n4 < q4 ∧ q4 ≤ 32 ∧ Sl w (· = b) (some ⟨b, f4, none⟩) (u8s bf4) ∧ Hid (q4 = bf4.length) ∧
          Hid (Bytes bf4) ∧ Hid (U64 h) ∧ Hid (xxh T = aval3 (aval2 (aval1 ((bf4.take n4).foldl by1 h)))) ∧ ∃ m, wr = w.drewN m)
        case atStart => exact ⟨n2, f, q, bf, h2, by omega, rfl, rfl, rfl, by omega, by omega, hs2, hl2.out, hb2.out, hh2.out, hend.out, mw, rfl⟩
        case round =>
          obtain ⟨n4, f4, q4, bf4, h, t1, rfl, rfl, rfl, t5, t6, hs4, hl4, hb4, hh4, hend4, mw4, rfl⟩ := hrel
          by_cases hk : 0 < n4
          · obtain ⟨g9, o9, x, hg9, ho9, hcx, hxk⟩ := (hs4.drewN mw4).u8 (k := 0) (show 0 < bf4.length by rw [← hl4.out]; omega)
            simp only [Option.some.injEq, Addr.mk.injEq] at ho9
            obtain ⟨rfl, rfl, _⟩ := ho9
            rw [Nat.add_zero] at hcx
            have hx256 := hb4.out x (List.mem_of_getElem? hxk.out)
            obtain ⟨y, z, f1, f2, f3, f5⟩ := by1_facts h x hh4.out
            have hrl := rot_lt (k := 11) f3
            have hrot := rotate_any z 11 f3 (by decide) (by decide)
            have hstep : xxh T = aval3 (aval2 (aval1 (((bf4.drop 1).take (n4 - 1)).foldl by1 (by1 h x)))) := by
              have e : bf4.take n4 = x :: (bf4.drop 1).take (n4 - 1) := by
                obtain ⟨n5, rfl⟩ : ∃ n5, n4 = n5 + 1 := ⟨n4 - 1, by omega⟩
                cases bf4 with
                | nil => simp at hxk; have := hxk.out; simp at this
                | cons y r =>
                  have := hxk.out
                  simp at this
                  subst this
                  simp
              rw [hend4.out, e, List.foldl_cons]
            have hlt := by1_lt h x
            generalize by1 h x = h' at f5 hstep hlt
            generalize rot z 11 = ro at f5 hrl hrot
            have hs5 : Sl w (· = b) (some ⟨b, f4 + 1, none⟩) (u8s (bf4.drop 1)) := hs4.cut' 1
            have hq1 : ¬ q4 = 1 := by omega
            have hq1i : (1 : Int) ≤ (q4 : Int) := by omega
            have hq0 : 0 < q4 := by omega
            have hn1i : (1 : Int) ≤ (n4 : Int) := by omega
            have Hstep := Lib.hid hstep
            have Hlt := Lib.hid hlt
            have Hrot := Lib.hid hrot
            clear hstep hlt hrot f3 hrl
            go_wp2_with (go_at_call 26; refine (Hrot.out _).mono ?_; rintro e w9 ⟨rfl, rfl⟩)
            go_roundg n4
            case measure => exact t1
            case rel => exact ⟨n4 - 1, f4 + 1, q4 - 1, bf4.drop 1, h', by omega, rfl, by congr 1; omega, rfl, by omega, by omega, hs5, by show _ = _; rw [List.length_drop, ← hl4.out], hb4.out.drop 1, Hlt.out, Hstep.out, mw4, rfl⟩
          · obtain rfl : n4 = 0 := by omega
            have hfin0 := hend4.out
            rw [List.take_zero, List.foldl_nil] at hfin0
            obtain ⟨x1, a, x2, bb, q1', q2', q3', f1, f2, f3, f4', f5, f6, f7, f8, _, _⟩ := aval_facts h hh4.out
            generalize aval3 (aval2 (aval1 h)) = fin at f8 hfin0
            have Hfin := Lib.hid hfin0
            clear hfin0 hend4
            go_wp2
            go_ret
            exact ⟨by rw [Hfin.out]; rfl, hkx _⟩

set_option maxHeartbeats 4000000 in
set_option maxRecDepth 4000 in
theorem digest_big (b : Nat) (T : List Nat) (w : World) (hx : XH w b T) (hbig : T.length ≤ 2097152) (h32 : 32 ≤ T.length) :
    Calls Try.prog 40 #[.pointer (some ⟨b, 0, none⟩)] w fun e w' => e = .returned (.int .u64 (xxh T : Nat)) ∧ ∃ m, w' = w.drewN m := by
  obtain ⟨buf, hbl, hbd, hbt, hb⟩ := hx
  obtain ⟨N0, hN0⟩ : ∃ N0, N0 = T.length := ⟨_, rfl⟩
  obtain ⟨n0, hn0⟩ : ∃ k, k = T.length % 32 := ⟨_, rfl⟩
  obtain ⟨v, hv⟩ : ∃ v, v = accOf acc0 T := ⟨_, rfl⟩
  have hv4 : v.length = 4 := by rw [hv]; exact accOf_length rfl
  have hall : ∀ x ∈ v, U64 x := by rw [hv]; exact accOf_lt acc0_lt
  have hxx : xxh T = endOf (add64 (headOf T) T.length) (restOf T) := rfl
  rw [← hbt] at hxx
  rw [← hn0, ← hv, ← hN0] at hb
  rw [← hn0, ← hN0] at hxx
  have c0 : w.cell? ⟨b, 0, none⟩ = some (.int .u64 (N0 : Int)) := hb.cell 0
  have hNU : U64 N0 := by unfold U64; omega
  have hand : bits .and .u64 (N0 : Int) 31 = (n0 : Int) := by rw [hn0, ← hN0]; exact and31 N0 hNU
  have hn32 : n0 < 32 := by omega
  have Hbl := Lib.hid hbl
  have Hbd := Lib.hid hbd
  have hNl : N0 ≤ 2097152 := by omega
  have hs0 : Sl w (· = b) (some ⟨b, 5, none⟩) (u8s buf) := hb.xhBuf hv4
  have hh0 : headOf T = merged v := by rw [headOf, if_pos h32, hv]
  obtain ⟨v0, v1, v2, v3, rfl⟩ : ∃ v0 v1 v2 v3, v = [v0, v1, v2, v3] := by
    match v, hv4 with
    | [a, b, c, d], _ => exact ⟨a, b, c, d, rfl⟩
  have g0 : U64 v0 := hall v0 (by simp)
  have g1 : U64 v1 := hall v1 (by simp)
  have g2 : U64 v2 := hall v2 (by simp)
  have g3 : U64 v3 := hall v3 (by simp)
  have e0 : w.cell? ⟨b, 1, none⟩ = some (.int .u64 v0) := hb.cell 1
  have e1 : w.cell? ⟨b, 2, none⟩ = some (.int .u64 v1) := hb.cell 2
  have e2 : w.cell? ⟨b, 3, none⟩ = some (.int .u64 v2) := hb.cell 3
  have e3 : w.cell? ⟨b, 4, none⟩ = some (.int .u64 v3) := hb.cell 4
  have r0 : ∀ k, Calls Try.prog 26 #[.int .u64 v0, .int .i64 1] (w.drewN k) fun e w'' => e = .returned (.int .u64 (rot v0 1 : Nat)) ∧ ∃ m, w'' = w.drewN m := fun k => quiet_same (rotate_any v0 1 g0 (by decide) (by decide) _)
  have r1 : ∀ k, Calls Try.prog 26 #[.int .u64 v1, .int .i64 7] (w.drewN k) fun e w'' => e = .returned (.int .u64 (rot v1 7 : Nat)) ∧ ∃ m, w'' = w.drewN m := fun k => quiet_same (rotate_any v1 7 g1 (by decide) (by decide) _)
  have r2 : ∀ k, Calls Try.prog 26 #[.int .u64 v2, .int .i64 12] (w.drewN k) fun e w'' => e = .returned (.int .u64 (rot v2 12 : Nat)) ∧ ∃ m, w'' = w.drewN m := fun k => quiet_same (rotate_any v2 12 g2 (by decide) (by decide) _)
  have r3 : ∀ k, Calls Try.prog 26 #[.int .u64 v3, .int .i64 18] (w.drewN k) fun e w'' => e = .returned (.int .u64 (rot v3 18 : Nat)) ∧ ∃ m, w'' = w.drewN m := fun k => quiet_same (rotate_any v3 18 g3 (by decide) (by decide) _)
  obtain ⟨s1, hs1⟩ : ∃ s, s = add64 (rot v0 1) (rot v1 7) := ⟨_, rfl⟩
  obtain ⟨s2, hs2⟩ : ∃ s, s = add64 s1 (rot v2 12) := ⟨_, rfl⟩
  obtain ⟨s3, hs3⟩ : ∃ s, s = add64 s2 (rot v3 18) := ⟨_, rfl⟩
  have hconv : conv [v0, v1, v2, v3] = s3 := by rw [hs3, hs2, hs1]; rfl
  have hs3l : U64 s3 := by rw [hs3]; exact add64_lt _ _
  have z1 : IntKind.u64.wrap (((rot v0 1 : Nat) : Int) + ((rot v1 7 : Nat) : Int)) = (s1 : Int) := by rw [hs1]; exact w_add _ _
  have z2 : IntKind.u64.wrap ((s1 : Int) + ((rot v2 12 : Nat) : Int)) = (s2 : Int) := by rw [hs2]; exact w_add _ _
  have z3 : IntKind.u64.wrap ((s2 : Int) + ((rot v3 18 : Nat) : Int)) = (s3 : Int) := by rw [hs3]; exact w_add _ _
  generalize rot v0 1 = p0 at r0 z1
  generalize rot v1 7 = p1 at r1 z1
  generalize rot v2 12 = p2 at r2 z2
  generalize rot v3 18 = p3 at r3 z3
  obtain ⟨a1, ha1⟩ : ∃ a, a = mrg s3 v0 := ⟨_, rfl⟩
  obtain ⟨a2, ha2⟩ : ∃ a, a = mrg a1 v1 := ⟨_, rfl⟩
  obtain ⟨a3, ha3⟩ : ∃ a, a = mrg a2 v2 := ⟨_, rfl⟩
  obtain ⟨a4, ha4⟩ : ∃ a, a = mrg a3 v3 := ⟨_, rfl⟩
  have hmg : merged [v0, v1, v2, v3] = a4 := by
    rw [merged4, hconv]
    simp only [List.take_succ_cons, List.take_zero, List.foldl_cons, List.foldl_nil]
    rw [ha4, ha3, ha2, ha1]
  have m1 : ∀ (x : Value) w, Calls Try.prog 43 #[x, .int .u64 s3, .int .u64 v0] w fun e w' => e = .returned (.int .u64 (a1 : Nat)) ∧ w = w' := fun x w => by rw [ha1]; exact merge_any x s3 v0 hs3l w
  have m2 : ∀ (x : Value) w, Calls Try.prog 43 #[x, .int .u64 a1, .int .u64 v1] w fun e w' => e = .returned (.int .u64 (a2 : Nat)) ∧ w = w' := fun x w => by rw [ha2]; exact merge_any x a1 v1 (by rw [ha1]; exact mrg_lt _ _) w
  have m3 : ∀ (x : Value) w, Calls Try.prog 43 #[x, .int .u64 a2, .int .u64 v2] w fun e w' => e = .returned (.int .u64 (a3 : Nat)) ∧ w = w' := fun x w => by rw [ha3]; exact merge_any x a2 v2 (by rw [ha2]; exact mrg_lt _ _) w
  have m4 : ∀ (x : Value) w, Calls Try.prog 43 #[x, .int .u64 a3, .int .u64 v3] w fun e w' => e = .returned (.int .u64 (a4 : Nat)) ∧ w = w' := fun x w => by rw [ha4]; exact merge_any x a3 v3 (by rw [ha3]; exact mrg_lt _ _) w
  rw [hh0, hmg] at hxx
  obtain ⟨h1, hh1'⟩ : ∃ x, x = add64 a4 N0 := ⟨_, rfl⟩
  have hadd : IntKind.u64.wrap ((a4 : Int) + (N0 : Int)) = (h1 : Int) := by rw [hh1']; exact w_add _ _
  have hh1 : Hid (U64 h1) := by rw [hh1']; exact add64_lt _ _
  rw [← hh1'] at hxx
  have hend0 := Lib.hid hxx
  have R0 := Lib.hid r0
  have R1 := Lib.hid r1
  have R2 := Lib.hid r2
  have R3 := Lib.hid r3
  have M1 := Lib.hid m1
  have M2 := Lib.hid m2
  have M3 := Lib.hid m3
  have M4 := Lib.hid m4
  have hd32 : decide ((N0 : Int) < 32) = false := decide_eq_false (by omega)
  have hN32 : ¬ N0 < 32 := by omega
  clear r0 r1 r2 r3 m1 m2 m3 m4 hs1 hs2 hs3 hconv hs3l hmg ha1 ha2 ha3 ha4 hxx hh1' hbl hbd hbt hh0 hv hv4 hall hn0 hN0 g0 g1 g2 g3
  go_enter Try.func40, Try.ntmps40
  go_wp2
  go_quiet (first
    | (go_at_call 26; with_reducible exact R0.out _)
    | (go_at_call 26; with_reducible exact R1.out _)
    | (go_at_call 26; with_reducible exact R2.out _)
    | (go_at_call 26; with_reducible exact R3.out _))
  clear e0 e1 e2 e3 c0
  have c0 : (w.drewN nq).cell? ⟨b, 0, none⟩ = some (.int .u64 (N0 : Int)) := (hb.drewN nq).cell 0
  have e0 : (w.drewN nq).cell? ⟨b, 1, none⟩ = some (.int .u64 v0) := (hb.drewN nq).cell 1
  have e1 : (w.drewN nq).cell? ⟨b, 2, none⟩ = some (.int .u64 v1) := (hb.drewN nq).cell 2
  have e2 : (w.drewN nq).cell? ⟨b, 3, none⟩ = some (.int .u64 v2) := (hb.drewN nq).cell 3
  have e3 : (w.drewN nq).cell? ⟨b, 4, none⟩ = some (.int .u64 v3) := (hb.drewN nq).cell 4
  have hs1 := hs0.drewN nq
  have hkx : ∀ m, ∃ m', (w.drewN nq).drewN m = w.drewN m' := fun m => ⟨nq + m, World.drewN_drewN _ _ _⟩
  generalize w.drewN nq = WX at c0 e0 e1 e2 e3 hs1 hkx ⊢
  clear hb hs0
  go_wp2_with (first
    | (go_at_call 43; ((with_reducible refine (M1.out _ _).mono ?_); rintro e w9 ⟨rfl, rfl⟩))
    | (go_at_call 43; ((with_reducible refine (M2.out _ _).mono ?_); rintro e w9 ⟨rfl, rfl⟩))
    | (go_at_call 43; ((with_reducible refine (M3.out _ _).mono ?_); rintro e w9 ⟨rfl, rfl⟩))
    | (go_at_call 43; ((with_reducible refine (M4.out _ _).mono ?_); rintro e w9 ⟨rfl, rfl⟩)))
  go_loopg [3, 4, 5] (n0 + 1) (fun gg hv lv bv wr => ∃ (n2 f q : Nat) (bf : List Nat) (h : Nat), n2 < gg ∧ hv = .int .u64 h ∧ lv = .int .u64 n2 ∧ bv = .slice (some ⟨b, f, none⟩) q q ∧ n2 < q ∧ q ≤ 32 ∧ Sl WX (· = b) (some ⟨b, f, none⟩) (u8s bf) ∧ Hid (q = bf.length) ∧
    Hid (Bytes bf) ∧ Hid (U64 h) ∧ Hid (tail8 (n2 / 8) h (bf.take n2) = tail8 (n0 / 8) h1 (buf.take n0)) ∧ Hid (end8 (bf.take n2) = end8 (buf.take n0)) ∧ ∃ m, wr = WX.drewN m)
  case atStart => exact ⟨n0, 5, 32, buf, h1, by omega, rfl, rfl, rfl, by omega, by omega, hs1, Hbl.out.symm, Hbd.out, hh1.out, rfl, rfl, 0, rfl⟩
  case round =>
    clear hs1
    obtain ⟨n2, f, q, bf, h2, u1, rfl, rfl, rfl, u3, u4, hs2, hl2, hb2, hh2, u7, u8', mw, rfl⟩ := hrel
    have hbl2' : n2 ≤ bf.length := by rw [← hl2.out]; omega
    have hlt2 : (bf.take n2).length = n2 := by rw [List.length_take]; omega
    by_cases h8 : 8 ≤ n2
    · have hwl := le64_any (R := (· = b)) (some ⟨b, f, none⟩) q q bf hl2.out (WX.drewN mw) (hs2.drewN mw) hb2.out (by omega) (Nat.le_refl _)
      have hrd := fun v w => implRound_any v 0 (num (bf.take 8)) w
      have hst := tail8_step (h := h2) (l := bf.take n2) (by omega)
      have hst2 := end8_step (l := bf.take n2) (by omega)
      rw [take_first h8, hlt2, take_rest, List.length_take, List.length_drop, Nat.min_eq_left (by omega)] at hst
      rw [take_rest] at hst2
      have hlt := by8_lt h2 (num (bf.take 8))
      obtain ⟨z, m, f1, f3, f4, f5⟩ := by8_facts h2 (num (bf.take 8)) hh2.out
      generalize num (bf.take 8) = wd at hwl hrd hst f1 f5 hlt
      have hrl := rot_lt (k := 27) f3
      have hrot := rotate_any z 27 f3 (by decide) (by decide)
      generalize by8 h2 wd = h' at f5 hst hlt
      generalize rnd 0 wd = rw0 at hrd f1
      generalize rot z 27 = ro at f4 hrl hrot
      have hsE : Sl WX (· = b) (some ⟨b, f + 8, none⟩) (u8s (bf.drop 8)) := hs2.cut' 8
      have hq8 : ¬ q = 8 := by omega
      have hq8i : (8 : Int) ≤ (q : Int) := by omega
      have hn8i : (8 : Int) ≤ (n2 : Int) := by omega
      have Hwl := Lib.hid hwl
      have Hrd := Lib.hid hrd
      have Hrot := Lib.hid hrot
      have Hst := Lib.hid hst
      have Hst2 := Lib.hid hst2
      have Hlt := Lib.hid hlt
      clear hwl hrd hrot hst hst2 hlt f3 hrl hlt2 hbl2'
      go_wp2_with (first
        | (go_at_call 42; refine Hwl.out.mono ?_; rintro e w9 ⟨rfl, m9, rfl⟩)
        | (go_at_call 41; refine (Hrd.out _ _).mono ?_; rintro e w9 ⟨rfl, rfl⟩)
        | (go_at_call 26; refine (Hrot.out _).mono ?_; rintro e w9 ⟨rfl, rfl⟩))
      go_roundg n2
      case measure => exact u1
      case rel => exact ⟨n2 - 8, f + 8, q - 8, bf.drop 8, h', by omega, rfl, by congr 1; omega, rfl, by omega, by omega, hsE, by show _ = _; rw [List.length_drop, ← hl2.out], hb2.out.drop 8, Hlt.out, Hst.out.symm.trans u7.out, Hst2.out.symm.trans u8'.out, mw + m9, rfl⟩
    · have hend' : xxh T = aval3 (aval2 (aval1 ((end4 (bf.take n2)).foldl by1 (tail4 h2 (bf.take n2))))) := by
        rw [hend0.out, endOf, List.length_take, Nat.min_eq_left (by rw [Hbl.out]; omega), ← u7.out, ← u8'.out]
        have e1 : tail8 (n2 / 8) h2 (bf.take n2) = h2 := by rw [show n2 / 8 = 0 by omega]; rfl
        rw [e1, end8_short (by omega)]
      have hend := Lib.hid hend'
      clear hend' u7 u8'
      by_cases h4 : 4 ≤ n2
      · have hwl := le32_any (R := (· = b)) (some ⟨b, f, none⟩) q q bf hl2.out (WX.drewN mw) (hs2.drewN mw) hb2.out (by omega)
        have hend' : xxh T = aval3 (aval2 (aval1 (((bf.drop 4).take (n2 - 4)).foldl by1 (by4 h2 (num (bf.take 4)))))) := by
          rw [hend.out, tail4, if_pos (by omega), end4, if_pos (by omega), take_first h4, take_rest]
        have hwlt : num (bf.take 4) < 4294967296 := by
          have := num_lt (hb2.out.take 4)
          rwa [List.length_take, Nat.min_eq_left (by omega)] at this
        generalize num (bf.take 4) = wd at hwl hend' hwlt
        obtain ⟨y, z, m, f1, f2, f3, f4, f5⟩ := by4_facts h2 wd hh2.out
        have hrl := rot_lt (k := 23) f3
        have hrot := rotate_any z 23 f3 (by decide) (by decide)
        have hlt := by4_lt h2 wd
        generalize by4 h2 wd = h3 at f5 hend' hlt
        generalize rot z 23 = ro at f4 hrl hrot
        have hs3 : Sl WX (· = b) (some ⟨b, f + 4, none⟩) (u8s (bf.drop 4)) := hs2.cut' 4
        have hl3' : q - 4 = (bf.drop 4).length := by rw [List.length_drop, ← hl2.out]
        have hb3 := Lib.hid (hb2.out.drop 4)
        have hl3 := Lib.hid hl3'
        have hh3 := Lib.hid hlt
        have Hwl := Lib.hid hwl
        have Hrot := Lib.hid hrot
        replace hend := Lib.hid hend'
        have hq4 : ¬ q = 4 := by omega
        have hq4i : (4 : Int) ≤ (q : Int) := by omega
        have hn4i : (4 : Int) ≤ (n2 : Int) := by omega
        have hn4e : (n2 : Int) - 4 = ((n2 - 4 : Nat) : Int) := by omega
        have hn3q : n2 - 4 < q - 4 := by omega
        clear hl3' hlt hwl hrot hend' f3 hrl hlt2 hbl2'
        obtain ⟨n3, hn3⟩ : ∃ n3, n2 - 4 = n3 := ⟨_, rfl⟩
        obtain ⟨q3, hq3⟩ : ∃ q3, q - 4 = q3 := ⟨_, rfl⟩
        have hq32 : q3 ≤ 32 := by omega
        rw [hn3] at hend hn4e hn3q
        rw [hq3] at hl3 hn3q
        clear hn3
        generalize bf.drop 4 = bf3 at hs3 hb3 hl3 hend
        go_wp2_with (first
          | (go_at_call 44; refine Hwl.out.mono ?_; rintro e w9 ⟨rfl, m9, rfl⟩)
          | (go_at_call 26; refine (Hrot.out _).mono ?_; rintro e w9 ⟨rfl, rfl⟩))
        go_loopg [3, 4, 5] (n3 + 1) (fun gg hv lv bv wr => ∃ (n4 f4 q4 : Nat) (bf4 : List Nat) (h : Nat), n4 < gg ∧ hv = .int .u64 h ∧ lv = .int .u64 n4 ∧ bv = .slice (some ⟨b, f4, none⟩) q4 q4 ∧ n4 < q4 ∧ q4 ≤ 32 ∧ Sl WX (· = b) (some ⟨b, f4, none⟩) (u8s bf4) ∧ Hid (q4 = bf4.length) ∧
          Hid (Bytes bf4) ∧ Hid (U64 h) ∧ Hid (xxh T = aval3 (aval2 (aval1 ((bf4.take n4).foldl by1 h)))) ∧ ∃ m, wr = WX.drewN m)
        case atStart => exact ⟨n3, f + 4, q3, bf3, h3, by omega, rfl, rfl, rfl, by omega, by omega, hs3, hl3.out, hb3.out, hh3.out, hend.out, _, rfl⟩
        case round =>
          obtain ⟨n4, f4, q4, bf4, h, t1, rfl, rfl, rfl, t5, t6, hs4, hl4, hb4, hh4, hend4, mw4, rfl⟩ := hrel
          by_cases hk : 0 < n4
          · obtain ⟨g9, o9, x, hg9, ho9, hcx, hxk⟩ := (hs4.drewN mw4).u8 (k := 0) (show 0 < bf4.length by rw [← hl4.out]; omega)
            simp only [Option.some.injEq, Addr.mk.injEq] at ho9
            obtain ⟨rfl, rfl, _⟩ := ho9
            rw [Nat.add_zero] at hcx
            have hx256 := hb4.out x (List.mem_of_getElem? hxk.out)
            obtain ⟨y, z, f1, f2, f3, f5⟩ := by1_facts h x hh4.out
            have hrl := rot_lt (k := 11) f3
            have hrot := rotate_any z 11 f3 (by decide) (by decide)
            have hstep : xxh T = aval3 (aval2 (aval1 (((bf4.drop 1).take (n4 - 1)).foldl by1 (by1 h x)))) := by
              have e : bf4.take n4 = x :: (bf4.drop 1).take (n4 - 1) := by
                obtain ⟨n5, rfl⟩ : ∃ n5, n4 = n5 + 1 := ⟨n4 - 1, by omega⟩
                cases bf4 with
                | nil => simp at hxk; have := hxk.out; simp at this
                | cons y r =>
                  have := hxk.out
                  simp at this
                  subst this
                  simp
              rw [hend4.out, e, List.foldl_cons]
            have hlt := by1_lt h x
            generalize by1 h x = h' at f5 hstep hlt
            generalize rot z 11 = ro at f5 hrl hrot
            have hs5 : Sl WX (· = b) (some ⟨b, f4 + 1, none⟩) (u8s (bf4.drop 1)) := hs4.cut' 1
            have hq1 : ¬ q4 = 1 := by omega
            have hq1i : (1 : Int) ≤ (q4 : Int) := by omega
            have hq0 : 0 < q4 := by omega
            have hn1i : (1 : Int) ≤ (n4 : Int) := by omega
            have Hstep := Lib.hid hstep
            have Hlt := Lib.hid hlt
            have Hrot := Lib.hid hrot
            clear hstep hlt hrot f3 hrl
            go_wp2_with (go_at_call 26; refine (Hrot.out _).mono ?_; rintro e w9 ⟨rfl, rfl⟩)
            go_roundg n4
            case measure => exact t1
            case rel => exact ⟨n4 - 1, f4 + 1, q4 - 1, bf4.drop 1, h', by omega, rfl, by congr 1; omega, rfl, by omega, by omega, hs5, by show _ = _; rw [List.length_drop, ← hl4.out], hb4.out.drop 1, Hlt.out, Hstep.out, mw4, rfl⟩
          · obtain rfl : n4 = 0 := by omega
            have hfin0 := hend4.out
            rw [List.take_zero, List.foldl_nil] at hfin0
            obtain ⟨x1, a, x2, bb, q1', q2', q3', f1, f2, f3, f4', f5, f6, f7, f8, _, _⟩ := aval_facts h hh4.out
            generalize aval3 (aval2 (aval1 h)) = fin at f8 hfin0
            have Hfin := Lib.hid hfin0
            clear hfin0 hend4
            go_wp2
            go_ret
            exact ⟨by rw [Hfin.out]; rfl, hkx _⟩
      · have hend' : xxh T = aval3 (aval2 (aval1 ((bf.take n2).foldl by1 h2))) := by rw [hend.out, tail4, if_neg (by omega), end4, if_neg (by omega)]
        replace hend := Lib.hid hend'
        have hn4d : decide ((4 : Int) ≤ (n2 : Int)) = false := decide_eq_false (by omega)
        clear hend' hlt2 hbl2'
        go_wp2
        go_loopg [3, 4, 5] (n2 + 1) (fun gg hv lv bv wr => ∃ (n4 f4 q4 : Nat) (bf4 : List Nat) (h : Nat), n4 < gg ∧ hv = .int .u64 h ∧ lv = .int .u64 n4 ∧ bv = .slice (some ⟨b, f4, none⟩) q4 q4 ∧ n4 < q4 ∧ q4 ≤ 32 ∧ Sl WX (· = b) (some ⟨b, f4, none⟩) (u8s bf4) ∧ Hid (q4 = bf4.length) ∧
          Hid (Bytes bf4) ∧ Hid (U64 h) ∧ Hid (xxh T = aval3 (aval2 (aval1 ((bf4.take n4).foldl by1 h)))) ∧ ∃ m, wr = WX.drewN m)
        case atStart => exact ⟨n2, f, q, bf, h2, by omega, rfl, rfl, rfl, by omega, by omega, hs2, hl2.out, hb2.out, hh2.out, hend.out, mw, rfl⟩
        case round =>
          obtain ⟨n4, f4, q4, bf4, h, t1, rfl, rfl, rfl, t5, t6, hs4, hl4, hb4, hh4, hend4, mw4, rfl⟩ := hrel
          by_cases hk : 0 < n4
          · obtain ⟨g9, o9, x, hg9, ho9, hcx, hxk⟩ := (hs4.drewN mw4).u8 (k := 0) (show 0 < bf4.length by rw [← hl4.out]; omega)
            simp only [Option.some.injEq, Addr.mk.injEq] at ho9
            obtain ⟨rfl, rfl, _⟩ := ho9
            rw [Nat.add_zero] at hcx
            have hx256 := hb4.out x (List.mem_of_getElem? hxk.out)
            obtain ⟨y, z, f1, f2, f3, f5⟩ := by1_facts h x hh4.out
            have hrl := rot_lt (k := 11) f3
            have hrot := rotate_any z 11 f3 (by decide) (by decide)
            have hstep : xxh T = aval3 (aval2 (aval1 (((bf4.drop 1).take (n4 - 1)).foldl by1 (by1 h x)))) := by
              have e : bf4.take n4 = x :: (bf4.drop 1).take (n4 - 1) := by
                obtain ⟨n5, rfl⟩ : ∃ n5, n4 = n5 + 1 := ⟨n4 - 1, by omega⟩
                cases bf4 with
                | nil => simp at hxk; have := hxk.out; simp at this
                | cons y r =>
                  have := hxk.out
                  simp at this
                  subst this
                  simp
              rw [hend4.out, e, List.foldl_cons]
            have hlt := by1_lt h x
            generalize by1 h x = h' at f5 hstep hlt
            generalize rot z 11 = ro at f5 hrl hrot
            have hs5 : Sl WX (· = b) (some ⟨b, f4 + 1, none⟩) (u8s (bf4.drop 1)) := hs4.cut' 1
            have hq1 : ¬ q4 = 1 := by omega
            have hq1i : (1 : Int) ≤ (q4 : Int) := by omega
            have hq0 : 0 < q4 := by omega
            have hn1i : (1 : Int) ≤ (n4 : Int) := by omega
            have Hstep := Lib.hid hstep
            have Hlt := Lib.hid hlt
            have Hrot := Lib.hid hrot
            clear hstep hlt hrot f3 hrl
            go_wp2_with (go_at_call 26; refine (Hrot.out _).mono ?_; rintro e w9 ⟨rfl, rfl⟩)
            go_roundg n4
            case measure => exact t1
            case rel => exact ⟨n4 - 1, f4 + 1, q4 - 1, bf4.drop 1, h', by omega, rfl, by congr 1; omega, rfl, by omega, by omega, hs5, by show _ = _; rw [List.length_drop, ← hl4.out], hb4.out.drop 1, Hlt.out, Hstep.out, mw4, rfl⟩
          · obtain rfl : n4 = 0 := by omega
            have hfin0 := hend4.out
            rw [List.take_zero, List.foldl_nil] at hfin0
            obtain ⟨x1, a, x2, bb, q1', q2', q3', f1, f2, f3, f4', f5, f6, f7, f8, _, _⟩ := aval_facts h hh4.out
            generalize aval3 (aval2 (aval1 h)) = fin at f8 hfin0
            have Hfin := Lib.hid hfin0
            clear hfin0 hend4
            go_wp2
            go_ret
            exact ⟨by rw [Hfin.out]; rfl, hkx _⟩

/-- The checksum's value. -/
theorem digest_any (b : Nat) (T : List Nat) (w : World) (hx : XH w b T) (hbig : T.length ≤ 2097152) :
    Calls Try.prog 40 #[.pointer (some ⟨b, 0, none⟩)] w fun e w' => e = .returned (.int .u64 (xxh T : Nat)) ∧ ∃ m, w' = w.drewN m := by
  by_cases h : T.length < 32
  · exact digest_small b T w hx hbig h
  · exact digest_big b T w hx hbig (by omega)
end Go.Proofs.Ytabaholflahepaa
