/-
  Contracts of spec.shareBytes, spec.Told: shares are told as the plain law says.
-/
import Derived.Test.YtabaholflahepaaDoorToldA
namespace Go.Proofs.YtabaholflahepaaDoor
open Go.RowKit

/-- Two bits more of a field. -/
theorem LB.field {w : World} {b base k n v : Nat} {fs : List (Nat × Nat)} (h : LB w b base (k + n) (bitsAll fs ++ loBits v n)) : LB w b base (k + n) (bitsAll (fs ++ [(v, n)])) := by
  rw [bitsAll_append, bitsAll_one]; exact h

/-- What spec.shareBytes hands back. -/
def ToldPost (w : World) (fs : List (Nat × Nat)) (e : Ending) (w' : World) : Prop :=
  ∃ g zs, List.length zs = (flen fs + 7) / 8 ∧ e = .returned (.slice (some ⟨g, 0, none⟩) ((flen fs + 7) / 8) ((flen fs + 7) / 8)) ∧ w.heap.size ≤ g ∧ Blk w' g 5 (u8s zs) ∧ Bytes zs ∧ num zs = fnum fs ∧ Kept w w'

theorem lead_hit {ps : List Int} {i z : Nat} (hi : i + z < ps.length) (hz : z ≤ lead (ps.drop i)) : (ps.getD (i + z) 0 = 0) ↔ z < lead (ps.drop i) := by
  have h1 := lead_drop (ps.drop i) z hz
  rw [List.drop_drop] at h1
  have h2 : ps.drop (i + z) = ps.getD (i + z) 0 :: ps.drop (i + z + 1) := by
    rw [List.drop_eq_getElem_cons hi, List.getD_eq_getElem?_getD, List.getElem?_eq_getElem hi]; rfl
  rw [h2, lead] at h1
  split at h1
  · rename_i h; rw [h]; constructor
    · intro _; omega
    · intro _; rfl
  · rename_i h; constructor
    · intro h'; exact absurd h' h
    · intro h'; omega

set_option maxHeartbeats 8000000 in
set_option maxRecDepth 4000 in
theorem shareBytes_any {R : Nat → Prop} (A : Option Addr) (n c L : Nat) (ps : List Int) (hn : n = ps.length) (w : World) (hs : Sl w R A (i64s ps)) (h : Rest ps (2 ^ L)) (h5 : 5 ≤ L) (h9 : L ≤ 9) (hlen : ps.length ≤ 256) :
    Calls Tryd.prog 59 #[.slice A n c, .int .i64 L] w (ToldPost w (told L ps)) := by
  obtain ⟨Z, hZ⟩ : ∃ Z, Z = 2 ^ L := ⟨_, rfl⟩
  have hZi : (2 : Int) ^ L = (Z : Int) := by rw [two_pow_int, hZ]
  have hZ9 : Z ≤ 512 := by rw [hZ]; exact Nat.pow_le_pow_right (by decide) h9
  obtain ⟨l5, hl5e⟩ : ∃ l5, l5 = L - 5 := ⟨_, rfl⟩
  have hfit := told_fits h5 h9 h
  have htl : told L ps = (l5, 4) :: encs false Z ps := by rw [told, ← hZ, hl5e]
  have hn256 : n ≤ 256 := by rw [hn]; exact hlen
  rw [← hZ] at h
  obtain ⟨b, hbe⟩ : ∃ b, b = w.heap.size := ⟨_, rfl⟩
  obtain ⟨W, hW⟩ : ∃ W, W = w.alloc (.cells #[.slice none 0 0] 190) := ⟨_, rfl⟩
  have hb0 : LB W b w.heap.size 0 [] := ⟨none, 0, by rw [hW, hbe]; exact Blk.new w 190 _, rfl, World.ownsRow_nil _ _ _ _⟩
  have hk0 : Keep (w.heap.size ≤ ·) w W := by rw [hW]; exact (Keep.refl _ _).alloc _
  have hwb : w.heap.size ≤ b := by omega
  have h82 := lbAdd_any b w.heap.size l5 4 0 [] W hb0 hwb (by decide) (by omega) (by omega)
  have hl5 : (L : Int) - 5 = (l5 : Int) := by omega
  have Hbe := Lib.hid hbe
  have HW := Lib.hid hW.symm
  have H82 := Lib.hid h82
  have Hfit := Lib.hid hfit
  have Htl := Lib.hid htl
  have H := Lib.hid h
  have Hn := Lib.hid hn
  have hfl : flen (told L ps) ≤ 4096 := by
    have := encs_len _ false Z ps (Nat.lt_succ_self _) hZ9
    rw [htl, flen_cons]
    simp only [Bool.false_eq_true, if_false] at this
    simp only
    omega
  have Hfl := Lib.hid hfl
  clear hbe hW h82 hfit htl h hn hb0 hfl hZ hl5e
  go_enter Tryd.func59, Tryd.ntmps59
  go_wp2_with fail
  rw [HW.out, ← Hbe.out]
  (refine H82.out.mono ?_; rintro e w1 ⟨rfl, hb1, hk1⟩)
  rw [List.nil_append, Nat.zero_add, ← bitsAll_one] at hb1
  have hkw := hk0.trans hk1
  clear hk0 hk1 H82
  go_wp2
  go_loopg [6, 7] (n + 1) (fun g s6 s7 wr => ∃ (i left k : Nat) (fs : List (Nat × Nat)), n - i < g ∧ i ≤ n ∧ left ≤ 512 ∧ s6 = .int .i64 left ∧ s7 = .int .i64 i ∧ k ≤ 8192 ∧ Hid (fs ++ encs false left (ps.drop i) = told L ps) ∧ Hid (Rest (ps.drop i) left) ∧ Hid (k = flen fs) ∧
    LB wr b w.heap.size k (bitsAll fs) ∧ Keep (w.heap.size ≤ ·) w wr)
  case atStart => exact ⟨0, Z, 4, [(l5, 4)], by omega, by omega, hZ9, rfl, rfl, by omega, by rw [Htl.out]; rfl, H.out, rfl, hb1, hkw⟩
  case round =>
    clear hb1 hkw
    obtain ⟨i, left, k, fs, q1, q2, q3, rfl, rfl, q4, q5, q6, q7, qb, qk⟩ := hrel
    by_cases hlt : i < n
    · obtain ⟨ga, oa, p, hRa, rfl, hcx, hxk⟩ := (hs.keep qk (fun j hj hR h => by omega)).i64 (show i < ps.length by rw [← Hn.out]; exact hlt)
      have hdr : ps.drop i = p :: ps.drop (i + 1) := by
        have hx := hxk.out
        obtain ⟨hi, hx⟩ := List.getElem?_eq_some_iff.1 hx
        rw [List.drop_eq_getElem_cons hi, hx]
      have hrest := q6.out
      have henc := q5.out
      rw [hdr] at hrest henc
      rw [encs_cons] at henc
      obtain ⟨hl0, hp1, hp2, hp3, hrr⟩ := hrest.step
      have hcf := codeV_fits hp2
      -- the code's numbers
      obtain ⟨K, hK⟩ : ∃ K, K = vk left := ⟨_, rfl⟩
      obtain ⟨N2, hN2⟩ : ∃ x, x = 2 ^ K := ⟨_, rfl⟩
      have hk1 := vk_low left
      have hk2 := vk_high left
      rw [← hK, ← hN2] at hk1
      rw [← hK, Nat.pow_succ, ← hN2] at hk2
      have hk9 : K ≤ 9 := by
        rcases Nat.lt_or_ge 9 K with h | h
        · have : 2 ^ 10 ≤ N2 := hN2 ▸ Nat.pow_le_pow_right (by decide) h
          omega
        · exact h
      obtain ⟨F, hF⟩ : ∃ F, F = vfew left := ⟨_, rfl⟩
      have hF2 : F + left + 2 = 2 * N2 := by rw [hF, hN2, hK]; exact vfew_eq left
      obtain ⟨V, hV⟩ : ∃ V : Nat, V = (p + 1).toNat := ⟨_, rfl⟩
      have hVi : p + 1 = (V : Int) := by omega
      have hVl : V ≤ left + 1 := by omega
      have hcode : codeV left p = if V < F then (V, K) else if V < N2 then (V, K + 1) else (V + F, K + 1) := by
        rw [codeV, ← hV, ← hF, ← hK, ← hN2]
      have hq : ∀ j, j ≤ K → ∃ q : Nat, 0 < q ∧ ((left : Int) + 1) / 2 ^ j = (q : Int) := by
        intro j hj
        have h1 : 2 ^ j ≤ left + 1 := Nat.le_trans (Nat.pow_le_pow_right (by decide) hj) (hN2 ▸ hk1)
        refine ⟨(left + 1) / 2 ^ j, Nat.div_pos h1 (pow_pos' _), ?_⟩
        rw [← cast_div_pow]; rfl
      have hp2e : (2 : Int) ^ K = (N2 : Int) := by rw [two_pow_int, hN2]
      have hp3e : (2 : Int) ^ (K + 1) = ((2 * N2 : Nat) : Int) := by rw [two_pow_int, Nat.pow_succ, ← hN2, Nat.mul_comm]
      have hq0 : ((left : Int) + 1) / (2 * (N2 : Int)) = 0 := Int.ediv_eq_zero_of_lt (by omega) (by omega)
      obtain ⟨l2, hl2⟩ : ∃ l2, l2 = left - p.natAbs := ⟨_, rfl⟩
      have hmx : (left : Int) - max p (-p) = (l2 : Int) := by omega
      have hl2b : l2 ≤ 512 := by omega
      have hfew : (2 : Int) * (N2 : Int) - 1 - ((left : Int) + 1) = (F : Int) := by omega
      have hpb : p ≤ 512 := by omega
      rw [← hl2] at henc hrr
      have Hq := Lib.hid hq
      have Hcode := Lib.hid hcode
      have Hcf := Lib.hid hcf
      have Henc := Lib.hid henc
      have Hrr := Lib.hid hrr
      have Hdr := Lib.hid hdr
      clear hq hcode hcf henc hrr hdr hrest hF hK hN2 hV hl2 hF2 q5 q6
      go_wp2
      go_loopg [10] (K + 3) (fun g nn wr2 => ∃ j : Nat, K + 2 - j < g ∧ j ≤ K + 1 ∧ nn = .int .i64 j ∧ wr = wr2)
      case atStart => exact ⟨0, by omega, by omega, rfl, rfl⟩
      case round =>
        obtain ⟨j, r1, r2, rfl, rfl⟩ := hrel
        by_cases hj : j ≤ K
        · obtain ⟨q, hq1, hq2⟩ := Hq.out j hj
          clear hp2e hp3e
          go_wp2
          go_roundg (K + 2 - j)
          case measure => exact r1
          case rel => exact ⟨j + 1, by omega, by omega, rfl, rfl⟩
        · obtain rfl : j = K + 1 := by omega
          clear r1 r2 hj
          by_cases hc1 : V < F
          · have hcv : codeV left p = (V, K) := by rw [Hcode.out, if_pos hc1]
            have h82 := lbAdd_any b w.heap.size V K k (bitsAll fs) wr qb hwb (by omega) (by omega) (by omega)
            have henc := Henc.out
            rw [hcv] at henc
            have hkb : k + K ≤ 4096 := by
              have h1 := congrArg flen henc
              rw [flen_append, flen_cons, ← q7.out] at h1
              have h2 := Hfl.out
              simp only at h1
              omega
            have H82 := Lib.hid h82
            have Henc2 := Lib.hid henc
            clear h82 henc hcv
            by_cases hp0 : p = 0
            · subst hp0
              have hd0 : ((0 : Int) != 0) = false := by decide
              go_wp2_with (go_at_call 82; refine H82.out.mono ?_; rintro e w2 ⟨rfl, hb2, hk2⟩; have hb3 := hb2.field; have hk3 := qk.trans hk2)
              clear hb2 hk2 qb qk H82
              obtain ⟨zl, hzl⟩ : ∃ zl, zl = lead (ps.drop (i + 1)) := ⟨_, rfl⟩
              have hzle : i + 1 + zl ≤ n := by
                have := lead_le (ps.drop (i + 1))
                rw [List.length_drop, ← Hn.out] at this
                omega
              have Hzl := Lib.hid hzl
              clear hzl
              go_loopg [12] (zl + 2) (fun g s12 wr2 => ∃ z : Nat, zl - z < g ∧ z ≤ zl ∧ s12 = .int .i64 z ∧ w2 = wr2)
              case atStart => exact ⟨0, by omega, by omega, rfl, rfl⟩
              case round =>
                obtain ⟨z, r1, r2, rfl, rfl⟩ := hrel
                by_cases hz : z < zl
                · have hin : i + 1 + z < ps.length := by rw [← Hn.out]; omega
                  obtain ⟨g9, o9, p9, _, hA9, hc9, hx9⟩ := (hs.keep hk3 (fun j hj hR h => by omega)).i64 hin
                  simp only [Option.some.injEq, Addr.mk.injEq] at hA9
                  obtain ⟨rfl, rfl, _⟩ := hA9
                  have hp9 : p9 = 0 := by
                    have h1 := (lead_hit hin (by rw [← Hzl.out]; omega)).2 (by rw [← Hzl.out]; exact hz)
                    rw [List.getD_eq_getElem?_getD, hx9.out] at h1
                    exact h1
                  subst hp9
                  have hin2 : i + 1 + z < n := by omega
                  have hidx : ((i : Int) + 1 + (z : Int)).toNat = i + 1 + z := by omega
                  clear hin
                  go_wp2
                  go_roundg (zl - z)
                  case measure => exact r1
                  case rel => exact ⟨z + 1, by omega, by omega, rfl, rfl⟩
                · obtain rfl : z = zl := by omega
                  clear r1 r2 hz
                  have henc3 := Henc2.out
                  rw [show ((0 : Int) == 0) = true from rfl, encs_run z _ Hzl.out.symm, List.drop_drop] at henc3
                  have hrr3 := Hrr.out.zeros z (by rw [← Hzl.out]; exact Nat.le_refl _)
                  rw [List.drop_drop] at hrr3
                  have Henc3 := Lib.hid henc3
                  have Hrr3 := Lib.hid hrr3
                  have hz256 : z ≤ 256 := by omega
                  clear henc3 hrr3 Henc2 Hrr
                  have hend : (i + 1 + z = n) ∨ (i + 1 + z < n ∧ ∃ p9 : Int, p9 ≠ 0 ∧ w2.cell? ⟨ga, oa + (i + 1 + z), none⟩ = some (.int .i64 p9)) := by
                    by_cases hin : i + 1 + z < ps.length
                    · right
                      obtain ⟨g9, o9, p9, _, hA9, hc9, hx9⟩ := (hs.keep hk3 (fun j hj hR h => by omega)).i64 hin
                      simp only [Option.some.injEq, Addr.mk.injEq] at hA9
                      obtain ⟨rfl, rfl, _⟩ := hA9
                      refine ⟨by rw [Hn.out]; exact hin, p9, ?_, hc9⟩
                      rintro rfl
                      have h1 := (lead_hit hin (by rw [← Hzl.out]; exact Nat.le_refl _)).1 (by rw [List.getD_eq_getElem?_getD, hx9.out]; rfl)
                      rw [← Hzl.out] at h1
                      omega
                    · left
                      have := Hn.out
                      omega
                  rcases hend with hend | ⟨hend, p9, hp9, hc9⟩
                  · have hne : ¬ i + 1 + z < n := by omega
                    go_wp2
                    go_loopg [12] (z + 1) (fun g s12 wr2 => ∃ m r : Nat, r < g ∧ 3 * m + r = z ∧ s12 = .int .i64 r ∧ LB wr2 b w.heap.size (k + K + 2 * m) (bitsAll (fs ++ (V, K) :: List.replicate m (3, 2))) ∧ Keep (w.heap.size ≤ ·) w wr2)
                    case atStart => exact ⟨0, z, by omega, by omega, rfl, hb3, hk3⟩
                    case round =>
                      clear hb3 hk3
                      obtain ⟨m, r, r1, r2, rfl, rb', rk⟩ := hrel
                      by_cases hr3 : 3 ≤ r
                      · have h82 := lbAdd_any b w.heap.size 3 2 _ _ wr rb' hwb (by decide) (by decide) (by omega)
                        have H82 := Lib.hid h82
                        clear h82
                        go_wp2_with (go_at_call 82; refine H82.out.mono ?_; rintro e w4 ⟨rfl, hb4, hk4⟩; have hb5 := hb4.field; have hk5 := rk.trans hk4)
                        go_roundg r
                        case measure => exact r1
                        case rel => exact ⟨m + 1, r - 3, by omega, by omega, (by first | rfl | (congr 1; omega)), (by rw [List.append_assoc, List.cons_append, ← List.replicate_succ'] at hb5; exact hb5), hk5⟩
                      · have hm : m = z / 3 := by omega
                        have hr : r = z % 3 := by omega
                        have h82 := lbAdd_any b w.heap.size r 2 _ _ wr rb' hwb (by decide) (by omega) (by omega)
                        have H82 := Lib.hid h82
                        have Hm := Lib.hid hm
                        have Hr := Lib.hid hr
                        clear h82 hm hr
                        go_wp2_with (go_at_call 82; refine H82.out.mono ?_; rintro e w4 ⟨rfl, hb4, hk4⟩; have hb5 := hb4.field; have hk5 := rk.trans hk4)
                        go_roundg (n - i)
                        case measure => exact q1
                        case rel =>
                          refine ⟨i + z + 1, l2, k + K + 2 * m + 2, (fs ++ (V, K) :: List.replicate m (3, 2)) ++ [(r, 2)], by omega, by omega, hl2b, (by congr 1 <;> omega), (by first | rfl | (congr 1; omega)), by omega, ?_, ?_, ?_, hb5, hk5⟩
                          · show _ = _
                            rw [← Henc3.out, Hm.out, Hr.out]
                            simp only [List.append_assoc, List.cons_append, List.nil_append]
                            rw [show i + z + 1 = i + 1 + z by omega]
                          · show Rest _ _
                            rw [show i + z + 1 = i + 1 + z by omega]
                            exact Hrr3.out
                          · show _ = _
                            rw [flen_append, flen_append, flen_cons, ← q7.out]
                            simp [flen]
                            omega
                  · have hp9b : (p9 == 0) = false := beq_eq_false_iff_ne.2 hp9
                    have hidx : ((i : Int) + 1 + (z : Int)).toNat = i + 1 + z := by omega
                    go_wp2
                    go_loopg [12] (z + 1) (fun g s12 wr2 => ∃ m r : Nat, r < g ∧ 3 * m + r = z ∧ s12 = .int .i64 r ∧ LB wr2 b w.heap.size (k + K + 2 * m) (bitsAll (fs ++ (V, K) :: List.replicate m (3, 2))) ∧ Keep (w.heap.size ≤ ·) w wr2)
                    case atStart => exact ⟨0, z, by omega, by omega, rfl, hb3, hk3⟩
                    case round =>
                      clear hb3 hk3
                      obtain ⟨m, r, r1, r2, rfl, rb', rk⟩ := hrel
                      by_cases hr3 : 3 ≤ r
                      · have h82 := lbAdd_any b w.heap.size 3 2 _ _ wr rb' hwb (by decide) (by decide) (by omega)
                        have H82 := Lib.hid h82
                        clear h82
                        go_wp2_with (go_at_call 82; refine H82.out.mono ?_; rintro e w4 ⟨rfl, hb4, hk4⟩; have hb5 := hb4.field; have hk5 := rk.trans hk4)
                        go_roundg r
                        case measure => exact r1
                        case rel => exact ⟨m + 1, r - 3, by omega, by omega, (by first | rfl | (congr 1; omega)), (by rw [List.append_assoc, List.cons_append, ← List.replicate_succ'] at hb5; exact hb5), hk5⟩
                      · have hm : m = z / 3 := by omega
                        have hr : r = z % 3 := by omega
                        have h82 := lbAdd_any b w.heap.size r 2 _ _ wr rb' hwb (by decide) (by omega) (by omega)
                        have H82 := Lib.hid h82
                        have Hm := Lib.hid hm
                        have Hr := Lib.hid hr
                        clear h82 hm hr
                        go_wp2_with (go_at_call 82; refine H82.out.mono ?_; rintro e w4 ⟨rfl, hb4, hk4⟩; have hb5 := hb4.field; have hk5 := rk.trans hk4)
                        go_roundg (n - i)
                        case measure => exact q1
                        case rel =>
                          refine ⟨i + z + 1, l2, k + K + 2 * m + 2, (fs ++ (V, K) :: List.replicate m (3, 2)) ++ [(r, 2)], by omega, by omega, hl2b, (by congr 1 <;> omega), (by first | rfl | (congr 1; omega)), by omega, ?_, ?_, ?_, hb5, hk5⟩
                          · show _ = _
                            rw [← Henc3.out, Hm.out, Hr.out]
                            simp only [List.append_assoc, List.cons_append, List.nil_append]
                            rw [show i + z + 1 = i + 1 + z by omega]
                          · show Rest _ _
                            rw [show i + z + 1 = i + 1 + z by omega]
                            exact Hrr3.out
                          · show _ = _
                            rw [flen_append, flen_append, flen_cons, ← q7.out]
                            simp [flen]
                            omega
            · have hd0 : (p != 0) = true := by rw [bne_iff_ne]; exact hp0
              have hp0b : (p == 0) = false := beq_eq_false_iff_ne.2 hp0
              go_wp2_with (go_at_call 82; refine H82.out.mono ?_; rintro e w2 ⟨rfl, hb2, hk2⟩; have hb3 := hb2.field; have hk3 := qk.trans hk2)
              go_roundg (n - i)
              case measure => exact q1
              case rel => exact ⟨i + 1, l2, k + K, fs ++ [(V, K)], by omega, by omega, hl2b, rfl, rfl, (by omega), (by show _ = _; rw [← Henc2.out, hp0b, List.append_assoc]; rfl), Hrr.out, (by show _ = _; rw [flen_append, ← q7.out]; rfl), hb3, hk3⟩
          · by_cases hc2 : V < N2
            · have hcv : codeV left p = (V, K + 1) := by rw [Hcode.out, if_neg hc1, if_pos hc2]
              have h82 := lbAdd_any b w.heap.size V (K + 1) k (bitsAll fs) wr qb hwb (by omega) (by omega) (by omega)
              have henc := Henc.out
              rw [hcv] at henc
              have hkb : k + (K + 1) ≤ 4096 := by
                have h1 := congrArg flen henc
                rw [flen_append, flen_cons, ← q7.out] at h1
                have h2 := Hfl.out
                simp only at h1
                omega
              have H82 := Lib.hid h82
              have Henc2 := Lib.hid henc
              clear h82 henc hcv
              by_cases hp0 : p = 0
              · subst hp0
                have hd0 : ((0 : Int) != 0) = false := by decide
                go_wp2_with (go_at_call 82; refine H82.out.mono ?_; rintro e w2 ⟨rfl, hb2, hk2⟩; have hb3 := hb2.field; have hk3 := qk.trans hk2)
                clear hb2 hk2 qb qk H82
                obtain ⟨zl, hzl⟩ : ∃ zl, zl = lead (ps.drop (i + 1)) := ⟨_, rfl⟩
                have hzle : i + 1 + zl ≤ n := by
                  have := lead_le (ps.drop (i + 1))
                  rw [List.length_drop, ← Hn.out] at this
                  omega
                have Hzl := Lib.hid hzl
                clear hzl
                go_loopg [12] (zl + 2) (fun g s12 wr2 => ∃ z : Nat, zl - z < g ∧ z ≤ zl ∧ s12 = .int .i64 z ∧ w2 = wr2)
                case atStart => exact ⟨0, by omega, by omega, rfl, rfl⟩
                case round =>
                  obtain ⟨z, r1, r2, rfl, rfl⟩ := hrel
                  by_cases hz : z < zl
                  · have hin : i + 1 + z < ps.length := by rw [← Hn.out]; omega
                    obtain ⟨g9, o9, p9, _, hA9, hc9, hx9⟩ := (hs.keep hk3 (fun j hj hR h => by omega)).i64 hin
                    simp only [Option.some.injEq, Addr.mk.injEq] at hA9
                    obtain ⟨rfl, rfl, _⟩ := hA9
                    have hp9 : p9 = 0 := by
                      have h1 := (lead_hit hin (by rw [← Hzl.out]; omega)).2 (by rw [← Hzl.out]; exact hz)
                      rw [List.getD_eq_getElem?_getD, hx9.out] at h1
                      exact h1
                    subst hp9
                    have hin2 : i + 1 + z < n := by omega
                    have hidx : ((i : Int) + 1 + (z : Int)).toNat = i + 1 + z := by omega
                    clear hin
                    go_wp2
                    go_roundg (zl - z)
                    case measure => exact r1
                    case rel => exact ⟨z + 1, by omega, by omega, rfl, rfl⟩
                  · obtain rfl : z = zl := by omega
                    clear r1 r2 hz
                    have henc3 := Henc2.out
                    rw [show ((0 : Int) == 0) = true from rfl, encs_run z _ Hzl.out.symm, List.drop_drop] at henc3
                    have hrr3 := Hrr.out.zeros z (by rw [← Hzl.out]; exact Nat.le_refl _)
                    rw [List.drop_drop] at hrr3
                    have Henc3 := Lib.hid henc3
                    have Hrr3 := Lib.hid hrr3
                    have hz256 : z ≤ 256 := by omega
                    clear henc3 hrr3 Henc2 Hrr
                    have hend : (i + 1 + z = n) ∨ (i + 1 + z < n ∧ ∃ p9 : Int, p9 ≠ 0 ∧ w2.cell? ⟨ga, oa + (i + 1 + z), none⟩ = some (.int .i64 p9)) := by
                      by_cases hin : i + 1 + z < ps.length
                      · right
                        obtain ⟨g9, o9, p9, _, hA9, hc9, hx9⟩ := (hs.keep hk3 (fun j hj hR h => by omega)).i64 hin
                        simp only [Option.some.injEq, Addr.mk.injEq] at hA9
                        obtain ⟨rfl, rfl, _⟩ := hA9
                        refine ⟨by rw [Hn.out]; exact hin, p9, ?_, hc9⟩
                        rintro rfl
                        have h1 := (lead_hit hin (by rw [← Hzl.out]; exact Nat.le_refl _)).1 (by rw [List.getD_eq_getElem?_getD, hx9.out]; rfl)
                        rw [← Hzl.out] at h1
                        omega
                      · left
                        have := Hn.out
                        omega
                    rcases hend with hend | ⟨hend, p9, hp9, hc9⟩
                    · have hne : ¬ i + 1 + z < n := by omega
                      go_wp2
                      go_loopg [12] (z + 1) (fun g s12 wr2 => ∃ m r : Nat, r < g ∧ 3 * m + r = z ∧ s12 = .int .i64 r ∧ LB wr2 b w.heap.size (k + (K + 1) + 2 * m) (bitsAll (fs ++ (V, (K + 1)) :: List.replicate m (3, 2))) ∧ Keep (w.heap.size ≤ ·) w wr2)
                      case atStart => exact ⟨0, z, by omega, by omega, rfl, hb3, hk3⟩
                      case round =>
                        clear hb3 hk3
                        obtain ⟨m, r, r1, r2, rfl, rb', rk⟩ := hrel
                        by_cases hr3 : 3 ≤ r
                        · have h82 := lbAdd_any b w.heap.size 3 2 _ _ wr rb' hwb (by decide) (by decide) (by omega)
                          have H82 := Lib.hid h82
                          clear h82
                          go_wp2_with (go_at_call 82; refine H82.out.mono ?_; rintro e w4 ⟨rfl, hb4, hk4⟩; have hb5 := hb4.field; have hk5 := rk.trans hk4)
                          go_roundg r
                          case measure => exact r1
                          case rel => exact ⟨m + 1, r - 3, by omega, by omega, (by first | rfl | (congr 1; omega)), (by rw [List.append_assoc, List.cons_append, ← List.replicate_succ'] at hb5; exact hb5), hk5⟩
                        · have hm : m = z / 3 := by omega
                          have hr : r = z % 3 := by omega
                          have h82 := lbAdd_any b w.heap.size r 2 _ _ wr rb' hwb (by decide) (by omega) (by omega)
                          have H82 := Lib.hid h82
                          have Hm := Lib.hid hm
                          have Hr := Lib.hid hr
                          clear h82 hm hr
                          go_wp2_with (go_at_call 82; refine H82.out.mono ?_; rintro e w4 ⟨rfl, hb4, hk4⟩; have hb5 := hb4.field; have hk5 := rk.trans hk4)
                          go_roundg (n - i)
                          case measure => exact q1
                          case rel =>
                            refine ⟨i + z + 1, l2, k + (K + 1) + 2 * m + 2, (fs ++ (V, (K + 1)) :: List.replicate m (3, 2)) ++ [(r, 2)], by omega, by omega, hl2b, (by congr 1 <;> omega), (by first | rfl | (congr 1; omega)), by omega, ?_, ?_, ?_, hb5, hk5⟩
                            · show _ = _
                              rw [← Henc3.out, Hm.out, Hr.out]
                              simp only [List.append_assoc, List.cons_append, List.nil_append]
                              rw [show i + z + 1 = i + 1 + z by omega]
                            · show Rest _ _
                              rw [show i + z + 1 = i + 1 + z by omega]
                              exact Hrr3.out
                            · show _ = _
                              rw [flen_append, flen_append, flen_cons, ← q7.out]
                              simp [flen]
                              omega
                    · have hp9b : (p9 == 0) = false := beq_eq_false_iff_ne.2 hp9
                      have hidx : ((i : Int) + 1 + (z : Int)).toNat = i + 1 + z := by omega
                      go_wp2
                      go_loopg [12] (z + 1) (fun g s12 wr2 => ∃ m r : Nat, r < g ∧ 3 * m + r = z ∧ s12 = .int .i64 r ∧ LB wr2 b w.heap.size (k + (K + 1) + 2 * m) (bitsAll (fs ++ (V, (K + 1)) :: List.replicate m (3, 2))) ∧ Keep (w.heap.size ≤ ·) w wr2)
                      case atStart => exact ⟨0, z, by omega, by omega, rfl, hb3, hk3⟩
                      case round =>
                        clear hb3 hk3
                        obtain ⟨m, r, r1, r2, rfl, rb', rk⟩ := hrel
                        by_cases hr3 : 3 ≤ r
                        · have h82 := lbAdd_any b w.heap.size 3 2 _ _ wr rb' hwb (by decide) (by decide) (by omega)
                          have H82 := Lib.hid h82
                          clear h82
                          go_wp2_with (go_at_call 82; refine H82.out.mono ?_; rintro e w4 ⟨rfl, hb4, hk4⟩; have hb5 := hb4.field; have hk5 := rk.trans hk4)
                          go_roundg r
                          case measure => exact r1
                          case rel => exact ⟨m + 1, r - 3, by omega, by omega, (by first | rfl | (congr 1; omega)), (by rw [List.append_assoc, List.cons_append, ← List.replicate_succ'] at hb5; exact hb5), hk5⟩
                        · have hm : m = z / 3 := by omega
                          have hr : r = z % 3 := by omega
                          have h82 := lbAdd_any b w.heap.size r 2 _ _ wr rb' hwb (by decide) (by omega) (by omega)
                          have H82 := Lib.hid h82
                          have Hm := Lib.hid hm
                          have Hr := Lib.hid hr
                          clear h82 hm hr
                          go_wp2_with (go_at_call 82; refine H82.out.mono ?_; rintro e w4 ⟨rfl, hb4, hk4⟩; have hb5 := hb4.field; have hk5 := rk.trans hk4)
                          go_roundg (n - i)
                          case measure => exact q1
                          case rel =>
                            refine ⟨i + z + 1, l2, k + (K + 1) + 2 * m + 2, (fs ++ (V, (K + 1)) :: List.replicate m (3, 2)) ++ [(r, 2)], by omega, by omega, hl2b, (by congr 1 <;> omega), (by first | rfl | (congr 1; omega)), by omega, ?_, ?_, ?_, hb5, hk5⟩
                            · show _ = _
                              rw [← Henc3.out, Hm.out, Hr.out]
                              simp only [List.append_assoc, List.cons_append, List.nil_append]
                              rw [show i + z + 1 = i + 1 + z by omega]
                            · show Rest _ _
                              rw [show i + z + 1 = i + 1 + z by omega]
                              exact Hrr3.out
                            · show _ = _
                              rw [flen_append, flen_append, flen_cons, ← q7.out]
                              simp [flen]
                              omega
              · have hd0 : (p != 0) = true := by rw [bne_iff_ne]; exact hp0
                have hp0b : (p == 0) = false := beq_eq_false_iff_ne.2 hp0
                go_wp2_with (go_at_call 82; refine H82.out.mono ?_; rintro e w2 ⟨rfl, hb2, hk2⟩; have hb3 := hb2.field; have hk3 := qk.trans hk2)
                go_roundg (n - i)
                case measure => exact q1
                case rel => exact ⟨i + 1, l2, k + (K + 1), fs ++ [(V, (K + 1))], by omega, by omega, hl2b, rfl, rfl, (by omega), (by show _ = _; rw [← Henc2.out, hp0b, List.append_assoc]; rfl), Hrr.out, (by show _ = _; rw [flen_append, ← q7.out]; rfl), hb3, hk3⟩
            · have hcv : codeV left p = (V + F, K + 1) := by rw [Hcode.out, if_neg hc1, if_neg hc2]
              have h82 := lbAdd_any b w.heap.size (V + F) (K + 1) k (bitsAll fs) wr qb hwb (by omega) (by omega) (by omega)
              have henc := Henc.out
              rw [hcv] at henc
              have hkb : k + (K + 1) ≤ 4096 := by
                have h1 := congrArg flen henc
                rw [flen_append, flen_cons, ← q7.out] at h1
                have h2 := Hfl.out
                simp only at h1
                omega
              have H82 := Lib.hid h82
              have Henc2 := Lib.hid henc
              clear h82 henc hcv
              by_cases hp0 : p = 0
              · exfalso
                omega
              · have hd0 : (p != 0) = true := by rw [bne_iff_ne]; exact hp0
                have hp0b : (p == 0) = false := beq_eq_false_iff_ne.2 hp0
                go_wp2_with (go_at_call 82; refine H82.out.mono ?_; rintro e w2 ⟨rfl, hb2, hk2⟩; have hb3 := hb2.field; have hk3 := qk.trans hk2)
                go_roundg (n - i)
                case measure => exact q1
                case rel => exact ⟨i + 1, l2, k + (K + 1), fs ++ [((V + F), (K + 1))], by omega, by omega, hl2b, rfl, rfl, (by omega), (by show _ = _; rw [← Henc2.out, hp0b, List.append_assoc]; rfl), Hrr.out, (by show _ = _; rw [flen_append, ← q7.out]; rfl), hb3, hk3⟩
    · obtain rfl : i = n := by omega
      have hfs : fs = told L ps := by
        rw [← q5.out, Hn.out, List.drop_length, encs_nil, List.append_nil]
      have hfit := Hfit.out
      rw [← hfs] at hfit
      have hkf := q7.out
      have Hfs := Lib.hid hfs
      obtain ⟨A9, c9, hqb, hkl, hqo⟩ := qb
      obtain ⟨nB, hnB⟩ : ∃ nB, nB = (k + 7) / 8 := ⟨_, rfl⟩
      have hnBi : ((k : Int) + 7) / 8 = (nB : Int) := by omega
      have hnBt : ((k : Int) + 7).tdiv 8 = (nB : Int) := by rw [Int.tdiv_eq_ediv_of_nonneg (by omega)]; exact hnBi
      have hnBn : (k + 7) / 8 = nB := hnB.symm
      have hnBc : (((k + 7) / 8 : Nat) : Int) = (nB : Int) := by rw [hnBn]
      have hnBl : nB ≤ 2048 := by omega
      have d0 : wr.cell? ⟨b, 0, none⟩ = some (.slice A9 k c9) := hqb.cell 0
      have HnB := Lib.hid hnB
      have Hkl := Lib.hid hkl
      have Hkf := Lib.hid hkf
      have Hfit2 := Lib.hid hfit
      clear hnB hkl hkf hfit hfs q5 q6 q7
      go_wp2_with (at_make; refine wpList_make rfl _ _ rfl elByte .i64 .i64 nB nB rfl rfl (Nat.le_refl _) (by omega) ?_; intro w1 hk1 hg1; have d1 : w1.cell? ⟨b, 0, none⟩ = some (.slice A9 k c9) := (hqb.kept hk1).cell 0)
      obtain ⟨g, hg⟩ : ∃ g, g = wr.heap.size := ⟨_, rfl⟩
      rw [← hg] at hg1 ⊢
      have hg2 : Blk w1 g 5 (u8s (List.replicate nB 0)) := Blk.cast hg1 (by rw [Nat.mul_one, made_list _ rfl]; simp [u8s])
      have hso : Sl w1 (fun j => w.heap.size ≤ j ∧ j < wr.heap.size) A9 (bools (bitsAll fs)) := (Sl.of_own hqo).kept hk1
      have hwg : w.heap.size ≤ g := by rw [hg]; exact qk.size
      have hkw : Keep (w.heap.size ≤ ·) w w1 := qk.kept hk1
      have Hg := Lib.hid hg
      clear hg hg1 hk1 hqb hqo qk d0 d1
      go_loopg [126] (k + 1) (fun g5 s wr2 => ∃ (j : Nat) (zs : List Nat), k - j < g5 ∧ j ≤ k ∧ s = .int .i64 j ∧ Hid (List.length zs = nB) ∧ Hid (Bytes zs) ∧ Hid (num zs = bnum ((bitsAll fs).take j)) ∧ Blk wr2 g 5 (u8s zs) ∧ Keep (· = g) w1 wr2)
      case atStart => exact ⟨0, List.replicate nB 0, by omega, by omega, rfl, List.length_replicate .., (by intro x hx; rw [List.mem_replicate] at hx; omega), (by show _ = _; rw [num_zeros]; rfl), hg2, Keep.refl _ _⟩
      case round =>
        clear hg2
        obtain ⟨j, zs, r1, r2, rfl, hzl, hzb, hzn, rg, rk⟩ := hrel
        by_cases hj : j < k
        · obtain ⟨x, hx⟩ : ∃ x, (bitsAll fs)[j]? = some x := ⟨_, List.getElem?_eq_getElem (by rw [← Hkl.out]; exact hj)⟩
          obtain ⟨gb, ob, hRb, rfl, hcb⟩ := (hso.keep rk (fun i _ hi h => by have := Hg.out; omega)).at_ (k := j) (u := .bool x) (by rw [bools, List.getElem?_map, hx]; rfl)
          have hpush := bnum_push hx
          rw [← hzn.out] at hpush
          have hlt : num zs < 2 ^ j := by
            have := bnum_lt ((bitsAll fs).take j)
            rw [hzn.out]
            rwa [List.length_take, Nat.min_eq_left (by rw [← Hkl.out]; omega)] at this
          have Hpush := Lib.hid hpush
          clear hpush hx
          cases x with
          | false =>
            go_wp2
            go_roundg (k - j)
            case measure => exact r1
            case rel => exact ⟨j + 1, zs, by omega, by omega, rfl, hzl.out, hzb.out, (by show _ = _; rw [Hpush.out]; simp), rg, rk⟩
          | true =>
            have hjl : j / 8 < zs.length := by rw [hzl.out, HnB.out]; omega
            obtain ⟨y, hy⟩ : ∃ y, zs[j / 8]? = some y := ⟨_, List.getElem?_eq_getElem hjl⟩
            obtain ⟨hs1, hs2, hs3, hs4⟩ := byte_set hzb.out hlt hy
            obtain ⟨q, hq⟩ : ∃ q, q = j / 8 := ⟨_, rfl⟩
            obtain ⟨s, hs⟩ : ∃ s, s = 2 ^ (j % 8) := ⟨_, rfl⟩
            have hor : Go.bits .or .u8 (y : Int) (s : Int) = ((y + s : Nat) : Int) := by
              rw [u8_or_nat y s (by omega) (by rw [hs]; omega), hs, or_two_pow hs2]
            rw [← hs] at hs1 hs2 hs3 hs4
            rw [← hq] at hy hs3 hs4 hjl
            obtain ⟨r, hr⟩ : ∃ r, r = j % 8 := ⟨_, rfl⟩
            rw [← hr] at hs
            have hq1 : (j : Int) / 8 = (q : Int) := by omega
            have hq2 : (j : Int).tdiv 8 = (q : Int) := by rw [Int.tdiv_eq_ediv_of_nonneg (by omega)]; exact hq1
            have hr1 : (j : Int) % 8 = (r : Int) := by omega
            have hr2 : (j : Int).tmod 8 = (r : Int) := by rw [Int.tmod_eq_emod_of_nonneg (by omega)]; exact hr1
            have hsi : (2 : Int) ^ r = (s : Int) := by rw [two_pow_int, hs]
            have hsw : IntKind.u8.wrap (s : Int) = (s : Int) := by rw [IntKind.wrap_u8]; omega
            have e0 : wr.cell? ⟨g, q, none⟩ = some (.int .u8 (y : Int)) := by rw [rg.cell]; simp [u8s, hy]
            have f0 := rg.frozen q
            have hql : q < nB := by have := hzl.out; omega
            have Hs3 := Lib.hid hs3
            have Hs4 := Lib.hid hs4
            clear hs3 hs4 hy hjl hq hr hs hs2 hlt
            go_wp2
            go_region
            go_wp2
            go_roundg (k - j)
            case measure => exact r1
            case rel =>
              refine ⟨j + 1, zs.set q (y + s), by omega, by omega, rfl, (by show _ = _; rw [List.length_set]; exact hzl.out), Hs4.out, ?_, ?_, (rk.set (p := ⟨g, q, none⟩) (.inl rfl) _).drew⟩
              · show _ = _
                rw [Hs3.out, Hpush.out]
                simp
              · refine Blk.cast (rg.set q _).drew ?_
                simp [u8s, List.map_set]
        · obtain rfl : j = k := by omega
          rw [List.take_of_length_le (by rw [← Hkl.out]; exact Nat.le_refl _), bnum_bitsAll Hfit2.out] at hzn
          go_wp2
          go_ret
          rw [← Hfs.out]
          refine ⟨g, zs, by rw [hzl.out, HnB.out, Hkf.out], ?_, hwg, rg, hzb.out, hzn.out, ?_⟩
          · rw [← Hkf.out, ← HnB.out]; rfl
          · exact (hkw.then rk (fun i _ h => by subst h; exact hwg)).mono (fun i hi h => by omega)

theorem told_any {R : Nat → Prop} (A : Option Addr) (n c L : Nat) (ps : List Int) (hn : n = ps.length) (w : World) (hs : Sl w R A (i64s ps)) (h : Rest ps (2 ^ L)) (h5 : 5 ≤ L) (h9 : L ≤ 9) (hlen : ps.length ≤ 256) :
    Calls Tryd.prog 33 #[.slice A n c, .int .i64 L] w (ToldPost w (told L ps)) := by
  have hz := shareBytes_any A n c L ps hn w hs h h5 h9 hlen
  generalize told L ps = fs at hz ⊢
  have Hz := Lib.hid hz
  clear hz hn h
  go_enter Tryd.func33, Tryd.ntmps33
  go_wp2_with (go_at_call 59; refine Hz.out.mono ?_; rintro e w1 ⟨g, zs, h1, rfl, h2, h3, h4, h5, h6⟩)
  go_ret
  exact ⟨g, zs, h1, rfl, h2, h3, h4, h5, h6⟩
end Go.Proofs.YtabaholflahepaaDoor
