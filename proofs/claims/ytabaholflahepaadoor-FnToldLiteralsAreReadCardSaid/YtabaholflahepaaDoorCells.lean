/-
  Contracts: zzCells, impl.cellsOf, cellsAre, spec.Cells, ZZBuild, impl.Build.
-/
import Derived.Test.YtabaholflahepaaDoorBuild
import Derived.Test.YtabaholflahepaaDoorShares
import Derived.Test.YtabaholflahepaaDoorCopies
namespace Go.Proofs.YtabaholflahepaaDoor
open Go.RowKit

theorem elCellI : El Tryd.prog 39 48 (.agg #[.int .i64 0, .int .i64 0, .int .i64 0]) 3 24 := ⟨Tryd.underlying39, by kernel_rfl, rfl, by decide, by decide⟩
theorem elCellZ : El Tryd.prog 97 106 (.agg #[.int .i64 0, .int .i64 0, .int .i64 0]) 3 24 := ⟨Tryd.underlying97, by kernel_rfl, rfl, by decide, by decide⟩
theorem elEntry : El Tryd.prog 151 181 (.agg #[.int .u8 0, .int .u8 0, .int .u16 0]) 3 4 := ⟨Tryd.underlying151, by kernel_rfl, rfl, by decide, by decide⟩
theorem elI16 : El Tryd.prog 172 173 (.int .i16 0) 1 2 := ⟨Tryd.underlying172, by kernel_rfl, rfl, by decide, by decide⟩

/-- The numbers fit an entry. -/
def FitE (c : Nat × Nat × Nat) : Prop := c.1 < 256 ∧ c.2.1 < 256 ∧ c.2.2 < 65536

set_option maxHeartbeats 400000 in
theorem zzCells_any {R : Nat → Prop} (A : Option Addr) (c n : Nat) (xs : List (Nat × Nat × Nat)) (hn : n = xs.length) (w : World) (hs : Sl w R A (flat celE xs)) (hf : ∀ x ∈ xs, FitE x) (hlen : xs.length ≤ 2147483648) :
    Calls Tryd.prog 75 #[.slice A n c] w fun e w' => ∃ A' c', e = .returned (.slice A' xs.length c') ∧ w'.ownsRow w.heap.size 106 3 (.slice A' xs.length c') xs.length (flat cel3 xs) ∧ Kept w w' := by
  subst hn
  go_enter Tryd.func75, Tryd.ntmps75
  go_wp2
  go_loopg [3, 8] (xs.length + 1) (fun g v i wr => ∃ (k : Nat) (A' : Option Addr) (c' : Nat), xs.length - k < g ∧ k ≤ xs.length ∧ i = .int .i64 k ∧ v = .slice A' k c' ∧ wr.ownsRow w.heap.size 106 3 (.slice A' k c') k (flat cel3 (xs.take k)) ∧ Kept w wr)
  case atStart => exact ⟨0, none, 0, by omega, by omega, rfl, rfl, World.ownsRow_nil _ _ _ _, Keep.refl _ _⟩
  case round =>
    obtain ⟨k, A', c', q1, q2, rfl, rfl, qo, qk⟩ := hrel
    by_cases hlt : k < xs.length
    · obtain ⟨g, o, x, hR, rfl, hx, hc⟩ := (hs.kept qk).row celE_length (by decide) hlt
      have hfx := hf x (List.mem_of_getElem? hx.out)
      obtain ⟨x0, x1, x2⟩ := x
      obtain ⟨h0, h1, h2⟩ := hfx
      have c0 : wr.cell? ⟨g, o + k * 3, none⟩ = some (.int .u8 x0) := hc 0 _ rfl
      have c1 : wr.cell? ⟨g, o + k * 3 + 1, none⟩ = some (.int .u8 x1) := hc 1 _ rfl
      have c2 : wr.cell? ⟨g, o + k * 3 + 2, none⟩ = some (.int .u16 x2) := hc 2 _ rfl
      simp only at h0 h1 h2
      clear hc
      go_wp2_with (at_builtin; refine wpList_push rfl _ _ rfl elCellZ (qk.alloc _) A' k c' _ rfl (qo.alloc _) (cel3 (x0, x1, x2)) (by simp [Act.eval]) rfl (by simp [cel3, Value.oneCell']) (by omega) ?_; intro A3 c3 w3 hown3 hk3 _)
      go_roundg (xs.length - k)
      case measure => exact q1
      case rel => exact ⟨k + 1, A3, c3, by omega, by omega, rfl, rfl, by rw [flat_push hx.out]; exact hown3, hk3⟩
    · obtain rfl : k = xs.length := by omega
      rw [List.take_length] at qo
      go_wp2
      go_ret
      exact ⟨A', c', rfl, qo, qk⟩

set_option maxHeartbeats 400000 in
theorem cellsOf_any {R : Nat → Prop} (A : Option Addr) (c n : Nat) (xs : List (Nat × Nat × Nat)) (hn : n = xs.length) (w : World) (hs : Sl w R A (flat cel3 xs)) (hlen : xs.length ≤ 2147483648) :
    Calls Tryd.prog 50 #[.slice A n c] w fun e w' => ∃ A' c', e = .returned (.slice A' xs.length c') ∧ w'.ownsRow w.heap.size 48 3 (.slice A' xs.length c') xs.length (flat cel3 xs) ∧ Kept w w' := by
  subst hn
  go_enter Tryd.func50, Tryd.ntmps50
  go_wp2
  go_loopg [3, 8] (xs.length + 1) (fun g v i wr => ∃ (k : Nat) (A' : Option Addr) (c' : Nat), xs.length - k < g ∧ k ≤ xs.length ∧ i = .int .i64 k ∧ v = .slice A' k c' ∧ wr.ownsRow w.heap.size 48 3 (.slice A' k c') k (flat cel3 (xs.take k)) ∧ Kept w wr)
  case atStart => exact ⟨0, none, 0, by omega, by omega, rfl, rfl, World.ownsRow_nil _ _ _ _, Keep.refl _ _⟩
  case round =>
    obtain ⟨k, A', c', q1, q2, rfl, rfl, qo, qk⟩ := hrel
    by_cases hlt : k < xs.length
    · obtain ⟨g, o, x, hR, rfl, hx, hc⟩ := (hs.kept qk).row cel3_length (by decide) hlt
      obtain ⟨x0, x1, x2⟩ := x
      have c0 : wr.cell? ⟨g, o + k * 3, none⟩ = some (.int .i64 x0) := hc 0 _ rfl
      have c1 : wr.cell? ⟨g, o + k * 3 + 1, none⟩ = some (.int .i64 x1) := hc 1 _ rfl
      have c2 : wr.cell? ⟨g, o + k * 3 + 2, none⟩ = some (.int .i64 x2) := hc 2 _ rfl
      clear hc
      go_wp2_with (at_builtin; refine wpList_push rfl _ _ rfl elCellI (qk.alloc _) A' k c' _ rfl (qo.alloc _) (cel3 (x0, x1, x2)) (by simp [Act.eval]) rfl (by simp [cel3, Value.oneCell']) (by omega) ?_; intro A3 c3 w3 hown3 hk3 _)
      go_roundg (xs.length - k)
      case measure => exact q1
      case rel => exact ⟨k + 1, A3, c3, by omega, by omega, rfl, rfl, by rw [flat_push hx.out]; exact hown3, hk3⟩
    · obtain rfl : k = xs.length := by omega
      rw [List.take_length] at qo
      go_wp2
      go_ret
      exact ⟨A', c', rfl, qo, qk⟩

set_option maxHeartbeats 1000000 in
/-- Equal states are equal. -/
theorem cellsAre_true {R R' : Nat → Prop} (A A' : Option Addr) (n n' c c' : Nat) (xs : List (Nat × Nat × Nat)) (hn : n = xs.length) (hn' : n' = xs.length) (w : World) (hs : Sl w R A (flat cel3 xs)) (hs' : Sl w R' A' (flat cel3 xs)) (hlen : xs.length ≤ 2147483648) :
    Calls Tryd.prog 26 #[.slice A n c, .slice A' n' c'] w fun e w' => e = .returned (.bool true) ∧ Kept w w' := by
  subst hn hn'
  go_enter Tryd.func26, Tryd.ntmps26
  go_wp2
  go_loopg [13] (xs.length + 1) (fun g i wr => ∃ k : Nat, xs.length - k < g ∧ k ≤ xs.length ∧ i = .int .i64 k ∧ Kept w wr)
  case atStart => exact ⟨0, by omega, by omega, rfl, Keep.refl _ _⟩
  case round =>
    obtain ⟨k, q1, q2, rfl, qk⟩ := hrel
    by_cases hlt : k < xs.length
    · obtain ⟨g, o, x, hR, rfl, hx, hc⟩ := (hs.kept qk).row cel3_length (by decide) hlt
      obtain ⟨g', o', y, hR', rfl, hy, hc'⟩ := (hs'.kept qk).row cel3_length (by decide) hlt
      obtain rfl : x = y := Option.some.inj (hx.out.symm.trans hy.out)
      obtain ⟨x0, x1, x2⟩ := x
      have c0 : wr.cell? ⟨g, o + k * 3, none⟩ = some (.int .i64 x0) := hc 0 _ rfl
      have c1 : wr.cell? ⟨g, o + k * 3 + 1, none⟩ = some (.int .i64 x1) := hc 1 _ rfl
      have c2 : wr.cell? ⟨g, o + k * 3 + 2, none⟩ = some (.int .i64 x2) := hc 2 _ rfl
      have d0 : wr.cell? ⟨g', o' + k * 3, none⟩ = some (.int .i64 x0) := hc' 0 _ rfl
      have d1 : wr.cell? ⟨g', o' + k * 3 + 1, none⟩ = some (.int .i64 x1) := hc' 1 _ rfl
      have d2 : wr.cell? ⟨g', o' + k * 3 + 2, none⟩ = some (.int .i64 x2) := hc' 2 _ rfl
      clear hc hc' hy
      go_wp2
      go_quiet (fail)
      go_wp2
      go_roundg (xs.length - k)
      case measure => exact q1
      case rel => exact ⟨k + 1, by omega, by omega, rfl, qk.drewN _⟩
    · go_wp2
      go_ret
      exact ⟨rfl, qk⟩

set_option maxHeartbeats 400000 in
theorem specCells {R : Nat → Prop} (A : Option Addr) (n c L : Nat) (ps : List Int) (hn : n = ps.length) (w : World) (hs : Sl w R A (i64s ps)) (h : IsShares L ps) (hlen : ps.length ≤ 1048576) :
    Calls Tryd.prog 27 #[.slice A n c, .int .i64 L] w fun e w' => ∃ A' c', e = .returned (.slice A' (2 ^ L) c') ∧ w'.ownsRow w.heap.size 57 3 (.slice A' (2 ^ L) c') (2 ^ L) (flat cel3 (tab L ps)) ∧ Kept w w' := by
  subst hn
  have ht := tableOf_any A c L ps w hs h hlen
  have hl := tab_length (L := L) (ps := ps)
  have h2 : 2 ^ L ≤ 512 := Nat.pow_le_pow_right (by decide) h.nine
  generalize 2 ^ L = N at *
  have Ht := Lib.hid ht
  clear ht
  go_enter Tryd.func27, Tryd.ntmps27
  go_wp2_with (first
    | (go_at_call 52; refine Ht.out.mono ?_; rintro e w1 ⟨g, hg, rfl, hb, hk1⟩)
    | (go_at_call 51; rw [← hl]; refine (specCells_any (some ⟨g, 0, none⟩) _ L (tab L ps) w1 hb.sl (by omega)).mono ?_; rintro e w2 ⟨A2, c2, rfl, ho2, hk2⟩))
  go_ret
  refine ⟨A2, c2, rfl, own_mono ?_ hk1.size, hk1.trans hk2⟩
  rw [← hl]
  exact ho2

theorem tab_fit {L : Nat} {ps : List Int} (h : IsShares L ps) (hl : ps.length ≤ 256) : ∀ x ∈ tab L ps, FitE x := by
  intro x hx
  obtain ⟨i, hi, rfl⟩ := List.mem_map.1 hx
  have hi := List.mem_range.1 hi
  have h1 := sym_lt h hi
  have h2 := from_high (numAt_pos h i) (numAt_lt h hi)
  have h3 := from_low (numAt_pos h i) (numAt_lt h hi)
  have h9 := h.nine
  have hN : 2 ^ L ≤ 512 := Nat.pow_le_pow_right (by decide) h.nine
  refine ⟨by simp only [cellAt]; omega, by simp only [cellAt]; omega, ?_⟩
  rw [cellAt_eq]
  simp only [fromOf]
  rw [Nat.add_mul, Nat.pow_succ] at h2
  omega

theorem sum_push_tot {ps : List Int} {k : Nat} {p : Int} (h : ps[k]? = some p) : tot (ps.take (k + 1)) = tot (ps.take k) + p.natAbs := by
  rw [take_push h, tot_push]
theorem tot_take_le (ps : List Int) (k : Nat) : tot (ps.take k) ≤ tot ps := by
  conv => rhs; rw [← List.take_append_drop k ps, tot_append]
  omega

set_option maxHeartbeats 1000000 in
set_option maxRecDepth 4000 in
theorem zzBuild_any {R : Nat → Prop} (A : Option Addr) (n c L : Nat) (ps : List Int) (hn : n = ps.length) (w : World) (hs : Sl w R A (i64s ps)) (h : Made L ps) (h5 : 5 ≤ L) (h9 : L ≤ 9) :
    Calls Tryd.prog 49 #[.slice A n c, .int .i64 L] w fun e w' => ∃ A' c', e = .returned (.tuple #[.slice A' (2 ^ L) c', .bool true]) ∧ w'.ownsRow w.heap.size 106 3 (.slice A' (2 ^ L) c') (2 ^ L) (flat cel3 (tab L ps)) ∧ Kept w w' := by
  subst hn
  have hsh := h.shares h5 h9
  obtain ⟨N, hN⟩ : ∃ N, N = 2 ^ L := ⟨_, rfl⟩
  have hNi : (2 : Int) ^ L = (N : Int) := by rw [two_pow_int, hN]
  have hN9 : N ≤ 512 := by rw [hN]; exact Nat.pow_le_pow_right (by decide) (show L ≤ 9 from h9)
  have hN5 : 32 ≤ N := by rw [hN]; exact Nat.pow_le_pow_right (n := 2) (by decide) (show 5 ≤ L from h5)
  have hlp : 0 < ps.length := by
    rcases Nat.eq_zero_or_pos ps.length with h0 | h0
    · have h1 := h.sum
      rw [List.eq_nil_of_length_eq_zero h0] at h1
      simp [tot] at h1
      omega
    · exact h0
  have hl252 := h.few
  rw [← hN]
  have HN := Lib.hid hN
  have H := Lib.hid h
  have Hsh := Lib.hid hsh
  have hx1 : max (L : Int) 5 = L := by omega
  have hx2 : min (L : Int) 9 = L := by omega
  clear hN h hsh
  go_enter Tryd.func49, Tryd.ntmps49
  go_wp2
  go_loopg [6, 7, 16] (ps.length + 1) (fun g s v i wr => ∃ (k t : Nat) (A' : Option Addr) (c' : Nat), ps.length - k < g ∧ k ≤ ps.length ∧ i = .int .i64 k ∧ s = .int .i64 t ∧ v = .slice A' k c' ∧ t ≤ N ∧
    Hid (t = tot (ps.take k)) ∧ wr.ownsRow w.heap.size 173 1 (.slice A' k c') k (i16s (ps.take k)) ∧ Kept w wr)
  case atStart => exact ⟨0, 0, none, 0, by omega, by omega, rfl, rfl, rfl, by omega, by simp [Hid, tot], World.ownsRow_nil _ _ _ _, Keep.refl _ _⟩
  case round =>
    obtain ⟨k, t, A', c', q1, q2, rfl, rfl, rfl, q3, q4, qo, qk⟩ := hrel
    by_cases hlt : k < ps.length
    · obtain ⟨g, o, p, hR, rfl, hcx, hxk⟩ := (hs.kept qk).i64 hlt
      have hp1 := H.out.least p (List.mem_of_getElem? hxk.out)
      have hpush := sum_push_tot hxk.out
      have htl := tot_take_le ps (k + 1)
      rw [H.out.sum, hpush, ← HN.out, ← q4.out] at htl
      have hp2 : p ≤ N := by omega
      have Hpush := Lib.hid hpush
      clear hpush
      by_cases hp : p = -1
      · subst hp
        simp only [show (-1 : Int).natAbs = 1 by decide] at htl Hpush
        have hx3 : max (-1 : Int) 1 = 1 := by decide
        have hx4 : ¬ (N : Int) < -1 := by omega
        go_wp2_with (at_builtin; refine wpList_push rfl _ _ rfl elI16 qk A' k c' _ rfl qo [.int .i16 (-1)] rfl rfl (by simp [Value.oneCell']) (by omega) ?_; intro A2 c2 w2 hown2 hk2 _)
        go_roundg (ps.length - k)
        case measure => exact q1
        case rel => exact ⟨k + 1, t + 1, A2, c2, by omega, by omega, rfl, by go_num, rfl, by omega, by show _ = _; rw [Hpush.out, ← q4.out], by rw [take_push hxk.out, i16s, List.map_append]; exact hown2, hk2⟩
      · obtain ⟨q, rfl⟩ : ∃ q : Nat, p = (q : Int) := ⟨p.toNat, by omega⟩
        simp only [Int.natAbs_natCast] at htl Hpush
        have hx3 : max (q : Int) (-q) = q := by omega
        have hx4 : ¬ (q : Int) < -1 := by omega
        have hx5 : ¬ (N : Int) < q := by omega
        go_wp2_with (at_builtin; refine wpList_push rfl _ _ rfl elI16 qk A' k c' _ rfl qo [.int .i16 q] rfl rfl (by simp [Value.oneCell']) (by omega) ?_; intro A2 c2 w2 hown2 hk2 _)
        go_roundg (ps.length - k)
        case measure => exact q1
        case rel => exact ⟨k + 1, t + q, A2, c2, by omega, by omega, rfl, by go_num, rfl, by omega, by show _ = _; rw [Hpush.out, ← q4.out], by rw [take_push hxk.out, i16s, List.map_append]; exact hown2, hk2⟩
    · obtain rfl : k = ps.length := by omega
      rw [List.take_length] at q4 qo
      have htN : t = N := by rw [q4.out, H.out.sum, HN.out]
      subst htN
      have hb1 : ((ps.length : Int) == 0) = false := by rw [beq_eq_false_iff_ne]; omega
      go_wp2_with (at_make; refine wpList_make rfl _ _ rfl elEntry .i64 .i64 t t rfl rfl (Nat.le_refl _) (by omega) ?_; intro w1 hk1 hg1)
      obtain ⟨b, hb⟩ : ∃ b, b = wr.heap.size := ⟨_, rfl⟩
      rw [← hb] at hg1 ⊢
      have hb3 : Blk w1 b 181 (flat celE (List.replicate t (0, 0, 0))) := Blk.cast hg1 (made_flat (f := celE) (K := 3) _ (0, 0, 0) rfl rfl (by decide) t)
      have hbw : w.heap.size ≤ b := by have := qk.size; omega
      have hbr : wr.heap.size ≤ b := by omega
      have hso : Sl w1 (fun k => w.heap.size ≤ k ∧ k < wr.heap.size) A' (i16s ps) := (Sl.of_own qo).kept hk1
      clear hg1 hb
      have hbuild : ∀ rv W, Kept w1 W → Calls Tryd.prog 74 #[rv, .int .i64 0, .slice A' ps.length c', .slice (some ⟨b, 0, none⟩) t t, .int .i64 L] W fun e w' => e = .returned .nilIface ∧
          Blk w' b 181 (flat celE (tab L ps)) ∧ Keep (· = b) W w' := by
        intro rv W hW
        refine (buildFSE_any rv 0 A' c' L b t t ps _ W (hso.kept hW) (hb3.kept hW) (by omega) Hsh.out (by omega) (by simp) (by rw [← HN.out]; exact Nat.le_refl _)).mono ?_
        rintro e w' ⟨rfl, h1, h2⟩
        rw [← HN.out, List.drop_of_length_le (by simp), List.append_nil] at h1
        exact ⟨rfl, h1, h2⟩
      have htl : t = (tab L ps).length := by rw [tab_length, HN.out]
      have hfit := tab_fit Hsh.out (by omega)
      have Htl := Lib.hid htl
      have Hbuild := Lib.hid hbuild
      have Hfit := Lib.hid hfit
      clear htl hbuild hfit
      have hk2 : Kept w (w1.alloc (.cells Tryd.zeroCells157 157)) := (qk.trans hk1).alloc _
      have hk3 : Kept w1 (w1.alloc (.cells Tryd.zeroCells157 157)) := (Keep.refl _ _).alloc _
      go_wp2_with (first
        | (go_at_call 74; refine (Hbuild.out _ _ hk3).mono ?_; rintro e w2 ⟨rfl, hb4, hk4⟩)
        | (go_at_call 75; refine (zzCells_any (some ⟨b, 0, none⟩) t t (tab L ps) Htl.out w2 hb4.sl Hfit.out (by rw [← Htl.out]; omega)).mono ?_; rw [← Htl.out]; rintro e w3 ⟨A3, c3, rfl, ho3, hk5⟩))
      have hk6 : Kept w w2 := hk2.then hk4 (fun k hk e => by omega)
      go_ret2
      exact ⟨A3, c3, rfl, own_mono ho3 hk6.size, hk6.trans hk5⟩

set_option maxHeartbeats 400000 in
theorem implBuild_any {R : Nat → Prop} (A : Option Addr) (n c L : Nat) (ps : List Int) (hn : n = ps.length) (w : World) (hs : Sl w R A (i64s ps)) (h : Made L ps) (h5 : 5 ≤ L) (h9 : L ≤ 9) :
    Calls Tryd.prog 25 #[.slice A n c, .int .i64 L] w fun e w' => ∃ A' c', e = .returned (.tuple #[.slice A' (2 ^ L) c', .bool true]) ∧ w'.ownsRow w.heap.size 48 3 (.slice A' (2 ^ L) c') (2 ^ L) (flat cel3 (tab L ps)) ∧ Kept w w' := by
  subst hn
  have hz := zzBuild_any A ps.length c L ps rfl w hs h h5 h9
  have hl := tab_length (L := L) (ps := ps)
  have h2 : 2 ^ L ≤ 512 := Nat.pow_le_pow_right (by decide) h9
  generalize 2 ^ L = N at *
  have Hz := Lib.hid hz
  have Hl := Lib.hid hl
  clear hz hl h
  go_enter Tryd.func25, Tryd.ntmps25
  go_wp2_with (first
    | (go_at_call 49; refine Hz.out.mono ?_; rintro e w1 ⟨A1, c1, rfl, ho1, hk1⟩)
    | (go_at_call 50; refine (cellsOf_any A1 c1 N (tab L ps) Hl.out.symm w1 (Sl.of_own ho1) (by rw [Hl.out]; omega)).mono ?_; rw [Hl.out]; rintro e w2 ⟨A2, c2, rfl, ho2, hk2⟩))
  go_ret2
  exact ⟨A2, c2, rfl, own_mono ho2 hk1.size, hk1.trans hk2⟩
end Go.Proofs.YtabaholflahepaaDoor
