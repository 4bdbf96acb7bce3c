/-
  The walk of laws.FnOffsetRows: it returns true, and nothing that was there has turned.
-/
import Derived.Test.YtabaholflahepaaDoorFnRows
namespace Go.Proofs.YtabaholflahepaaDoor
open Go.RowKit

set_option maxHeartbeats 2000000 in
set_option maxRecDepth 4000 in
theorem fnOffsetRows_walk (A : Option Addr) (c : Nat) (xs : List Int) (y z : Int) (w : World) (hs : Sl w (· < w.heap.size) A (i64s xs)) (hxs : I64s xs) (_hm : xs.length ≤ 9223372036854775807)
    (hy : I64 y) (hz : I64 z) (he : Bases w.heap.size w ∧ Eof w.heap.size w) :
    Calls Tryd.prog 8 #[.slice A xs.length c, .int .i64 y, .int .i64 z] w fun e w' => e = .returned (.bool true) ∧ Kept w w' := by
  by_cases g1 : 2147483647 < xs.length
  · go_enter Tryd.func8, Tryd.ntmps8
    go_wp2_with fail
    go_ret
    exact ⟨rfl, Keep.refl _ _⟩
  obtain ⟨b, hyb⟩ : ∃ b : Nat, y % 9 = (b : Int) := ⟨(y % 9).toNat, by omega⟩
  obtain ⟨s, hzs⟩ : ∃ s : Nat, z % 256 = (s : Int) := ⟨(z % 256).toNat, by omega⟩
  have hb10 : b < 9 := by omega
  have hs512 : s < 256 := by omega
  obtain ⟨cs, hcs⟩ : ∃ cs : List (Nat × Nat × Nat), cs = xs.map fun x => ((x % 40).toNat, b, s) := ⟨_, rfl⟩
  have hcl : cs.length = xs.length := by rw [hcs, List.length_map]
  have hfit : ∀ x ∈ cs, FitE x := by
    intro x hx
    rw [hcs] at hx
    obtain ⟨y, _, rfl⟩ := List.mem_map.1 hx
    refine ⟨?_, ?_, ?_⟩ <;> simp only <;> omega
  have hcat : ∀ (j : Nat) (x : Int) (x0 : Nat), xs[j]? = some x → x % 40 = (x0 : Int) → cs[j]? = some (x0, b, s) := by
    intro j x x0 h1 h2
    rw [hcs, List.getElem?_map, h1]
    simp only [Option.map_some, Option.some.injEq, Prod.mk.injEq, and_true]
    omega
  obtain ⟨hb, he⟩ := he
  have Hcl := Lib.hid hcl
  have Hfit := Lib.hid hfit
  have Hcat := Lib.hid hcat
  clear hcl hfit hcat hcs
  go_enter Tryd.func8, Tryd.ntmps8
  go_wp2
  go_loopg [7, 8, 23] (xs.length + 1) (fun gg v u i wr => ∃ (j : Nat) (A1 : Option Addr) (c1 : Nat) (ok : Bool), xs.length - j < gg ∧ j ≤ xs.length ∧ i = .int .i64 j ∧ v = .slice A1 j c1 ∧ u = .bool ok ∧ Hid (ok = true ↔ ∀ x ∈ cs.take j, x.1 ≤ 31) ∧
    wr.ownsRow w.heap.size 48 3 (.slice A1 j c1) j (flat cel3 (cs.take j)) ∧ Kept w wr)
  case atStart => exact ⟨0, none, 0, true, by omega, by omega, rfl, rfl, rfl, by simp [Hid], World.ownsRow_nil _ _ _ _, Keep.refl _ _⟩
  case round =>
    obtain ⟨j, A1, c1, ok, q1, q2, rfl, rfl, rfl, q3, qo1, qk⟩ := hrel
    by_cases hlt : j < xs.length
    · obtain ⟨g, o, x, hR, rfl, hcx, hxj⟩ := (hs.kept qk).i64 hlt
      have hix : I64 x := hxs x (List.mem_of_getElem? hxj.out)
      obtain ⟨x0, hx0⟩ : ∃ x0 : Nat, x % 40 = (x0 : Int) := ⟨(x % 40).toNat, by omega⟩
      have hat := Hcat.out j x x0 hxj.out hx0
      have hq3 : ∀ ok', (ok' = (ok && decide (x0 ≤ 31))) → (ok' = true ↔ ∀ x ∈ cs.take (j + 1), x.1 ≤ 31) := by
        rintro _ rfl
        rw [Bool.and_eq_true, q3.out, decide_eq_true_eq, take_push hat]
        constructor
        · intro h x hx
          rcases List.mem_append.1 hx with h' | h'
          · exact h.1 x h'
          · rw [List.mem_singleton.1 h']; exact h.2
        · intro h
          exact ⟨fun x hx => h x (List.mem_append_left _ hx), h (x0, b, s) (List.mem_append_right _ (List.mem_singleton.2 rfl))⟩
      have Hat := Lib.hid hat
      have Hq3 := Lib.hid hq3
      clear hat hq3
      have qk1 : Kept w (wr.alloc (.cells #[.int .i64 x0, .int .i64 b, .int .i64 s] 48)) := qk.alloc _
      have qo3 := qo1.alloc (.cells #[.int .i64 x0, .int .i64 b, .int .i64 s] 48)
      go_wp2_with fail
      refine (below_any x 40 hix (by decide) (by decide) _).mono ?_
      rintro e w' ⟨rfl, rfl⟩
      rw [hx0]
      go_wp2_with fail
      refine (below_any y 9 hy (by decide) (by decide) _).mono ?_
      rintro e w' ⟨rfl, rfl⟩
      rw [hyb]
      go_wp2_with fail
      refine (below_any z 256 hz (by decide) (by decide) _).mono ?_
      rintro e w' ⟨rfl, rfl⟩
      rw [hzs]
      cases ok
      · go_wp2_with (at_builtin; refine wpList_push rfl _ _ rfl elCellI qk1 A1 j c1 _ rfl qo3 (cel3 (x0, b, s)) (by simp [Act.eval]) rfl (by simp [cel3, Value.oneCell']) (by omega) ?_; intro A3 c3 w3 hown3 hk3 _)
        go_roundg (xs.length - j)
        case measure => exact q1
        case rel => exact ⟨j + 1, A3, c3, false, by omega, by omega, rfl, rfl, rfl, Hq3.out _ (by simp), by rw [flat_push Hat.out]; exact hown3, hk3⟩
      · by_cases h32 : x0 < 32
        · go_wp2_with (at_builtin; refine wpList_push rfl _ _ rfl elCellI qk1 A1 j c1 _ rfl qo3 (cel3 (x0, b, s)) (by simp [Act.eval]) rfl (by simp [cel3, Value.oneCell']) (by omega) ?_; intro A3 c3 w3 hown3 hk3 _)
          go_roundg (xs.length - j)
          case measure => exact q1
          case rel => exact ⟨j + 1, A3, c3, true, by omega, by omega, rfl, rfl, by simp; omega, Hq3.out _ (by simp; omega), by rw [flat_push Hat.out]; exact hown3, hk3⟩
        · go_wp2_with (at_builtin; refine wpList_push rfl _ _ rfl elCellI qk1 A1 j c1 _ rfl qo3 (cel3 (x0, b, s)) (by simp [Act.eval]) rfl (by simp [cel3, Value.oneCell']) (by omega) ?_; intro A3 c3 w3 hown3 hk3 _)
          go_roundg (xs.length - j)
          case measure => exact q1
          case rel => exact ⟨j + 1, A3, c3, false, by omega, by omega, rfl, rfl, by simp; omega, Hq3.out _ (by simp; omega), by rw [flat_push Hat.out]; exact hown3, hk3⟩
    · obtain rfl : j = xs.length := by omega
      rw [List.take_of_length_le (by rw [Hcl.out]; exact Nat.le_refl _)] at qo1 q3
      have hs1 : Sl wr (fun k => w.heap.size ≤ k ∧ k < wr.heap.size) A1 (flat cel3 cs) := Sl.of_own qo1
      have himpl := implRows 1 (.inr (.inl rfl)) A1 c1 xs.length cs Hcl.out.symm wr hs1 Hfit.out ((hb.kept qk).up qk.size) ((he.kept qk).up qk.size (Nat.le_refl _)) (by omega)
      have Himpl := Lib.hid himpl
      clear himpl
      go_wp2_with fail
      refine Himpl.out.mono ?_
      rintro e w1 ⟨hk1, ⟨A4, c4, rfl, hall, ho4⟩ | ⟨⟨A4, m, c4, rfl⟩, hno⟩⟩
      · obtain rfl : ok = true := q3.out.2 hall
        have hs4 : Sl w1 (fun k => wr.heap.size ≤ k ∧ k < w1.heap.size) A4 (flat row4 (cs.map (rowK 1))) := Sl.of_own ho4
        have hs5 := hs1.kept hk1
        have hkw := qk.trans hk1
        have Hall := Lib.hid hall
        clear hs1 hall ho4 qo1 q3
        go_wp2
        go_loopg [61] (xs.length + 1) (fun gg i wr => ∃ j : Nat, xs.length - j < gg ∧ j ≤ xs.length ∧ i = .int .i64 j ∧ Kept w1 wr)
        case atStart => exact ⟨0, by omega, by omega, rfl, Keep.refl _ _⟩
        case round =>
          obtain ⟨j, q1, q2, rfl, qk⟩ := hrel
          by_cases hlt : j < xs.length
          · obtain ⟨g, o, x, hR, rfl, hx, hc⟩ := (hs5.kept qk).row cel3_length (by decide) (show j < cs.length by rw [Hcl.out]; exact hlt)
            obtain ⟨g', o', x', hR', rfl, hx', hc'⟩ := (hs4.kept qk).row row4_length (by decide) (show j < (cs.map (rowK 1)).length by rw [List.length_map, Hcl.out]; exact hlt)
            have hle := Hall.out x (List.mem_of_getElem? hx.out)
            obtain rfl : x' = offRow x := by
              have := hx'.out
              rw [List.getElem?_map, hx.out] at this
              exact (Option.some.inj this).symm
            obtain ⟨x0, x1, x2⟩ := x
            have h31 : x0 ≤ 31 := hle
            obtain ⟨X, hX⟩ : ∃ X, X = 2 ^ x0 := ⟨_, rfl⟩
            have hXi : (2 : Int) ^ x0 = (X : Int) := by rw [two_pow_int, hX]
            have hX1 : X ≤ 2147483648 := by rw [hX]; exact pow_le_31 h31
            have a0 : wr.cell? ⟨g, o + j * 3, none⟩ = some (.int .i64 x0) := hc 0 _ rfl
            have a1 : wr.cell? ⟨g, o + j * 3 + 1, none⟩ = some (.int .i64 x1) := hc 1 _ rfl
            have a2 : wr.cell? ⟨g, o + j * 3 + 2, none⟩ = some (.int .i64 x2) := hc 2 _ rfl
            by_cases h2x : 2 ≤ x0
            · have hX4 : 4 ≤ X := by rw [hX]; exact Nat.pow_le_pow_right (n := 2) (by decide) h2x
              have hrow : offRow (x0, x1, x2) = (X - 3, x0, x1, x2) := by simp only [offRow, if_pos h2x, hX]
              rw [hrow] at hc'
              obtain ⟨Y, hY⟩ : ∃ Y, Y = X - 3 := ⟨_, rfl⟩
              have hYi : (X : Int) - 3 = (Y : Int) := by omega
              rw [← hY] at hc'
              have b0 : wr.cell? ⟨g', o' + j * 4, none⟩ = some (.int .i64 Y) := hc' 0 _ rfl
              have b1 : wr.cell? ⟨g', o' + j * 4 + 1, none⟩ = some (.int .i64 x0) := hc' 1 _ rfl
              have b2 : wr.cell? ⟨g', o' + j * 4 + 2, none⟩ = some (.int .i64 x1) := hc' 2 _ rfl
              have b3 : wr.cell? ⟨g', o' + j * 4 + 3, none⟩ = some (.int .i64 x2) := hc' 3 _ rfl
              have hg1 : g < wr.heap.size := by have := qk.size; have := hk1.size; omega
              have hg2 : wr.heap.size ≠ g := by omega
              clear hc hc' hrow hX hY hx hx'
              go_wp2
              go_roundg (xs.length - j)
              case measure => exact q1
              case rel => exact ⟨j + 1, by omega, by omega, rfl, (qk.alloc _).alloc _⟩
            · have hrow : offRow (x0, x1, x2) = (X, x0, x1, x2) := by simp only [offRow, if_neg h2x, hX]
              rw [hrow] at hc'
              have b0 : wr.cell? ⟨g', o' + j * 4, none⟩ = some (.int .i64 X) := hc' 0 _ rfl
              have b1 : wr.cell? ⟨g', o' + j * 4 + 1, none⟩ = some (.int .i64 x0) := hc' 1 _ rfl
              have b2 : wr.cell? ⟨g', o' + j * 4 + 2, none⟩ = some (.int .i64 x1) := hc' 2 _ rfl
              have b3 : wr.cell? ⟨g', o' + j * 4 + 3, none⟩ = some (.int .i64 x2) := hc' 3 _ rfl
              have hg1 : g < wr.heap.size := by have := qk.size; have := hk1.size; omega
              have hg2 : wr.heap.size ≠ g := by omega
              clear hc hc' hrow hX hx hx'
              go_wp2
              go_roundg (xs.length - j)
              case measure => exact q1
              case rel => exact ⟨j + 1, by omega, by omega, rfl, (qk.alloc _).alloc _⟩
          · go_wp2
            go_ret
            exact ⟨rfl, hkw.trans qk⟩
      · have hokf : ok = false := by
          cases ok
          · rfl
          · exact absurd (q3.out.1 rfl) hno
        subst hokf
        go_wp2
        go_ret
        exact ⟨rfl, qk.trans hk1⟩
end Go.Proofs.YtabaholflahepaaDoor
