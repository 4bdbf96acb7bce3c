/-
  The walk of laws.FnRows: it returns true, and nothing that was there has turned.
-/
import Derived.Test.YtabaholflahepaaDoorRowsOf
namespace Go.Proofs.YtabaholflahepaaDoor
open Go.RowKit

section
variable {e e' : TypeId} {size size' n n' : Nat} {v v' : Value} {xs xs' : List Value} {w w' : World} {base base' : Nat}
/-- Two slices of a call's own, of other elements, lie in two blocks. -/
theorem own_own_ne (h : w.ownsRow base e size v n xs) (h' : w.ownsRow base' e' size' v' n' xs') (hne : e ≠ e') : ∀ g, v.ownBlock = some g → v'.ownBlock ≠ some g := by
  intro g hg hg'
  rcases h.2 with ⟨rfl, _⟩ | ⟨b, cap, cur, rfl, _, hh, _⟩
  · simp [Value.ownBlock] at hg
  · rcases h'.2 with ⟨rfl, _⟩ | ⟨b', cap', cur', rfl, _, hh', _⟩
    · simp [Value.ownBlock] at hg'
    · have e1 : b = g := by simpa [Value.ownBlock] using hg
      have e2 : b' = g := by simpa [Value.ownBlock] using hg'
      subst e1 e2
      rw [hh] at hh'
      injection hh' with hh'
      injection hh' with _ ht
      exact hne ht
theorem own_grown {row : Option Nat} (h : w.ownsRow base e size v n xs) (hg : w.grownBy w' row) (hne : ∀ g, v.ownBlock = some g → row ≠ some g) : w'.ownsRow base e size v n xs := by
  refine ⟨h.1, ?_⟩
  rcases h.2 with hv | ⟨g, cap, cur, rfl, hb, hh, rest⟩
  · exact .inl hv
  · exact .inr ⟨g, cap, cur, rfl, hb, (hg.block g (Array.getElem?_eq_some_iff.1 hh).1 (fun e => hne g rfl e.symm)).trans hh, rest⟩
end

theorem Bases.up {B B' : Nat} {w : World} (h : Bases B w) (hB : B ≤ B') : Bases B' w := by
  obtain ⟨a, o, c, a', o', c', h1, h2, h3, h4, h5, h6, h7⟩ := h
  exact ⟨a, o, c, a', o', c', h1, h2, h3, h4, by omega, by omega, by omega⟩
theorem Eof.up {B B' : Nat} {w : World} (h : Eof B w) (hB : B ≤ B') (hw : B' ≤ w.heap.size) : Eof B' w := by
  obtain ⟨q, cq, tq, h2, h5, h6, h8, h9⟩ := h
  exact ⟨q, cq, tq, h2, h5, by omega, by omega, hw⟩

set_option maxHeartbeats 2000000 in
set_option maxRecDepth 4000 in
theorem rows_walk (k : Nat) (hk : k = 0 ∨ k = 2) (x : Int) (A : Option Addr) (c : Nat) (xs : List Int) (y z : Int) (w : World) (hx : I64 x) (hxk : x % 2 * 2 = k) (hs : Sl w (· < w.heap.size) A (i64s xs)) (hxs : I64s xs)
    (g1 : ¬ 2147483647 < xs.length) (hy : I64 y) (hz : I64 z) (hb : Bases w.heap.size w) (he : Eof w.heap.size w) :
    Calls Tryd.prog 9 #[.int .i64 x, .slice A xs.length c, .int .i64 y, .int .i64 z] w fun e w' => e = .returned (.bool true) ∧ Kept w w' := by
  obtain ⟨b, hyb⟩ : ∃ b : Nat, y % 10 = (b : Int) := ⟨(y % 10).toNat, by omega⟩
  obtain ⟨s, hzs⟩ : ∃ s : Nat, z % 512 = (s : Int) := ⟨(z % 512).toNat, by omega⟩
  have hb10 : b < 10 := by omega
  have hs512 : s < 512 := by omega
  obtain ⟨cs, hcs⟩ : ∃ cs : List (Nat × Nat × Nat), cs = xs.map fun x => ((x % 60).toNat, b, s) := ⟨_, rfl⟩
  have hcl : cs.length = xs.length := by rw [hcs, List.length_map]
  have hfit : ∀ x ∈ cs, FitE x := by
    intro x hx
    rw [hcs] at hx
    obtain ⟨y, _, rfl⟩ := List.mem_map.1 hx
    refine ⟨?_, ?_, ?_⟩ <;> simp only <;> omega
  have hcat : ∀ (j : Nat) (x : Int) (x0 : Nat), xs[j]? = some x → x % 60 = (x0 : Int) → cs[j]? = some (x0, b, s) := by
    intro j x x0 h1 h2
    rw [hcs, List.getElem?_map, h1]
    simp only [Option.map_some, Option.some.injEq, Prod.mk.injEq, and_true]
    omega
  have Hcl := Lib.hid hcl
  have Hfit := Lib.hid hfit
  have Hcat := Lib.hid hcat
  have Hk := Lib.hid hk
  have hx2 : 2 * (x % 2) = (k : Int) := by omega
  clear hcl hfit hcat hcs hk hxk
  go_enter Tryd.func9, Tryd.ntmps9
  go_wp2_with (go_at_call 23; refine (below_any x 2 hx (by decide) (by decide) _).mono ?_; rintro e w1 ⟨rfl, rfl⟩)
  go_loopg [9, 10, 26] (xs.length + 1) (fun gg v u i wr => ∃ (j : Nat) (A1 A2 : Option Addr) (c1 c2 : Nat), xs.length - j < gg ∧ j ≤ xs.length ∧ i = .int .i64 j ∧ v = .slice A1 j c1 ∧ u = .slice A2 j c2 ∧
    wr.ownsRow w.heap.size 48 3 (.slice A1 j c1) j (flat cel3 (cs.take j)) ∧ wr.ownsRow w.heap.size 57 3 (.slice A2 j c2) j (flat cel3 (cs.take j)) ∧ Kept w wr)
  case atStart => exact ⟨0, none, none, 0, 0, by omega, by omega, rfl, rfl, rfl, World.ownsRow_nil _ _ _ _, World.ownsRow_nil _ _ _ _, Keep.refl _ _⟩
  case round =>
    obtain ⟨j, A1, A2, c1, c2, q1, q2, rfl, rfl, rfl, qo1, qo2, qk⟩ := hrel
    by_cases hlt : j < xs.length
    · obtain ⟨g, o, x, hR, rfl, hcx, hxj⟩ := (hs.kept qk).i64 hlt
      have hix : I64 x := hxs x (List.mem_of_getElem? hxj.out)
      obtain ⟨x0, hx0⟩ : ∃ x0 : Nat, x % 60 = (x0 : Int) := ⟨(x % 60).toNat, by omega⟩
      have hat := Hcat.out j x x0 hxj.out hx0
      have Hat := Lib.hid hat
      clear hat
      go_wp2_with fail
      refine (below_any x 60 hix (by decide) (by decide) _).mono ?_
      rintro e w' ⟨rfl, rfl⟩
      rw [hx0]
      go_wp2_with fail
      refine (below_any y 10 hy (by decide) (by decide) _).mono ?_
      rintro e w' ⟨rfl, rfl⟩
      rw [hyb]
      go_wp2_with fail
      refine (below_any z 512 hz (by decide) (by decide) _).mono ?_
      rintro e w' ⟨rfl, rfl⟩
      rw [hzs]
      have hbx := Blk.new wr 57 [.int .i64 x0, .int .i64 b, .int .i64 s]
      have qk1 : Kept w (wr.alloc (.cells #[.int .i64 x0, .int .i64 b, .int .i64 s] 57)) := qk.alloc _
      have qo3 := qo1.alloc (.cells #[.int .i64 x0, .int .i64 b, .int .i64 s] 57)
      have qo4 := qo2.alloc (.cells #[.int .i64 x0, .int .i64 b, .int .i64 s] 57)
      have hold : ∀ g, (Value.slice A2 j c2).ownBlock = some g → g < wr.heap.size := fun g hg => (qo2.lt g hg).2
      have Hold := Lib.hid hold
      clear hold
      go_wp2_with (first
        | (at_builtin; refine wpList_push rfl _ _ rfl elCellS qk1 A2 j c2 _ rfl qo4 (cel3 (x0, b, s)) (by simp [Act.eval]) rfl (by simp [cel3, Value.oneCell']) (by omega) ?_; intro A3 c3 w3 hown3 hk3 hg3; have hb3 := blk_grown hbx hg3 (fun e => by have := Hold.out _ e; omega); have d0 : w3.cell? ⟨wr.heap.size, 0, none⟩ = some (.int .i64 x0) := hb3.cell 0; have d1 : w3.cell? ⟨wr.heap.size, 1, none⟩ = some (.int .i64 b) := hb3.cell 1; have d2 : w3.cell? ⟨wr.heap.size, 2, none⟩ = some (.int .i64 s) := hb3.cell 2; have qo5 := own_grown qo3 hg3 (fun g hg => own_own_ne qo3 qo4 (by decide) g hg))
        | (at_builtin; refine wpList_push rfl _ _ rfl elCellI hk3 A1 j c1 _ rfl qo5 (cel3 (x0, b, s)) (by simp [Act.eval]) rfl (by simp [cel3, Value.oneCell']) (by omega) ?_; intro A4 c4 w4 hown4 hk4 hg4; have qo6 := own_grown hown3 hg4 (fun g hg => own_own_ne hown3 qo5 (by decide) g hg)))
      go_roundg (xs.length - j)
      case measure => exact q1
      case rel => exact ⟨j + 1, A4, A3, c4, c3, by omega, by omega, rfl, rfl, rfl, by rw [flat_push Hat.out]; exact hown4, by rw [flat_push Hat.out]; exact qo6, hk4⟩
    · obtain rfl : j = xs.length := by omega
      rw [List.take_of_length_le (by rw [Hcl.out]; exact Nat.le_refl _)] at qo1 qo2
      have htop : topFor k = topK k := by rcases Hk.out with rfl | rfl <;> rfl
      have hrow : rowFor k = rowK k := by rcases Hk.out with rfl | rfl <;> rfl
      have hk3 : k = 0 ∨ k = 1 ∨ k = 2 := by rcases Hk.out with h | h <;> omega
      have hspec := specRows_any A2 c2 xs.length k Hk.out cs Hcl.out.symm wr (Sl.of_own qo2) (by rw [Hcl.out]; omega)
      rw [htop, hrow, Hcl.out] at hspec
      have hs1 : Sl wr (fun k => w.heap.size ≤ k ∧ k < wr.heap.size) A1 (flat cel3 cs) := Sl.of_own qo1
      have hb2 : ∀ w', Kept wr w' → Bases w'.heap.size w' := fun w' h => (hb.kept (qk.trans h)).up (qk.trans h).size
      have he2 : ∀ w', Kept wr w' → Eof w'.heap.size w' := fun w' h => (he.kept (qk.trans h)).up (qk.trans h).size (Nat.le_refl _)
      have himpl : ∀ w', Kept wr w' → _ := fun w' h => implRows k hk3 A1 c1 xs.length cs Hcl.out.symm w' (hs1.kept h) Hfit.out (hb2 w' h) (he2 w' h) (by omega)
      have hml : xs.length = (cs.map (rowK k)).length := by rw [List.length_map, Hcl.out]
      generalize cs.map (rowK k) = rs at hspec himpl hml
      have Himpl := Lib.hid himpl
      have Hspec := Lib.hid hspec
      have Hml := Lib.hid hml
      clear himpl hspec hml htop hrow hb2 he2
      go_wp2_with fail
      refine Hspec.out.mono ?_
      rintro e w1 ⟨hk1, ⟨A3, c3, rfl, hall, ho3⟩ | ⟨rfl, hno⟩⟩
      · go_wp2_with fail
        refine (Himpl.out w1 hk1).mono ?_
        rintro e w2 ⟨hk2, ⟨A4, c4, rfl, _, ho4⟩ | ⟨_, hno⟩⟩
        · go_wp2_with (go_at_call 30; refine (rowsAre_true A4 A3 xs.length c4 c3 rs Hml.out w2 (Sl.of_own ho4) ((Sl.of_own ho3).kept hk2) (by rw [← Hml.out]; omega)).mono ?_; rintro e w3 ⟨rfl, hk5⟩)
          go_ret
          exact ⟨rfl, ((qk.trans hk1).trans hk2).trans hk5⟩
        · exact absurd hall hno
      · go_wp2_with fail
        refine (Himpl.out w1 hk1).mono ?_
        rintro e w2 ⟨hk2, ⟨A4, c4, _, hall, _⟩ | ⟨⟨A4, m, c4, rfl⟩, _⟩⟩
        · exact absurd hall hno
        · go_wp2
          go_ret
          exact ⟨rfl, (qk.trans hk1).trans hk2⟩

theorem fnRows_walk (x : Int) (A : Option Addr) (c : Nat) (xs : List Int) (y z : Int) (w : World) (hx : I64 x) (hs : Sl w (· < w.heap.size) A (i64s xs)) (hxs : I64s xs) (_hm : xs.length ≤ 9223372036854775807)
    (hy : I64 y) (hz : I64 z) (he : Bases w.heap.size w ∧ Eof w.heap.size w) :
    Calls Tryd.prog 9 #[.int .i64 x, .slice A xs.length c, .int .i64 y, .int .i64 z] w fun e w' => e = .returned (.bool true) ∧ Kept w w' := by
  by_cases g1 : 2147483647 < xs.length
  · go_enter Tryd.func9, Tryd.ntmps9
    go_wp2_with fail
    go_ret
    exact ⟨rfl, Keep.refl _ _⟩
  rcases (show x % 2 = 0 ∨ x % 2 = 1 by omega) with h | h
  · exact rows_walk 0 (.inl rfl) x A c xs y z w hx (by rw [h]; rfl) hs hxs g1 hy hz he.1 he.2
  · exact rows_walk 2 (.inr rfl) x A c xs y z w hx (by rw [h]; rfl) hs hxs g1 hy hz he.1 he.2
end Go.Proofs.YtabaholflahepaaDoor
