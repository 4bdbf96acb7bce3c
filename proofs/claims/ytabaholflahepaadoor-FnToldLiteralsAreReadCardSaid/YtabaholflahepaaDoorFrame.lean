/-
  What the rows' frames share: the two sentinels out of the rows' list, slices of bytes and ints that came in, the door's own heap as a witness.
-/
import Derived.Test.YtabaholflahepaaDoorRows
import Derived.Test.YtabaholflahepaaDoorCells
import Derived.Test.YtabaholflahepaaDoorCopies
import Derived.Test.YtabaholflahepaaDoorShares
import Derived.Test.YtabaholflahepaaDoorLow
import Derived.ProofKit
import Derived.LaidMore
import Derived.OpenShut
import Derived.Stop.Joined
import Derived.LaidLaws
namespace Go.Proofs.YtabaholflahepaaDoor
open Go.ChangeShapes Go.WideShapes Go.ChangeAt Go.RowKit
set_option maxRecDepth 100000

theorem own : ownKnob Tryd.prog.godebug = none := by kernel_rfl
theorem laidOut : laidOutB Tryd.prog = true := by kernel_rfl
theorem gEOF : Tryd.prog.globalNamed "io.EOF" = some 3 := by kernel_rfl
theorem gUnx : Tryd.prog.globalNamed "io.ErrUnexpectedEOF" = some 2 := by kernel_rfl
theorem gEOFt : (Tryd.prog.globals[3]?).map (·.type) = some 163 := by kernel_rfl
theorem gUnxt : (Tryd.prog.globals[2]?).map (·.type) = some 163 := by kernel_rfl
theorem star : "*" ++ "errors.errorString" = "*errors.errorString" := by decide
theorem row235u (u : TypeId) (h : Tryd.prog.typeName? 3 u = some "*errors.errorString") : u = 235 :=
  typeName_ptr_named (nm := "errors.errorString") (by rw [star]; kernel_rfl) (by kernel_rfl) (by decide) u (by rw [star]; exact h)
theorem cells237 : Tryd.prog.cellsOf 237 = 1 := by kernel_rfl
theorem cells9 : Tryd.prog.cellsOf 9 = 1 := by kernel_rfl

def laid2 : List (String × DataW Unit) := [("io.EOF", Rows.laid_io_EOF), ("io.ErrUnexpectedEOF", Rows.laid_io_ErrUnexpectedEOF)]

theorem errs_of_laid {W : World} (h : laidMetH Tryd.prog laid2 W) : Errs W.heap.size W := by
  rw [MakeChecks.laidMetH_plain _ _ _ (by kernel_rfl)] at h
  obtain ⟨ps, ⟨g0, t0, cs0, f0, p0, q0, hg0, ht0, hv0, hd0, ⟨g1, t1, cs1, f1, p1, q1, hg1, ht1, hv1, hd1, hq1, e1⟩, e0⟩, hnd, hrows⟩ := h
  obtain rfl := Option.some.inj (gEOF.symm.trans hg0)
  obtain rfl := Option.some.inj (gUnx.symm.trans hg1)
  obtain rfl := Option.some.inj (gEOFt.symm.trans ht0)
  obtain rfl := Option.some.inj (gUnxt.symm.trans ht1)
  have hq1' : q1 = [] := hq1
  subst hq1'
  subst e1
  subst e0
  obtain ⟨l0⟩ := cs0
  obtain ⟨l1⟩ := cs1
  have ok0 : ∀ u v, l0 = [.iface u v] → Value.okWide Tryd.prog W .any 0 u v := fun u v e => by
    subst e
    exact (hrows 3 0 (by simp [MemPlace.row])).2 u v (by simpa using World.var?_cell hg0 hv0 0)
  have ok1 : ∀ u v, l1 = [.iface u v] → Value.okWide Tryd.prog W .any 0 u v := fun u v e => by
    subst e
    exact (hrows 2 0 (by simp [MemPlace.row])).2 u v (by simpa using World.var?_cell hg1 hv1 0)
  obtain ⟨a0, s0, rfl, hc0, hs0, hz0, rfl⟩ := errorString_of_trod Tryd.underlying163 row235u Tryd.underlying235 Tryd.underlying237 rfl rfl Tryd.underlying9 cells237 cells9 hd0 ok0
  obtain ⟨a1, s1, rfl, hc1, hs1, hz1, rfl⟩ := errorString_of_trod Tryd.underlying163 row235u Tryd.underlying235 Tryd.underlying237 rfl rfl Tryd.underlying9 cells237 cells9 hd1 ok1
  obtain ⟨c0, t0, hb0⟩ := (hrows a0.block a0.off (by simp [MemPlace.row])).1
  obtain ⟨c1, t1, hb1⟩ := (hrows a1.block a1.off (by simp [MemPlace.row])).1
  have v0 : W.cell? ⟨3, 0, none⟩ = some (.iface 235 (.pointer (some a0))) := by simpa using World.var?_cell hg0 hv0 0
  have v1 : W.cell? ⟨2, 0, none⟩ = some (.iface 235 (.pointer (some a1))) := by simpa using World.var?_cell hg1 hv1 0
  have hlt := World.block_lt_of_cell? W _ v0
  refine ⟨a1, a0, c1, t1, c0, t0, v1, v0, ?_, hb1, hb0, by simp at hlt; omega, World.block_lt_of_cell? W _ hc1, World.block_lt_of_cell? W _ hc0, Nat.le_refl _⟩
  rintro rfl
  simp [MemPlace.row] at hnd

theorem door_met2 (os : Os) (args : Array Value) : laidMetH Tryd.prog laid2 ((World.doorLaid Tryd.prog 57 os).forCall (fun _ _ => 0) ⟨#[], args, []⟩).memory :=
  laidMetH_of_parts3 (fuel := 8) (laidMet_of_run' 8 (by kernel_rfl) (by kernel_rfl)) (by kernel_rfl) (by kernel_rfl)

/-- A slice of ints of whatever kind that came in. -/
theorem ints_in {H : Type} {enc : TypeId × Value → H} {W : World} {base : Nat} {t e : TypeId} {k : IntKind} {v : Value} {d : DataW H} {p : List MemPlace} {sp : Nat → Bool} {hd : Bool}
    (ht : Tryd.prog.underlying t = some (.slice e)) (he : Tryd.prog.underlying e = some (.int k)) (hc : Tryd.prog.cellsOf e = 1)
    (hok : Value.okWide Tryd.prog W .any base t v) (h : DataW.Trod enc Tryd.prog W 0 sp hd t v d p) :
    ∃ A c, ∃ zs : List Int, v = .slice A zs.length c ∧ Sl W (· < W.heap.size) A (zs.map (Value.int k)) ∧ (∀ n ∈ zs, (Lit.int k n).wf = true) ∧ zs.length ≤ maxLen := by
  obtain ⟨a0, len, cap, rfl⟩ := okWide_slice ht hok
  obtain ⟨fuel, hf⟩ := h
  rcases open_ints ht he hc hf with ⟨hcs, _⟩ | ⟨x, l, c, zs, hcs, _, hl, hm, hz, _, hcell, hwz⟩
  · simp [Value.cells] at hcs
    obtain ⟨rfl, rfl, rfl⟩ := hcs
    exact ⟨none, 0, [], rfl, Sl.nil _ _ _, by simp, by simp⟩
  · simp [Value.cells] at hcs
    obtain ⟨rfl, rfl, rfl⟩ := hcs
    have hlz : (zs.take len).length = len := by rw [List.length_take, hz]; split <;> omega
    refine ⟨some x, cap, zs.take len, by rw [hlz], ?_, fun n hn => hwz n (List.mem_of_mem_take hn), by rw [hlz]; omega⟩
    · by_cases h0 : zs.take len = []
      · rw [h0]; exact Sl.nil _ _ _
      · have hpos : 0 < (zs.take len).length := List.length_pos_iff.2 h0
        have hz0 : 0 < zs.length := by simp at hpos; omega
        obtain ⟨b, off, spot⟩ := x
        have hc0 := hcell 0 hz0
        have hspot : spot = none := by simpa [Addr.add] using World.cell?_spot hc0
        subst hspot
        refine .inr ⟨b, off, by simpa [Addr.add] using World.block_lt_of_cell? W _ hc0, rfl, fun j u hu => ?_⟩
        have hj : j < zs.length := by
          have := (List.getElem?_eq_some_iff.1 hu).1
          simp at this; omega
        have h1 := hcell j hj
        rw [Addr.add_lit] at h1
        rw [h1]
        rw [List.getElem?_map, List.getElem?_take] at hu
        split at hu
        · rw [List.getElem?_eq_getElem hj] at hu
          simp only [Option.map_some, Option.some.injEq] at hu
          rw [← hu, List.getD_eq_getElem?_getD, List.getElem?_eq_getElem hj]; rfl
        · simp at hu

theorem i64s_in {H : Type} {enc : TypeId × Value → H} {W : World} {base : Nat} {v : Value} {d : DataW H} {p : List MemPlace} {sp : Nat → Bool} {hd : Bool}
    (hok : Value.okWide Tryd.prog W .any base 23 v) (h : DataW.Trod enc Tryd.prog W 0 sp hd 23 v d p) :
    ∃ A c, ∃ zs : List Int, v = .slice A zs.length c ∧ Sl W (· < W.heap.size) A (i64s zs) ∧ I64s zs ∧ zs.length ≤ 9223372036854775807 := by
  obtain ⟨A, c, zs, h1, h2, h3, h4⟩ := ints_in Tryd.underlying23 Tryd.underlying3 (by kernel_rfl) hok h
  exact ⟨A, c, zs, h1, h2, fun x hx => by simpa [Lit.wf, IntKind.min, IntKind.max, IntKind.signed, IntKind.bits, I64] using h3 x hx, by unfold maxLen at h4; omega⟩

theorem u8s_in {H : Type} {enc : TypeId × Value → H} {W : World} {base : Nat} {v : Value} {d : DataW H} {p : List MemPlace} {sp : Nat → Bool} {hd : Bool}
    (hok : Value.okWide Tryd.prog W .any base 22 v) (h : DataW.Trod enc Tryd.prog W 0 sp hd 22 v d p) :
    ∃ A c, ∃ ds : List Nat, v = .slice A ds.length c ∧ Sl W (· < W.heap.size) A (u8s ds) ∧ Bytes ds ∧ ds.length ≤ 9223372036854775807 := by
  obtain ⟨A, c, zs, h1, h2, h3, h4⟩ := ints_in Tryd.underlying22 Tryd.underlying5 (by kernel_rfl) hok h
  have h5 : ∀ x ∈ zs, 0 ≤ x ∧ x ≤ 255 := fun x hx => by simpa [Lit.wf, IntKind.min, IntKind.max, IntKind.signed, IntKind.bits] using h3 x hx
  refine ⟨A, c, zs.map Int.toNat, by rw [h1, List.length_map], ?_, ?_, by rw [List.length_map]; unfold maxLen at h4; omega⟩
  · have : u8s (zs.map Int.toNat) = zs.map (Value.int .u8) := by
      unfold u8s
      rw [List.map_map]
      refine List.map_congr_left fun x hx => ?_
      simp only [Function.comp]
      rw [Int.toNat_of_nonneg (h5 x hx).1]
    rw [this]; exact h2
  · intro x hx
    obtain ⟨y, hy, rfl⟩ := List.mem_map.1 hx
    have := h5 y hy
    omega

end Go.Proofs.YtabaholflahepaaDoor
