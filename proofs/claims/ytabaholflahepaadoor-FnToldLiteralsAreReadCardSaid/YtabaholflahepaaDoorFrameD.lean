/-
  A slice of bytes that came in, and its capacity.
-/
import Derived.Test.YtabaholflahepaaDoorFrame
namespace Go.Proofs.YtabaholflahepaaDoor
open Go.ChangeShapes Go.WideShapes Go.ChangeAt Go.RowKit
set_option maxRecDepth 100000

theorem ints_inC {H : Type} {enc : TypeId × Value → H} {W : World} {base : Nat} {t e : TypeId} {k : IntKind} {v : Value} {d : DataW H} {p : List MemPlace} {sp : Nat → Bool} {hd : Bool}
    (ht : Tryd.prog.underlying t = some (.slice e)) (he : Tryd.prog.underlying e = some (.int k)) (hc : Tryd.prog.cellsOf e = 1)
    (hok : Value.okWide Tryd.prog W .any base t v) (h : DataW.Trod enc Tryd.prog W 0 sp hd t v d p) :
    ∃ A c, ∃ zs : List Int, v = .slice A zs.length c ∧ Sl W (· < W.heap.size) A (zs.map (Value.int k)) ∧ (∀ n ∈ zs, (Lit.int k n).wf = true) ∧ zs.length ≤ maxLen ∧ zs.length ≤ c := by
  obtain ⟨a0, len, cap, rfl⟩ := okWide_slice ht hok
  obtain ⟨fuel, hf⟩ := h
  rcases open_ints ht he hc hf with ⟨hcs, _⟩ | ⟨x, l, c, zs, hcs, _, hl, hm, hz, _, hcell, hwz⟩
  · simp [Value.cells] at hcs
    obtain ⟨rfl, rfl, rfl⟩ := hcs
    exact ⟨none, 0, [], rfl, Sl.nil _ _ _, by simp, by simp, by simp⟩
  · simp [Value.cells] at hcs
    obtain ⟨rfl, rfl, rfl⟩ := hcs
    have hlz : (zs.take len).length = len := by rw [List.length_take, hz]; split <;> omega
    refine ⟨some x, cap, zs.take len, by rw [hlz], ?_, fun n hn => hwz n (List.mem_of_mem_take hn), by rw [hlz]; omega, by rw [hlz]; omega⟩
    · by_cases h0 : zs.take len = []
      · rw [h0]; exact Sl.nil _ _ _
      · have hpos : 0 < (zs.take len).length := List.length_pos_iff.2 h0
        have hz0 : 0 < zs.length := by simp at hpos; omega
        obtain ⟨b, off, spot⟩ := x
        have hc0 := hcell 0 hz0
        have hspot : spot = none := by simpa [Addr.add] using World.cell?_spot hc0
        subst hspot
        refine .inr ⟨b, off, by simpa [Addr.add] using World.block_lt_of_cell? W _ hc0, rfl, fun j u hu => ?_⟩
        have hj : j < zs.length := by
          have := (List.getElem?_eq_some_iff.1 hu).1
          simp at this; omega
        have h1 := hcell j hj
        rw [Addr.add_lit] at h1
        rw [h1]
        rw [List.getElem?_map, List.getElem?_take] at hu
        split at hu
        · rw [List.getElem?_eq_getElem hj] at hu
          simp only [Option.map_some, Option.some.injEq] at hu
          rw [← hu, List.getD_eq_getElem?_getD, List.getElem?_eq_getElem hj]; rfl
        · simp at hu

theorem u8s_inC {H : Type} {enc : TypeId × Value → H} {W : World} {base : Nat} {v : Value} {d : DataW H} {p : List MemPlace} {sp : Nat → Bool} {hd : Bool}
    (hok : Value.okWide Tryd.prog W .any base 22 v) (h : DataW.Trod enc Tryd.prog W 0 sp hd 22 v d p) :
    ∃ A c, ∃ ds : List Nat, v = .slice A ds.length c ∧ Sl W (· < W.heap.size) A (u8s ds) ∧ Bytes ds ∧ ds.length ≤ 9223372036854775807 ∧ ds.length ≤ c := by
  obtain ⟨A, c, zs, h1, h2, h3, h4, h6⟩ := ints_inC Tryd.underlying22 Tryd.underlying5 (by kernel_rfl) hok h
  have h5 : ∀ x ∈ zs, 0 ≤ x ∧ x ≤ 255 := fun x hx => by simpa [Lit.wf, IntKind.min, IntKind.max, IntKind.signed, IntKind.bits] using h3 x hx
  refine ⟨A, c, zs.map Int.toNat, by rw [h1, List.length_map], ?_, ?_, by rw [List.length_map]; unfold maxLen at h4; omega, by rw [List.length_map]; exact h6⟩
  · have : u8s (zs.map Int.toNat) = zs.map (Value.int .u8) := by
      unfold u8s
      rw [List.map_map]
      refine List.map_congr_left fun x hx => ?_
      simp only [Function.comp]
      rw [Int.toNat_of_nonneg (h5 x hx).1]
    rw [this]; exact h2
  · intro x hx
    obtain ⟨y, hy, rfl⟩ := List.mem_map.1 hx
    have := h5 y hy
    omega
end Go.Proofs.YtabaholflahepaaDoor
