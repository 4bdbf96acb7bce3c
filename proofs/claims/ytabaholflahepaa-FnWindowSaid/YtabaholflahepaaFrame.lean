/-
  What the rows' frames share: slices of bytes and ints, a slice of slices of bytes that came in.
-/
import Derived.Test.YtabaholflahepaaRows
import Derived.Test.YtabaholflahepaaLow
import Derived.Test.YtabaholflahepaaNum
import Derived.Test.YtabaholflahepaaWinZz
import Derived.ProofKit
import Derived.Deep.Matrix
namespace Go.Proofs.Ytabaholflahepaa
open Go.ChangeShapes Go.WideShapes Go.ChangeAt Go.RowKit
set_option maxRecDepth 100000

theorem own : ownKnob Try.prog.godebug = none := by kernel_rfl
theorem laidOut : laidOutB Try.prog = true := by kernel_rfl

/-- A slice of ints of whatever kind that came in. -/
theorem ints_in {H : Type} {enc : TypeId × Value → H} {W : World} {base : Nat} {t e : TypeId} {k : IntKind} {v : Value} {d : DataW H} {p : List MemPlace} {sp : Nat → Bool} {hd : Bool}
    (ht : Try.prog.underlying t = some (.slice e)) (he : Try.prog.underlying e = some (.int k)) (hc : Try.prog.cellsOf e = 1)
    (hok : Value.okWide Try.prog W .any base t v) (h : DataW.Trod enc Try.prog W 0 sp hd t v d p) :
    ∃ A c, ∃ zs : List Int, v = .slice A zs.length c ∧ Sl W (· < W.heap.size) A (zs.map (Value.int k)) ∧ (∀ n ∈ zs, (Lit.int k n).wf = true) ∧ zs.length ≤ maxLen ∧ zs.length ≤ c := by
  obtain ⟨a0, len, cap, rfl⟩ := okWide_slice ht hok
  obtain ⟨fuel, hf⟩ := h
  rcases open_ints ht he hc hf with ⟨hcs, _⟩ | ⟨x, l, c, zs, hcs, _, hl, hm, hz, _, hcell, hwz⟩
  · simp [Value.cells] at hcs
    obtain ⟨rfl, rfl, rfl⟩ := hcs
    exact ⟨none, 0, [], rfl, Sl.nil _ _ _, by simp, by simp, by simp⟩
  · simp [Value.cells] at hcs
    obtain ⟨rfl, rfl, rfl⟩ := hcs
    have hlz : (zs.take len).length = len := by rw [List.length_take, hz]; split <;> omega
    refine ⟨some x, cap, zs.take len, by rw [hlz], ?_, fun n hn => hwz n (List.mem_of_mem_take hn), by rw [hlz]; omega, by rw [hlz]; omega⟩
    · by_cases h0 : zs.take len = []
      · rw [h0]; exact Sl.nil _ _ _
      · have hpos : 0 < (zs.take len).length := List.length_pos_iff.2 h0
        have hz0 : 0 < zs.length := by simp at hpos; omega
        obtain ⟨b, off, spot⟩ := x
        have hc0 := hcell 0 hz0
        have hspot : spot = none := by simpa [Addr.add] using World.cell?_spot hc0
        subst hspot
        refine .inr ⟨b, off, by simpa [Addr.add] using World.block_lt_of_cell? W _ hc0, rfl, fun j u hu => ?_⟩
        have hj : j < zs.length := by
          have := (List.getElem?_eq_some_iff.1 hu).1
          simp at this; omega
        have h1 := hcell j hj
        rw [Addr.add_lit] at h1
        rw [h1]
        rw [List.getElem?_map, List.getElem?_take] at hu
        split at hu
        · rw [List.getElem?_eq_getElem hj] at hu
          simp only [Option.map_some, Option.some.injEq] at hu
          rw [← hu, List.getD_eq_getElem?_getD, List.getElem?_eq_getElem hj]; rfl
        · simp at hu

theorem i64s_in {H : Type} {enc : TypeId × Value → H} {W : World} {base : Nat} {v : Value} {d : DataW H} {p : List MemPlace} {sp : Nat → Bool} {hd : Bool}
    (hok : Value.okWide Try.prog W .any base 37 v) (h : DataW.Trod enc Try.prog W 0 sp hd 37 v d p) :
    ∃ A c, ∃ zs : List Int, v = .slice A zs.length c ∧ Sl W (· < W.heap.size) A (i64s zs) ∧ I64s zs ∧ zs.length ≤ 9223372036854775807 ∧ zs.length ≤ c := by
  obtain ⟨A, c, zs, h1, h2, h3, h4, h6⟩ := ints_in Try.underlying37 Try.underlying3 (by kernel_rfl) hok h
  exact ⟨A, c, zs, h1, h2, fun x hx => by simpa [Lit.wf, IntKind.min, IntKind.max, IntKind.signed, IntKind.bits, I64] using h3 x hx, by unfold maxLen at h4; omega, h6⟩

theorem u8s_in {H : Type} {enc : TypeId × Value → H} {W : World} {base : Nat} {v : Value} {d : DataW H} {p : List MemPlace} {sp : Nat → Bool} {hd : Bool}
    (hok : Value.okWide Try.prog W .any base 25 v) (h : DataW.Trod enc Try.prog W 0 sp hd 25 v d p) :
    ∃ A c, ∃ ds : List Nat, v = .slice A ds.length c ∧ Sl W (· < W.heap.size) A (u8s ds) ∧ Bytes ds ∧ ds.length ≤ 9223372036854775807 ∧ ds.length ≤ c := by
  obtain ⟨A, c, zs, h1, h2, h3, h4, h6⟩ := ints_in Try.underlying25 Try.underlying5 (by kernel_rfl) hok h
  have h5 : ∀ x ∈ zs, 0 ≤ x ∧ x ≤ 255 := fun x hx => by simpa [Lit.wf, IntKind.min, IntKind.max, IntKind.signed, IntKind.bits] using h3 x hx
  refine ⟨A, c, zs.map Int.toNat, by rw [h1, List.length_map], ?_, ?_, by rw [List.length_map]; unfold maxLen at h4; omega, by rw [List.length_map]; exact h6⟩
  · have : u8s (zs.map Int.toNat) = zs.map (Value.int .u8) := by
      unfold u8s
      rw [List.map_map]
      refine List.map_congr_left fun x hx => ?_
      simp only [Function.comp]
      rw [Int.toNat_of_nonneg (h5 x hx).1]
    rw [this]; exact h2
  · intro x hx
    obtain ⟨y, hy, rfl⟩ := List.mem_map.1 hx
    have := h5 y hy
    omega


theorem plain_addr {W : World} {a : Addr} {v : Value} (h : W.cell? (a.add 0) = some v) : a = ⟨a.block, a.off, none⟩ := by
  obtain ⟨b, o, s⟩ := a
  have hs : s = none := by simpa [Addr.add] using World.cell?_spot h
  rw [hs]

theorem parts_in {H : Type} {enc : TypeId × Value → H} {W : World} {base : Nat} {v : Value} {d : DataW H} {p : List MemPlace} {hd : Bool}
    (hok : Value.okWide Try.prog W .any base 22 v) (h : DataW.Trod enc Try.prog W 0 (fun _ => true) hd 22 v d p) :
    ∃ A c, ∃ bss : List (List Nat), v = .slice A bss.length c ∧ Parts W (· < W.heap.size) A bss ∧ bss.length ≤ 9223372036854775807 ∧ ∀ bs ∈ bss, bs.length ≤ 9223372036854775807 := by
  obtain ⟨a0, len, cap, rfl⟩ := okWide_slice Try.underlying22 hok
  obtain ⟨fuel, hf⟩ := h
  rcases Deep.open_int_rows Try.underlying22 Try.underlying25 Try.underlying5 (by kernel_rfl) (by kernel_rfl) hf with ⟨hcs, _⟩ | ⟨a, l, c, A, L, C, Z, hcs, _, hl, hm, _, hx⟩
  · simp [Value.cells] at hcs
    obtain ⟨rfl, rfl, rfl⟩ := hcs
    exact ⟨none, 0, [], rfl, ⟨[], Sl.nil _ _ _, rfl, fun k bs h => by simp at h⟩, by simp, by simp⟩
  · simp [Value.cells] at hcs
    obtain ⟨rfl, rfl, rfl⟩ := hcs
    have key : ∀ r, r < len → ∃ bs : List Nat, bs.length = L r ∧ bs.length ≤ 9223372036854775807 ∧ Sl W (· < W.heap.size) (A r) (u8s bs) := by
      intro r hr
      obtain ⟨h1, h2, h3, h4, h5, h6, h7⟩ := hx r (by omega)
      have h5' : ∀ x ∈ Z r, 0 ≤ x ∧ x ≤ 255 := fun x hx => by simpa [Lit.wf, IntKind.min, IntKind.max, IntKind.signed, IntKind.bits] using h5 x hx
      have hzl : ((Z r).take (L r)).length = L r := by rw [List.length_take]; omega
      refine ⟨((Z r).take (L r)).map Int.toNat, by rw [List.length_map, hzl], by rw [List.length_map, hzl]; unfold maxLen at h3; omega, ?_⟩
      have hu : u8s (((Z r).take (L r)).map Int.toNat) = ((Z r).take (L r)).map (Value.int .u8) := by
        unfold u8s
        rw [List.map_map]
        refine List.map_congr_left fun x hx => ?_
        simp only [Function.comp]
        rw [Int.toNat_of_nonneg (h5' x (List.mem_of_mem_take hx)).1]
      rw [hu]
      by_cases h0 : L r = 0
      · rw [h0]; exact Sl.nil _ _ _
      · cases hA : A r with
        | none => have := h6 hA; omega
        | some a' =>
          have hc := (h7 a' hA).2
          have hp := plain_addr (hc 0 (by omega))
          refine .inr ⟨a'.block, a'.off, by simpa [Addr.add] using World.block_lt_of_cell? W _ (hc 0 (by omega)), by rw [← hp], fun j u hu => ?_⟩
          have hj : j < ((Z r).take (L r)).length := by
            have := (List.getElem?_eq_some_iff.1 hu).1
            rwa [List.length_map] at this
          rw [hzl] at hj
          have h8 := hc j (by omega)
          rw [hp, Addr.add_lit] at h8
          rw [h8]
          rw [List.getElem?_map, List.getElem?_take, if_pos hj, List.getElem?_eq_getElem (by omega)] at hu
          simp only [Option.map_some, Option.some.injEq] at hu
          rw [← hu, List.getD_eq_getElem?_getD, List.getElem?_eq_getElem (by omega)]; rfl
    obtain ⟨f, hf2⟩ := Deep.choose_lt key
    have hbl : ((List.range len).map f).length = len := by simp
    refine ⟨some a, cap, (List.range len).map f, by rw [hbl], ⟨(List.range len).map fun r => .slice (A r) (L r) (C r), ?_, by simp, ?_⟩, by rw [hbl]; unfold maxLen at hm; omega, ?_⟩
    · by_cases h0 : len = 0
      · subst h0; exact Sl.nil _ _ _
      · have hc0 := (hx 0 (by omega)).1
        have hp := plain_addr hc0
        refine .inr ⟨a.block, a.off, by simpa [Addr.add] using World.block_lt_of_cell? W _ hc0, by rw [← hp], fun j u hu => ?_⟩
        have hj : j < len := by
          have := (List.getElem?_eq_some_iff.1 hu).1
          simpa using this
        have h8 := (hx j (by omega)).1
        rw [hp, Addr.add_lit] at h8
        rw [h8]
        simpa [hj] using hu
    · intro k bs hk
      have hk2 : k < len := by
        have := (List.getElem?_eq_some_iff.1 hk).1
        simpa using this
      have hbs : bs = f k := by simpa [hk2] using hk.symm
      obtain ⟨h1, h2, h3⟩ := hf2 k hk2
      subst hbs
      exact ⟨A k, C k, by simp [hk2, h1], h3, by rw [h1]; exact (hx k (by omega)).2.1⟩
    · intro bs hbs
      obtain ⟨r, hr, rfl⟩ := List.mem_map.1 hbs
      exact (hf2 r (List.mem_range.1 hr)).2.1
end Go.Proofs.Ytabaholflahepaa
