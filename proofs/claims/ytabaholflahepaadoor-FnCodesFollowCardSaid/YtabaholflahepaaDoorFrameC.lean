/-
  The frames of the rows whose laid list is io.EOF and the two tables of words.
-/
import Derived.Test.YtabaholflahepaaDoorFrameB
import Derived.Test.YtabaholflahepaaDoorBase
namespace Go.Proofs.YtabaholflahepaaDoor
open Go.ChangeShapes Go.WideShapes Go.ChangeAt Go.RowKit
set_option maxRecDepth 100000

def laid3 : List (String × DataW Unit) := [("io.EOF", Rows.laid_io_EOF), ("framesunpacked/pub/zstd.literalLengthBase", Rows.laid_framesunpacked_pub_zstd_literalLengthBase), ("framesunpacked/pub/zstd.matchLengthBase", Rows.laid_framesunpacked_pub_zstd_matchLengthBase)]

theorem gLit : Tryd.prog.globalNamed "framesunpacked/pub/zstd.literalLengthBase" = some 0 := by kernel_rfl
theorem gMat : Tryd.prog.globalNamed "framesunpacked/pub/zstd.matchLengthBase" = some 1 := by kernel_rfl
theorem gLitt : (Tryd.prog.globals[0]?).map (·.type) = some 27 := by kernel_rfl
theorem gMatt : (Tryd.prog.globals[1]?).map (·.type) = some 27 := by kernel_rfl
theorem cells91 : Tryd.prog.cellsOf 91 = 1 := by kernel_rfl

theorem lits_inj {H : Type} {k : IntKind} : ∀ (a b : List Int), (lits k a : List (DataW H)) = lits k b → a = b
  | [], [], _ => rfl
  | [], _ :: _, h => by simp [lits] at h
  | _ :: _, [], h => by simp [lits] at h
  | x :: a, y :: b, h => by
    simp only [lits, List.map_cons, List.cons.injEq, DataW.lit.injEq, Lit.int.injEq, true_and] at h
    rw [h.1, lits_inj a b (by simpa [lits] using h.2)]

/-- A table of words, read back. -/
theorem words_in {W : World} {fuel : Nat} {cs : List Value} {p : List MemPlace} {ws : List Nat}
    (h : DataW.trod (fun _ => ()) Tryd.prog W 0 (fun _ => true) false fuel 27 cs = some (.slice (lits .u32 (ws.map Int.ofNat)) [], p)) (hpos : 0 < ws.length) :
    ∃ a o c, cs = [.slice (some ⟨a, o, none⟩) ws.length c] ∧ ∀ j u, (u32s ws)[j]? = some u → W.cell? ⟨a, o + j, none⟩ = some u := by
  rcases open_ints Tryd.underlying27 Tryd.underlying91 cells91 h with ⟨_, hx⟩ | ⟨a, len, cap, zs, rfl, _, hl, _, hz, hx, hcell, _⟩
  · simp at hx
  · simp only [Prod.mk.injEq, DataW.slice.injEq] at hx
    obtain ⟨⟨h1, h2⟩, _⟩ := hx
    have e1 := lits_inj _ _ h1
    have e2 : zs.drop len = [] := by
      have := congrArg List.length h2
      simp [lits] at this
      exact List.drop_eq_nil_of_le (by omega)
    have hzl : zs.length = cap := by simpa using hz
    have hlen : len = ws.length := by
      have := congrArg List.length e1
      simp at this
      omega
    have hzs : zs = ws.map Int.ofNat := by
      rw [← List.take_append_drop len zs, e2, List.append_nil, ← e1]
    obtain ⟨b, off, spot⟩ := a
    have hz0 : 0 < zs.length := by rw [hzs, List.length_map]; exact hpos
    have hc0 := hcell 0 hz0
    have hspot : spot = none := by simpa [Addr.add] using World.cell?_spot hc0
    subst hspot
    refine ⟨b, off, cap, by rw [hlen], fun j u hu => ?_⟩
    have hj : j < ws.length := by
      have := (List.getElem?_eq_some_iff.1 hu).1
      simpa using this
    have hc := hcell j (by rw [hzs, List.length_map]; exact hj)
    rw [Addr.add_lit] at hc
    rw [hc, ← hu, u32s_at hj, hzs]
    simp [List.getD_eq_getElem?_getD, List.getElem?_eq_getElem hj]

theorem bases_of_laid {W : World} (h : laidMetH Tryd.prog laid3 W) : Bases W.heap.size W ∧ Eof W.heap.size W := by
  rw [MakeChecks.laidMetH_plain _ _ _ (by kernel_rfl)] at h
  obtain ⟨ps, ⟨g0, t0, cs0, f0, p0, q0, hg0, ht0, hv0, hd0, ⟨g1, t1, cs1, f1, p1, q1, hg1, ht1, hv1, hd1, ⟨g2, t2, cs2, f2, p2, q2, hg2, ht2, hv2, hd2, hq2, e2⟩, e1⟩, e0⟩, hnd, hrows⟩ := h
  obtain rfl := Option.some.inj (gEOF.symm.trans hg0)
  obtain rfl := Option.some.inj (gLit.symm.trans hg1)
  obtain rfl := Option.some.inj (gMat.symm.trans hg2)
  obtain rfl := Option.some.inj (gEOFt.symm.trans ht0)
  obtain rfl := Option.some.inj (gLitt.symm.trans ht1)
  obtain rfl := Option.some.inj (gMatt.symm.trans ht2)
  have hq2' : q2 = [] := hq2
  subst hq2'
  subst e2
  subst e1
  subst e0
  obtain ⟨l0⟩ := cs0
  have ok0 : ∀ u v, l0 = [.iface u v] → Value.okWide Tryd.prog W .any 0 u v := fun u v e => by
    subst e
    exact (hrows 3 0 (by simp [MemPlace.row])).2 u v (by simpa using World.var?_cell hg0 hv0 0)
  obtain ⟨a0, s0, rfl, hc0, hs0, hz0, rfl⟩ := errorString_of_trod Tryd.underlying163 row235u Tryd.underlying235 Tryd.underlying237 rfl rfl Tryd.underlying9 cells237 cells9 hd0 ok0
  obtain ⟨c0, t0, hb0⟩ := (hrows a0.block a0.off (by simp [MemPlace.row])).1
  have v0 : W.cell? ⟨3, 0, none⟩ = some (.iface 235 (.pointer (some a0))) := by simpa using World.var?_cell hg0 hv0 0
  have hlt := World.block_lt_of_cell? W _ v0
  obtain ⟨l1⟩ := cs1
  obtain ⟨l2⟩ := cs2
  obtain ⟨a1, o1, c1, rfl, hw1⟩ := words_in (ws := litWords) hd1 (by decide)
  obtain ⟨a2, o2, c2, rfl, hw2⟩ := words_in (ws := matWords) hd2 (by decide)
  have v1 : W.cell? ⟨0, 0, none⟩ = some (.slice (some ⟨a1, o1, none⟩) 20 c1) := World.var?_cell hg1 hv1 0
  have v2 : W.cell? ⟨1, 0, none⟩ = some (.slice (some ⟨a2, o2, none⟩) 21 c2) := World.var?_cell hg2 hv2 0
  have n1 : a1 < W.heap.size := World.block_lt_of_cell? W _ (hw1 0 _ rfl)
  have n2 : a2 < W.heap.size := World.block_lt_of_cell? W _ (hw2 0 _ rfl)
  simp at hlt
  exact ⟨⟨a1, o1, c1, a2, o2, c2, v1, v2, hw1, hw2, by omega, n1, n2⟩, ⟨a0, c0, t0, v0, hb0, by omega, World.block_lt_of_cell? W _ hc0, Nat.le_refl _⟩⟩

theorem door_met3 (os : Os) (args : Array Value) : laidMetH Tryd.prog laid3 ((World.doorLaid Tryd.prog 57 os).forCall (fun _ _ => 0) ⟨#[], args, []⟩).memory :=
  laidMetH_of_parts3 (fuel := 8) (laidMet_of_run' 8 (by kernel_rfl) (by kernel_rfl)) (by kernel_rfl) (by kernel_rfl)
end Go.Proofs.YtabaholflahepaaDoor
