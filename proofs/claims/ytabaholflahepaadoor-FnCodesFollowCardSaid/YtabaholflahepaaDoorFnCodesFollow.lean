/-
  The walk of laws.FnCodesFollow: it returns true, and nothing that was there has turned.
-/
import Derived.Test.YtabaholflahepaaDoorFnRows
namespace Go.Proofs.YtabaholflahepaaDoor
open Go.RowKit

theorem follow0 : ∀ s, s < 35 → (codeOf 0 (s + 1)).1 = (codeOf 0 s).1 + 2 ^ (codeOf 0 s).2 ∧ (codeOf 0 s).2 ≤ 16 ∧ (codeOf 0 s).1 ≤ 65536 := by decide
theorem follow2 : ∀ s, s < 52 → (codeOf 2 (s + 1)).1 = (codeOf 2 s).1 + 2 ^ (codeOf 2 s).2 ∧ (codeOf 2 s).2 ≤ 16 ∧ (codeOf 2 s).1 ≤ 65539 := by decide
/-- The first so many codes as states. -/
def firsts (n : Nat) : List (Nat × Nat × Nat) := (List.range n).map fun s => (s, 0, 0)
theorem firsts_at {n s : Nat} (h : s < n) : (firsts n)[s]? = some (s, 0, 0) := by simp [firsts, h]
theorem firsts_push (n : Nat) : firsts (n + 1) = firsts n ++ [(n, 0, 0)] := by simp [firsts, List.range_succ]
theorem firsts_length (n : Nat) : (firsts n).length = n := by simp [firsts]

set_option maxHeartbeats 2000000 in
set_option maxRecDepth 4000 in
theorem follow_walk (k top p : Nat) (hk : k = 0 ∧ top = 35 ∧ p = 0 ∨ k = 2 ∧ top = 52 ∧ p = 3) (x : Int) (w : World) (hx : I64 x) (hxk : x % 2 * 2 = k) (hb : Bases w.heap.size w) (he : Eof w.heap.size w) :
    Calls Tryd.prog 7 #[.int .i64 x] w fun e w' => e = .returned (.bool true) ∧ Kept w w' := by
  have hx2 : 2 * (x % 2) = (k : Int) := by omega
  have htopi : 35 + 17 * ((k : Int) / 2) = (top : Int) := by omega
  have hpi : 3 * ((k : Int) / 2) = (p : Int) := by omega
  have htop : top ≤ 52 := by omega
  have hk3 : k = 0 ∨ k = 1 ∨ k = 2 := by omega
  have htk : topK k = top := by rcases hk with ⟨rfl, rfl, _⟩ | ⟨rfl, rfl, _⟩ <;> rfl
  have hfit : ∀ x ∈ firsts (top + 1), FitE x := by
    intro x hx
    obtain ⟨s, hs, rfl⟩ := List.mem_map.1 hx
    have := List.mem_range.1 hs
    refine ⟨?_, ?_, ?_⟩ <;> simp only <;> omega
  have hall : ∀ x ∈ firsts (top + 1), x.1 ≤ topK k := by
    intro x hx
    obtain ⟨s, hs, rfl⟩ := List.mem_map.1 hx
    have := List.mem_range.1 hs
    simp only [htk]; omega
  have hrow : ∀ s, rowK k (s, 0, 0) = ((codeOf k s).1, (codeOf k s).2, 0, 0) := by
    intro s
    rcases hk with ⟨rfl, _, _⟩ | ⟨rfl, _, _⟩ <;> rfl
  have hfol : ∀ s, s < top → (codeOf k (s + 1)).1 = (codeOf k s).1 + 2 ^ (codeOf k s).2 ∧ (codeOf k s).2 ≤ 16 ∧ (codeOf k s).1 ≤ 65539 := by
    intro s hs
    rcases hk with ⟨rfl, rfl, _⟩ | ⟨rfl, rfl, _⟩
    · have := follow0 s hs; omega
    · exact follow2 s hs
  have hfirst : (codeOf k 0).1 = p := by rcases hk with ⟨rfl, _, rfl⟩ | ⟨rfl, _, rfl⟩ <;> rfl
  have hlast : (codeOf k top).2 = 16 := by rcases hk with ⟨rfl, rfl, _⟩ | ⟨rfl, rfl, _⟩ <;> decide
  have Hk3 := Lib.hid hk3
  have Hfit := Lib.hid hfit
  have Hall := Lib.hid hall
  have Hrow := Lib.hid hrow
  have Hfol := Lib.hid hfol
  have Hfirst := Lib.hid hfirst
  have Hlast := Lib.hid hlast
  clear hk hxk hk3 htk hfit hall hrow hfol hfirst hlast
  go_enter Tryd.func7, Tryd.ntmps7
  go_wp2_with (go_at_call 23; refine (below_any x 2 hx (by decide) (by decide) _).mono ?_; rintro e w1 ⟨rfl, rfl⟩)
  go_loopg [4, 18] (top + 2) (fun gg v i wr => ∃ (j : Nat) (A1 : Option Addr) (c1 : Nat), top + 1 - j < gg ∧ j ≤ top + 1 ∧ i = .int .i64 j ∧ v = .slice A1 j c1 ∧ wr.ownsRow w.heap.size 48 3 (.slice A1 j c1) j (flat cel3 (firsts j)) ∧ Kept w wr)
  case atStart => exact ⟨0, none, 0, by omega, by omega, rfl, rfl, World.ownsRow_nil _ _ _ _, Keep.refl _ _⟩
  case round =>
    obtain ⟨j, A1, c1, q1, q2, rfl, rfl, qo, qk⟩ := hrel
    by_cases hlt : j < top + 1
    · go_wp2_with (at_builtin; refine wpList_push rfl _ _ rfl elCellI qk A1 j c1 _ rfl qo (cel3 (j, 0, 0)) (by simp [Act.eval]) rfl (by simp [cel3, Value.oneCell']) (by omega) ?_; intro A3 c3 w3 hown3 hk3 _)
      go_roundg (top + 1 - j)
      case measure => exact q1
      case rel => exact ⟨j + 1, A3, c3, by omega, by omega, rfl, rfl, by rw [firsts_push, flat_append]; exact hown3, hk3⟩
    · obtain rfl : j = top + 1 := by omega
      have hs1 : Sl wr (fun k => w.heap.size ≤ k ∧ k < wr.heap.size) A1 (flat cel3 (firsts (top + 1))) := Sl.of_own qo
      have himpl := implRows k Hk3.out A1 c1 (top + 1) (firsts (top + 1)) (firsts_length _).symm wr hs1 Hfit.out ((hb.kept qk).up qk.size) ((he.kept qk).up qk.size (Nat.le_refl _)) (by omega)
      have Himpl := Lib.hid himpl
      clear himpl hs1 qo
      go_wp2_with fail
      refine Himpl.out.mono ?_
      rintro e w1 ⟨hk1, ⟨A4, c4, rfl, _, ho4⟩ | ⟨_, hno⟩⟩
      · have hs4 : Sl w1 (fun k => wr.heap.size ≤ k ∧ k < w1.heap.size) A4 (flat row4 ((firsts (top + 1)).map (rowK k))) := Sl.of_own ho4
        have hat : ∀ s, s < top + 1 → ((firsts (top + 1)).map (rowK k))[s]? = some ((codeOf k s).1, (codeOf k s).2, 0, 0) := fun s hs => by
          rw [List.getElem?_map, firsts_at hs, Option.map_some, Hrow.out]
        have hl4 : ((firsts (top + 1)).map (rowK k)).length = top + 1 := by rw [List.length_map, firsts_length]
        have hkw := qk.trans hk1
        obtain ⟨g, o, hR, rfl, hc⟩ := hs4.get (by rw [flat_length row4_length, hl4]; omega)
        have hcell : ∀ s, s < top + 1 → w1.cell? ⟨g, o + s * 4, none⟩ = some (.int .i64 (codeOf k s).1) ∧ w1.cell? ⟨g, o + s * 4 + 1, none⟩ = some (.int .i64 (codeOf k s).2) := fun s hs =>
          ⟨hc (s * 4) _ (flat_at row4_length 0 (hat s hs) (by decide)), by rw [Nat.add_assoc]; exact hc (s * 4 + 1) _ (flat_at row4_length 1 (hat s hs) (by decide))⟩
        have r0 := (hcell 0 (by omega)).1
        rw [Hfirst.out] at r0
        simp only [Nat.zero_mul, Nat.add_zero] at r0
        have Hcell := Lib.hid hcell
        clear hc hat hl4 ho4 hs4 hcell
        go_wp2
        go_loopg [53] (top + 1) (fun gg i wr => ∃ s : Nat, top - s < gg ∧ s ≤ top ∧ i = .int .i64 s ∧ Kept w1 wr)
        case atStart => exact ⟨0, by omega, by omega, rfl, Keep.refl _ _⟩
        case round =>
          obtain ⟨s, q1, q2, rfl, qk⟩ := hrel
          by_cases hlt : s < top
          · obtain ⟨f1, f2, f3⟩ := Hfol.out s hlt
            have d0 := qk.cell (Hcell.out s (by omega)).1 (fun h => h)
            have d1 := qk.cell (Hcell.out s (by omega)).2 (fun h => h)
            have d2 := qk.cell (Hcell.out (s + 1) (by omega)).1 (fun h => h)
            rw [f1] at d2
            generalize (codeOf k s).1 = B at d0 d2 f3
            generalize (codeOf k s).2 = m at d1 d2 f2
            obtain ⟨X, hX⟩ : ∃ X, X = 2 ^ m := ⟨_, rfl⟩
            have hXi : (2 : Int) ^ m = (X : Int) := by rw [two_pow_int, hX]
            have hX2 : X ≤ 65536 := by rw [hX]; exact pow_le_16 f2
            rw [← hX] at d2
            have d3 : wr.cell? ⟨g, o + (s + 1) * 4, none⟩ = some (.int .i64 ((B : Int) + (X : Int))) := d2
            have wr1 : IntKind.i64.wrap (X : Int) = X := by rw [IntKind.wrap_i64]; omega
            have wr2 : IntKind.i64.wrap ((B : Int) + (X : Int)) = (B : Int) + (X : Int) := by rw [IntKind.wrap_i64]; omega
            have wr3 : IntKind.i64.wrap ((s : Int) + 1) = (s : Int) + 1 := by rw [IntKind.wrap_i64]; omega
            clear d2 hX f1
            go_wp2
            go_quiet (fail)
            go_wp2
            go_roundg (top - s)
            case measure => exact q1
            case rel => exact ⟨s + 1, by omega, by omega, rfl, qk.drewN _⟩
          · obtain rfl : s = top := by omega
            have d1 := qk.cell (Hcell.out s (by omega)).2 (fun h => h)
            rw [Hlast.out] at d1
            go_wp2
            go_ret
            exact ⟨rfl, hkw.trans qk⟩
      · exact absurd Hall.out hno

theorem fnCodesFollow_walk (x : Int) (w : World) (hx : I64 x) (he : Bases w.heap.size w ∧ Eof w.heap.size w) :
    Calls Tryd.prog 7 #[.int .i64 x] w fun e w' => e = .returned (.bool true) ∧ Kept w w' := by
  rcases (show x % 2 = 0 ∨ x % 2 = 1 by omega) with h | h
  · exact follow_walk 0 35 0 (.inl ⟨rfl, rfl, rfl⟩) x w hx (by rw [h]; rfl) he.1 he.2
  · exact follow_walk 2 52 3 (.inr ⟨rfl, rfl, rfl⟩) x w hx (by rw [h]; rfl) he.1 he.2
end Go.Proofs.YtabaholflahepaaDoor
