/-
  Contracts of the functions that turn rows into rows: zzRows, rowsOf, rowsAre, spec.cellsOf.
-/
import Derived.Test.YtabaholflahepaaDoorTab
namespace Go.Proofs.YtabaholflahepaaDoor
open Go.RowKit

/-- A row's cells, as four ints; as the table's entry has them. -/
def row4 (c : Nat × Nat × Nat × Nat) : List Value := [.int .i64 c.1, .int .i64 c.2.1, .int .i64 c.2.2.1, .int .i64 c.2.2.2]
theorem row4_length (c : Nat × Nat × Nat × Nat) : (row4 c).length = 4 := rfl
def rowB (c : Nat × Nat × Nat × Nat) : List Value := [.int .u32 c.1, .int .u8 c.2.1, .int .u8 c.2.2.1, .int .u16 c.2.2.2]
theorem rowB_length (c : Nat × Nat × Nat × Nat) : (rowB c).length = 4 := rfl
/-- The numbers fit an entry. -/
def FitB (c : Nat × Nat × Nat × Nat) : Prop := c.1 < 4294967296 ∧ c.2.1 < 256 ∧ c.2.2.1 < 256 ∧ c.2.2.2 < 65536

theorem elRowI : El Tryd.prog 49 53 (.agg #[.int .i64 0, .int .i64 0, .int .i64 0, .int .i64 0]) 4 32 := ⟨Tryd.underlying49, by kernel_rfl, rfl, by decide, by decide⟩
theorem elRowS : El Tryd.prog 58 114 (.agg #[.int .i64 0, .int .i64 0, .int .i64 0, .int .i64 0]) 4 32 := ⟨Tryd.underlying58, by kernel_rfl, rfl, by decide, by decide⟩
theorem elRowZ : El Tryd.prog 107 184 (.agg #[.int .i64 0, .int .i64 0, .int .i64 0, .int .i64 0]) 4 32 := ⟨Tryd.underlying107, by kernel_rfl, rfl, by decide, by decide⟩
theorem elCellS : El Tryd.prog 43 57 (.agg #[.int .i64 0, .int .i64 0, .int .i64 0]) 3 24 := ⟨Tryd.underlying43, by kernel_rfl, rfl, by decide, by decide⟩

theorem flat_push {α : Type} {f : α → List Value} {xs : List α} {k : Nat} {x : α} (h : xs[k]? = some x) : flat f (xs.take (k + 1)) = flat f (xs.take k) ++ f x := by
  rw [take_push h, flat_append]; simp [flat]

set_option maxHeartbeats 400000 in
theorem zzRows_any {R : Nat → Prop} (A : Option Addr) (c : Nat) (xs : List (Nat × Nat × Nat × Nat)) (w : World) (hs : Sl w R A (flat rowB xs)) (hf : ∀ x ∈ xs, FitB x) (hlen : xs.length ≤ 2147483648) :
    Calls Tryd.prog 79 #[.slice A xs.length c] w fun e w' => ∃ A' c', e = .returned (.slice A' xs.length c') ∧ w'.ownsRow w.heap.size 184 4 (.slice A' xs.length c') xs.length (flat row4 xs) ∧ Kept w w' := by
  go_enter Tryd.func79, Tryd.ntmps79
  go_wp2
  go_loopg [3, 8] (xs.length + 1) (fun g v i wr => ∃ (k : Nat) (A' : Option Addr) (c' : Nat), xs.length - k < g ∧ k ≤ xs.length ∧ i = .int .i64 k ∧ v = .slice A' k c' ∧ wr.ownsRow w.heap.size 184 4 (.slice A' k c') k (flat row4 (xs.take k)) ∧ Kept w wr)
  case atStart => exact ⟨0, none, 0, by omega, by omega, rfl, rfl, World.ownsRow_nil _ _ _ _, Keep.refl _ _⟩
  case round =>
    obtain ⟨k, A', c', q1, q2, rfl, rfl, qo, qk⟩ := hrel
    by_cases hlt : k < xs.length
    · obtain ⟨g, o, x, hR, rfl, hx, hc⟩ := (hs.kept qk).row rowB_length (by decide) hlt
      have hfx := hf x (List.mem_of_getElem? hx.out)
      obtain ⟨x0, x1, x2, x3⟩ := x
      obtain ⟨h0, h1, h2, h3⟩ := hfx
      have c0 : wr.cell? ⟨g, o + k * 4, none⟩ = some (.int .u32 x0) := hc 0 _ rfl
      have c1 : wr.cell? ⟨g, o + k * 4 + 1, none⟩ = some (.int .u8 x1) := hc 1 _ rfl
      have c2 : wr.cell? ⟨g, o + k * 4 + 2, none⟩ = some (.int .u8 x2) := hc 2 _ rfl
      have c3 : wr.cell? ⟨g, o + k * 4 + 3, none⟩ = some (.int .u16 x3) := hc 3 _ rfl
      simp only at h0 h1 h2 h3
      clear hc
      go_wp2_with (at_builtin; refine wpList_push rfl _ _ rfl elRowZ (qk.alloc _) A' k c' _ rfl (qo.alloc _) (row4 (x0, x1, x2, x3)) (by simp [Act.eval]) rfl (by simp [row4, Value.oneCell']) (by omega) ?_; intro A3 c3 w3 hown3 hk3 _)
      go_roundg (xs.length - k)
      case measure => exact q1
      case rel => exact ⟨k + 1, A3, c3, by omega, by omega, rfl, rfl, by rw [flat_push hx.out]; exact hown3, hk3⟩
    · obtain rfl : k = xs.length := by omega
      rw [List.take_length] at qo
      go_wp2
      go_ret
      exact ⟨A', c', rfl, qo, qk⟩

set_option maxHeartbeats 400000 in
theorem rowsOf_any {R : Nat → Prop} (A : Option Addr) (c : Nat) (xs : List (Nat × Nat × Nat × Nat)) (w : World) (hs : Sl w R A (flat row4 xs)) (hlen : xs.length ≤ 2147483648) :
    Calls Tryd.prog 54 #[.slice A xs.length c] w fun e w' => ∃ A' c', e = .returned (.slice A' xs.length c') ∧ w'.ownsRow w.heap.size 53 4 (.slice A' xs.length c') xs.length (flat row4 xs) ∧ Kept w w' := by
  go_enter Tryd.func54, Tryd.ntmps54
  go_wp2
  go_loopg [3, 8] (xs.length + 1) (fun g v i wr => ∃ (k : Nat) (A' : Option Addr) (c' : Nat), xs.length - k < g ∧ k ≤ xs.length ∧ i = .int .i64 k ∧ v = .slice A' k c' ∧ wr.ownsRow w.heap.size 53 4 (.slice A' k c') k (flat row4 (xs.take k)) ∧ Kept w wr)
  case atStart => exact ⟨0, none, 0, by omega, by omega, rfl, rfl, World.ownsRow_nil _ _ _ _, Keep.refl _ _⟩
  case round =>
    obtain ⟨k, A', c', q1, q2, rfl, rfl, qo, qk⟩ := hrel
    by_cases hlt : k < xs.length
    · obtain ⟨g, o, x, hR, rfl, hx, hc⟩ := (hs.kept qk).row row4_length (by decide) hlt
      obtain ⟨x0, x1, x2, x3⟩ := x
      have c0 : wr.cell? ⟨g, o + k * 4, none⟩ = some (.int .i64 x0) := hc 0 _ rfl
      have c1 : wr.cell? ⟨g, o + k * 4 + 1, none⟩ = some (.int .i64 x1) := hc 1 _ rfl
      have c2 : wr.cell? ⟨g, o + k * 4 + 2, none⟩ = some (.int .i64 x2) := hc 2 _ rfl
      have c3 : wr.cell? ⟨g, o + k * 4 + 3, none⟩ = some (.int .i64 x3) := hc 3 _ rfl
      clear hc
      go_wp2_with (at_builtin; refine wpList_push rfl _ _ rfl elRowI (qk.alloc _) A' k c' _ rfl (qo.alloc _) (row4 (x0, x1, x2, x3)) (by simp [Act.eval]) rfl (by simp [row4, Value.oneCell']) (by omega) ?_; intro A3 c3 w3 hown3 hk3 _)
      go_roundg (xs.length - k)
      case measure => exact q1
      case rel => exact ⟨k + 1, A3, c3, by omega, by omega, rfl, rfl, by rw [flat_push hx.out]; exact hown3, hk3⟩
    · obtain rfl : k = xs.length := by omega
      rw [List.take_length] at qo
      go_wp2
      go_ret
      exact ⟨A', c', rfl, qo, qk⟩

set_option maxHeartbeats 400000 in
theorem specCells_any {R : Nat → Prop} (A : Option Addr) (c L : Nat) (xs : List (Nat × Nat × Nat)) (w : World) (hs : Sl w R A (flat cel3 xs)) (hlen : xs.length ≤ 2147483648) :
    Calls Tryd.prog 51 #[.agg #[.slice A xs.length c, .int .i64 L]] w fun e w' => ∃ A' c', e = .returned (.slice A' xs.length c') ∧ w'.ownsRow w.heap.size 57 3 (.slice A' xs.length c') xs.length (flat cel3 xs) ∧ Kept w w' := by
  have hk0 : Kept w (w.alloc (.cells #[.slice A xs.length c, .int .i64 L] 104)) := (Keep.refl _ _).alloc _
  go_enter Tryd.func51, Tryd.ntmps51
  go_wp2
  go_loopg [3, 9] (xs.length + 1) (fun g v i wr => ∃ (k : Nat) (A' : Option Addr) (c' : Nat), xs.length - k < g ∧ k ≤ xs.length ∧ i = .int .i64 k ∧ v = .slice A' k c' ∧ wr.ownsRow w.heap.size 57 3 (.slice A' k c') k (flat cel3 (xs.take k)) ∧ Kept w wr)
  case atStart => exact ⟨0, none, 0, by omega, by omega, rfl, rfl, World.ownsRow_nil _ _ _ _, hk0⟩
  case round =>
    obtain ⟨k, A', c', q1, q2, rfl, rfl, qo, qk⟩ := hrel
    by_cases hlt : k < xs.length
    · obtain ⟨g, o, x, hR, rfl, hx, hc⟩ := (hs.kept qk).row cel3_length (by decide) hlt
      obtain ⟨x0, x1, x2⟩ := x
      have c0 : wr.cell? ⟨g, o + k * 3, none⟩ = some (.int .i64 x0) := hc 0 _ rfl
      have c1 : wr.cell? ⟨g, o + k * 3 + 1, none⟩ = some (.int .i64 x1) := hc 1 _ rfl
      have c2 : wr.cell? ⟨g, o + k * 3 + 2, none⟩ = some (.int .i64 x2) := hc 2 _ rfl
      clear hc
      go_wp2_with (at_builtin; refine wpList_push rfl _ _ rfl elCellS (qk.alloc _) A' k c' _ rfl (qo.alloc _) (cel3 (x0, x1, x2)) (by simp [Act.eval]) rfl (by simp [cel3, Value.oneCell']) (by omega) ?_; intro A3 c3 w3 hown3 hk3 _)
      go_roundg (xs.length - k)
      case measure => exact q1
      case rel => exact ⟨k + 1, A3, c3, by omega, by omega, rfl, rfl, by rw [flat_push hx.out]; exact hown3, hk3⟩
    · obtain rfl : k = xs.length := by omega
      rw [List.take_length] at qo
      go_wp2
      go_ret
      exact ⟨A', c', rfl, qo, qk⟩

set_option maxHeartbeats 1000000 in
/-- Equal rows are equal. -/
theorem rowsAre_true {R R' : Nat → Prop} (A A' : Option Addr) (n c c' : Nat) (xs : List (Nat × Nat × Nat × Nat)) (hn : n = xs.length) (w : World) (hs : Sl w R A (flat row4 xs)) (hs' : Sl w R' A' (flat row4 xs)) (hlen : xs.length ≤ 2147483648) :
    Calls Tryd.prog 30 #[.slice A n c, .slice A' n c'] w fun e w' => e = .returned (.bool true) ∧ Kept w w' := by
  subst hn
  go_enter Tryd.func30, Tryd.ntmps30
  go_wp2
  go_loopg [13] (xs.length + 1) (fun g i wr => ∃ k : Nat, xs.length - k < g ∧ k ≤ xs.length ∧ i = .int .i64 k ∧ Kept w wr)
  case atStart => exact ⟨0, by omega, by omega, rfl, Keep.refl _ _⟩
  case round =>
    obtain ⟨k, q1, q2, rfl, qk⟩ := hrel
    by_cases hlt : k < xs.length
    · obtain ⟨g, o, x, hR, rfl, hx, hc⟩ := (hs.kept qk).row row4_length (by decide) hlt
      obtain ⟨g', o', y, hR', rfl, hy, hc'⟩ := (hs'.kept qk).row row4_length (by decide) hlt
      obtain rfl : x = y := Option.some.inj (hx.out.symm.trans hy.out)
      obtain ⟨x0, x1, x2, x3⟩ := x
      have c0 : wr.cell? ⟨g, o + k * 4, none⟩ = some (.int .i64 x0) := hc 0 _ rfl
      have c1 : wr.cell? ⟨g, o + k * 4 + 1, none⟩ = some (.int .i64 x1) := hc 1 _ rfl
      have c2 : wr.cell? ⟨g, o + k * 4 + 2, none⟩ = some (.int .i64 x2) := hc 2 _ rfl
      have c3 : wr.cell? ⟨g, o + k * 4 + 3, none⟩ = some (.int .i64 x3) := hc 3 _ rfl
      have d0 : wr.cell? ⟨g', o' + k * 4, none⟩ = some (.int .i64 x0) := hc' 0 _ rfl
      have d1 : wr.cell? ⟨g', o' + k * 4 + 1, none⟩ = some (.int .i64 x1) := hc' 1 _ rfl
      have d2 : wr.cell? ⟨g', o' + k * 4 + 2, none⟩ = some (.int .i64 x2) := hc' 2 _ rfl
      have d3 : wr.cell? ⟨g', o' + k * 4 + 3, none⟩ = some (.int .i64 x3) := hc' 3 _ rfl
      clear hc hc' hy
      go_wp2
      go_quiet (fail)
      go_wp2
      go_roundg (xs.length - k)
      case measure => exact q1
      case rel => exact ⟨k + 1, by omega, by omega, rfl, qk.drewN _⟩
    · go_wp2
      go_ret
      exact ⟨rfl, qk⟩
end Go.Proofs.YtabaholflahepaaDoor
