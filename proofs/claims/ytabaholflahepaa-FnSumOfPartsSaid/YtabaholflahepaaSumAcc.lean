/-
  Plain law: the accumulators and the rest of a text that comes in parts; the cells of a checksum under way; contract of reset.
-/
import Derived.Test.YtabaholflahepaaSumSpec
import Derived.Test.YtabaholflahepaaQt
import Derived.Lib.SliceRun
namespace Go.Proofs.Ytabaholflahepaa
open Go.RowKit

theorem lane_take (l : List Nat) {i : Nat} (hi : i < 4) : lane (l.take 32) i = lane l i := by
  unfold lane
  rw [List.drop_take, List.take_take, Nat.min_eq_left (by omega)]
theorem stripe_take (v l : List Nat) : stripe v (l.take 32) = stripe v l := by
  unfold stripe partOf
  apply List.map_congr_left
  intro j hj
  have hj4 : j < 4 := List.mem_range.1 hj
  rw [if_pos hj4, if_pos hj4, lane_take l hj4]
theorem acc_append : ∀ (n : Nat) (v T l : List Nat), T.length < n → accOf v (T ++ l) = accOf (accOf v T) (restOf T ++ l) ∧ restOf (T ++ l) = restOf (restOf T ++ l) := by
  intro n
  induction n with
  | zero => intro v T l h; omega
  | succ n ih =>
    intro v T l h
    by_cases h32 : T.length < 32
    · rw [accOf_short h32, restOf_short h32]
      exact ⟨rfl, rfl⟩
    · have e1 : (T ++ l).drop 32 = T.drop 32 ++ l := List.drop_append_of_le_length (by omega)
      have e2 : stripe v (T ++ l) = stripe v T := by
        rw [← stripe_take v (T ++ l), List.take_append_of_le_length (by omega), stripe_take]
      have h3 := ih (stripe v T) (T.drop 32) l (by rw [List.length_drop]; omega)
      have hT : 32 ≤ T.length := by omega
      rw [accOf_step (by rw [List.length_append]; omega), restOf_step (l := T ++ l) (by rw [List.length_append]; omega), e1, e2, accOf_step (v := v) hT, restOf_step hT]
      exact h3

/-- The cells of a checksum under way. -/
def xhCells (n : Nat) (v buf : List Nat) (cnt : Nat) : List Value := .int .u64 (n : Int) :: (u64s v ++ (u8s buf ++ [.int .i64 (cnt : Int)]))
section
variable {n cnt i x : Nat} {v buf : List Nat}
@[simp] theorem u64s_length (l : List Nat) : (u64s l).length = l.length := by simp [u64s]
theorem xh_length (hv : v.length = 4) (hb : buf.length = 32) : (xhCells n v buf cnt).length = 38 := by simp [xhCells, hv, hb]
theorem xh_at (h : v[i]? = some x) : (xhCells n v buf cnt)[1 + i]? = some (.int .u64 (x : Int)) := by
  have hi := (List.getElem?_eq_some_iff.1 h).1
  rw [xhCells, Nat.add_comm 1 i, List.getElem?_cons_succ, List.getElem?_append_left (by simpa using hi)]
  exact u64s_at h
theorem xh_buf (hv : v.length = 4) {j : Nat} {u : Value} (h : (u8s buf)[j]? = some u) : (xhCells n v buf cnt)[5 + j]? = some u := by
  have hj := (List.getElem?_eq_some_iff.1 h).1
  rw [xhCells, show 5 + j = (4 + j) + 1 by omega, List.getElem?_cons_succ, List.getElem?_append_right (by simp [hv]), u64s_length, hv, Nat.add_sub_cancel_left, List.getElem?_append_left hj]
  exact h
theorem xh_cnt (hv : v.length = 4) (hb : buf.length = 32) : (xhCells n v buf cnt)[37]? = some (.int .i64 (cnt : Int)) := by
  rw [xhCells, List.getElem?_cons_succ, List.getElem?_append_right (by simp [hv]), u64s_length, hv, List.getElem?_append_right (by simp [hb]), u8s_length, hb]
  rfl
theorem xh_set (hi : i < v.length) (y : Nat) : (xhCells n v buf cnt).set (1 + i) (.int .u64 (y : Int)) = xhCells n (v.set i y) buf cnt := by
  rw [xhCells, Nat.add_comm 1 i, List.set_cons_succ, List.set_append_left _ _ (by simpa using hi), u64s_set]
  rfl
theorem xh_set_n (m : Nat) : (xhCells n v buf cnt).set 0 (.int .u64 (m : Int)) = xhCells m v buf cnt := rfl
theorem xh_set_cnt (hv : v.length = 4) (hb : buf.length = 32) (m : Nat) : (xhCells n v buf cnt).set 37 (.int .i64 (m : Int)) = xhCells n v buf m := by
  rw [xhCells, List.set_cons_succ, List.set_append_right _ _ (by simp [hv]), u64s_length, hv, List.set_append_right _ _ (by simp [hb]), u8s_length, hb]
  rfl
theorem xh_splice (hv : v.length = 4) (hb : buf.length = 32) (o : Nat) (xs : List Nat) (ho : o + xs.length ≤ 32) : splice (xhCells n v buf cnt) (5 + o) (u8s xs) = xhCells n v (splice buf o xs) cnt := by
  have e : xhCells n v buf cnt = (.int .u64 (n : Int) :: u64s v) ++ (u8s buf ++ [.int .i64 (cnt : Int)]) := rfl
  have hl : ((.int .u64 (n : Int) : Value) :: u64s v).length = 5 := by simp [hv]
  rw [e]
  unfold splice
  rw [List.take_append, List.drop_append, hl, List.take_of_length_le (by omega), List.drop_of_length_le (by simp [hv]; omega)]
  rw [show 5 + o - 5 = o by omega, List.take_append_of_le_length (by simp; omega), show 5 + o + (u8s xs).length - 5 = o + xs.length by simp; omega, List.drop_append_of_le_length (by simp; omega)]
  simp only [List.nil_append, List.append_assoc, xhCells, List.cons_append, u8s, List.map_append, List.map_take, List.map_drop]
end

section
variable {w : World} {b n cnt : Nat} {v buf : List Nat}
theorem Blk.xhBuf (h : Blk w b 83 (xhCells n v buf cnt)) (hv : v.length = 4) : Sl w (· = b) (some ⟨b, 5, none⟩) (u8s buf) :=
  .inr ⟨b, 5, rfl, rfl, fun j u hu => by rw [h.cell]; exact xh_buf hv hu⟩
end

/-- A checksum under way: of the text T. -/
def XH (w : World) (b : Nat) (T : List Nat) : Prop :=
  ∃ buf, buf.length = 32 ∧ Bytes buf ∧ buf.take (T.length % 32) = restOf T ∧ Blk w b 83 (xhCells T.length (accOf acc0 T) buf (T.length % 32))

theorem elU8 : El Try.prog 25 5 (.int .u8 0) 1 1 := ⟨Try.underlying25, by kernel_rfl, rfl, by decide, by decide⟩
theorem acc_nil : accOf acc0 [] = acc0 := accOf_short (by decide)

set_option maxHeartbeats 1000000 in
theorem reset_any (b : Nat) (w : World) (hb : Blk w b 83 (xhCells 0 [0, 0, 0, 0] (List.replicate 32 0) 0)) :
    Calls Try.prog 38 #[.pointer (some ⟨b, 0, none⟩)] w fun e w' => e = .returned (.tuple #[]) ∧ XH w' b [] ∧ Keep (· = b) w w' := by
  have f0 := hb.frozen 0
  have f1 := hb.frozen 1
  have f2 := hb.frozen 2
  have f3 := hb.frozen 3
  have f4 := hb.frozen 4
  have c0 : w.cell? ⟨b, 0, none⟩ = some (.int .u64 0) := hb.cell 0
  have c1 : w.cell? ⟨b, 1, none⟩ = some (.int .u64 0) := hb.cell 1
  have c2 : w.cell? ⟨b, 2, none⟩ = some (.int .u64 0) := hb.cell 2
  have c3 : w.cell? ⟨b, 3, none⟩ = some (.int .u64 0) := hb.cell 3
  have c4 : w.cell? ⟨b, 4, none⟩ = some (.int .u64 0) := hb.cell 4
  have hw1 : IntKind.u64.wrap (-11400714785074694791) = 7046029288634856825 := by rw [IntKind.wrap_u64]; decide
  have hw2 : IntKind.u64.wrap 25430182151971714518 = 6983438078262162902 := by rw [IntKind.wrap_u64]; decide
  go_enter Try.func38, Try.ntmps38
  go_wp2
  go_region
  go_wp2
  go_region
  obtain ⟨W, hW⟩ : ∃ W, (((((((w.setCell ⟨b, 0, none⟩ (.int .u64 0)).setCell ⟨b, 1, none⟩ (.int .u64 11400714785074694791)).setCell ⟨b, 1, none⟩ (.int .u64 6983438078262162902)).setCell ⟨b, 2, none⟩ (.int .u64 14029467366897019727)).setCell ⟨b, 3, none⟩ (.int .u64 0)).setCell ⟨b, 4, none⟩ (.int .u64 11400714785074694791)).setCell ⟨b, 4, none⟩ (.int .u64 7046029288634856825)).drew.drew = W := ⟨_, rfl⟩
  rw [hW]
  have hb1 : Blk W b 83 (xhCells 0 acc0 (List.replicate 32 0) 0) := by
    rw [← hW]
    exact (((((((hb.set 0 _).set 1 _).set 1 _).set 2 _).set 3 _).set 4 _).set 4 _).drew.drew
  have hk1 : Keep (· = b) w W := by
    rw [← hW]
    exact (((((((((Keep.refl (· = b) w).set (p := ⟨b, 0, none⟩) (.inl rfl) _).set (p := ⟨b, 1, none⟩) (.inl rfl) _).set (p := ⟨b, 1, none⟩) (.inl rfl) _).set (p := ⟨b, 2, none⟩) (.inl rfl) _).set (p := ⟨b, 3, none⟩) (.inl rfl) _).set (p := ⟨b, 4, none⟩) (.inl rfl) _).set (p := ⟨b, 4, none⟩) (.inl rfl) _)).drew.drew
  have hv : ∀ w, (zeroValue 5).run Try.prog w = .ok (.int .u8 0) w := by
    obtain ⟨i, hi, hrow⟩ := Option.map_eq_some_iff.1 elU8.row
    simp only [Prod.mk.injEq] at hrow
    intro w
    simp [zeroValue, typeInfo, hi, hrow.1]
  obtain ⟨W2, hW2⟩ : ∃ W2, W.setCells b 5 (List.replicate 32 (.int .u8 0)) = W2 := ⟨_, rfl⟩
  have hclr := Lib.run_clear_slice (P := Try.prog) W 25 5 0 (.int .u8 0) Try.underlying25 hv rfl rfl b 5 32 32 (by decide)
    (fun j hj => by rw [hb1.cell, List.getElem?_eq_getElem (by rw [xh_length rfl rfl]; omega)]; rfl) (fun j _ => hb1.frozen _)
  rw [hW2] at hclr
  have hb2 : Blk W2 b 83 (xhCells 0 acc0 (List.replicate 32 0) 0) := by
    have := blk_setCells hb1 5 (List.replicate 32 (.int .u8 0)) (by rw [xh_length rfl rfl]; decide)
    rw [hW2] at this
    exact Blk.cast this rfl
  have hk2 : Keep (· = b) w W2 := hk1.trans (hW2 ▸ keep_setCells W b 5 _)
  have c37 : W2.cell? ⟨b, 37, none⟩ = some (.int .i64 0) := hb2.cell 37
  have f37 := hb2.frozen 37
  clear hW c0 c1 c2 c3 c4 f0 f1 f2 f3 f4 hw1 hw2 hv hW2
  go_wp2
  go_end0
  refine ⟨rfl, ⟨List.replicate 32 0, rfl, by unfold Bytes; decide, rfl, ?_⟩, hk2.set (p := ⟨b, 37, none⟩) (.inl rfl) _⟩
  rw [acc_nil]
  exact hb2.set 37 _
end Go.Proofs.Ytabaholflahepaa
