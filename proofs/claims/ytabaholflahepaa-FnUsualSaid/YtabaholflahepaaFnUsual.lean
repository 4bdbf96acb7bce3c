/-
  The tables that need not be told: contracts of spec.usual, spec.Usual, ZZUsual, impl.Usual; the walk of laws.FnUsual.
-/
import Derived.Test.YtabaholflahepaaCode
import Derived.Test.YtabaholflahepaaLit
import Derived.Test.YtabaholflahepaaLow
namespace Go.Proofs.Ytabaholflahepaa
open Go.RowKit

def litShares : List Int := [4, 3, 2, 2, 2, 2, 2, 2, 2, 2, 2, 2, 2, 1, 1, 1, 2, 2, 2, 2, 2, 2, 2, 2, 2, 3, 2, 1, 1, 1, 1, 1, -1, -1, -1, -1]
def matShares : List Int := [1, 4, 3, 2, 2, 2, 2, 2, 2, 1, 1, 1, 1, 1, 1, 1, 1, 1, 1, 1, 1, 1, 1, 1, 1, 1, 1, 1, 1, 1, 1, 1, 1, 1, 1, 1, 1, 1, 1, 1, 1, 1, 1, 1, 1, 1, -1, -1, -1, -1, -1, -1, -1]
def sharesFor (k : Nat) : List Int := if k = 0 then litShares else matShares
def litRows : List (Nat × Nat × Nat × Nat) := [(0, 0, 4, 0), (0, 0, 4, 16), (1, 0, 5, 32), (3, 0, 5, 0), (4, 0, 5, 0), (6, 0, 5, 0), (7, 0, 5, 0), (9, 0, 5, 0), (10, 0, 5, 0), (12, 0, 5, 0), (14, 0, 6, 0), (16, 1, 5, 0), (20, 1, 5, 0), (22, 1, 5, 0), (28, 2, 5, 0), (32, 3, 5, 0), (48, 4, 5, 0), (64, 6, 5, 32), (128, 7, 5, 0), (256, 8, 6, 0), (1024, 10, 6, 0), (4096, 12, 6, 0), (0, 0, 4, 32), (1, 0, 4, 0), (2, 0, 5, 0), (4, 0, 5, 32), (5, 0, 5, 0), (7, 0, 5, 32), (8, 0, 5, 0), (10, 0, 5, 32), (11, 0, 5, 0), (13, 0, 6, 0), (16, 1, 5, 32), (18, 1, 5, 0), (22, 1, 5, 32), (24, 2, 5, 0), (32, 3, 5, 32), (40, 3, 5, 0), (64, 6, 4, 0), (64, 6, 4, 16), (128, 7, 5, 32), (512, 9, 6, 0), (2048, 11, 6, 0), (0, 0, 4, 48), (1, 0, 4, 16), (2, 0, 5, 32), (3, 0, 5, 32), (5, 0, 5, 32), (6, 0, 5, 32), (8, 0, 5, 32), (9, 0, 5, 32), (11, 0, 5, 32), (12, 0, 5, 32), (15, 0, 6, 0), (18, 1, 5, 32), (20, 1, 5, 32), (24, 2, 5, 32), (28, 2, 5, 32), (40, 3, 5, 32), (48, 4, 5, 32), (65536, 16, 6, 0), (32768, 15, 6, 0), (16384, 14, 6, 0), (8192, 13, 6, 0)]
def matRows : List (Nat × Nat × Nat × Nat) := [(3, 0, 6, 0), (4, 0, 4, 0), (5, 0, 5, 32), (6, 0, 5, 0), (8, 0, 5, 0), (9, 0, 5, 0), (11, 0, 5, 0), (13, 0, 6, 0), (16, 0, 6, 0), (19, 0, 6, 0), (22, 0, 6, 0), (25, 0, 6, 0), (28, 0, 6, 0), (31, 0, 6, 0), (34, 0, 6, 0), (37, 1, 6, 0), (41, 1, 6, 0), (47, 2, 6, 0), (59, 3, 6, 0), (83, 4, 6, 0), (131, 7, 6, 0), (515, 9, 6, 0), (4, 0, 4, 16), (5, 0, 4, 0), (6, 0, 5, 32), (7, 0, 5, 0), (9, 0, 5, 32), (10, 0, 5, 0), (12, 0, 6, 0), (15, 0, 6, 0), (18, 0, 6, 0), (21, 0, 6, 0), (24, 0, 6, 0), (27, 0, 6, 0), (30, 0, 6, 0), (33, 0, 6, 0), (35, 1, 6, 0), (39, 1, 6, 0), (43, 2, 6, 0), (51, 3, 6, 0), (67, 4, 6, 0), (99, 5, 6, 0), (259, 8, 6, 0), (4, 0, 4, 32), (4, 0, 4, 48), (5, 0, 4, 16), (7, 0, 5, 32), (8, 0, 5, 32), (10, 0, 5, 32), (11, 0, 5, 32), (14, 0, 6, 0), (17, 0, 6, 0), (20, 0, 6, 0), (23, 0, 6, 0), (26, 0, 6, 0), (29, 0, 6, 0), (32, 0, 6, 0), (65539, 16, 6, 0), (32771, 15, 6, 0), (16387, 14, 6, 0), (8195, 13, 6, 0), (4099, 12, 6, 0), (2051, 11, 6, 0), (1027, 10, 6, 0)]
def usualRows (k : Nat) : List (Nat × Nat × Nat × Nat) := if k = 0 then litRows else matRows

theorem lit_rows : (tab 6 litShares).map (rowFor 0) = litRows := by decide +kernel
theorem mat_rows : (tab 6 matShares).map (rowFor 2) = matRows := by decide +kernel
theorem lit_is : IsShares 6 litShares := ⟨by decide, by decide, by decide, by decide⟩
theorem mat_is : IsShares 6 matShares := ⟨by decide, by decide, by decide, by decide⟩
theorem lit_fit : ∀ x ∈ litRows, FitB x := by unfold FitB; decide
theorem mat_fit : ∀ x ∈ matRows, FitB x := by unfold FitB; decide
theorem lit_top : ∀ x ∈ tab 6 litShares, x.1 ≤ topFor 0 := by decide +kernel
theorem mat_top : ∀ x ∈ tab 6 matShares, x.1 ≤ topFor 2 := by decide +kernel

set_option maxRecDepth 10000 in
theorem litTable_any (w : World) : Calls Try.prog 32 #[] w fun e w' => e = .returned (.slice (some ⟨w.heap.size, 0, none⟩) 64 64) ∧ w' = w.alloc (.cells (flat rowB litRows).toArray 88) := by
  go_enter Try.func32, Try.ntmps32
  exact wp_table_closed (flat rowB litRows).toArray 64 rfl rfl rfl rfl rfl rfl rfl rfl rfl rfl rfl (by kernel_rfl) ⟨rfl, rfl⟩

set_option maxRecDepth 10000 in
theorem matTable_any (w : World) : Calls Try.prog 34 #[] w fun e w' => e = .returned (.slice (some ⟨w.heap.size, 0, none⟩) 64 64) ∧ w' = w.alloc (.cells (flat rowB matRows).toArray 88) := by
  go_enter Try.func34, Try.ntmps34
  exact wp_table_closed (flat rowB matRows).toArray 64 rfl rfl rfl rfl rfl rfl rfl rfl rfl rfl rfl (by kernel_rfl) ⟨rfl, rfl⟩

set_option maxRecDepth 4000 in
theorem usual0_any (w : World) : Calls Try.prog 22 #[.int .i64 0] w fun e w' => ∃ b g, e = .returned (.pointer (some ⟨b, 0, none⟩)) ∧ Blk w' b 55 [.slice (some ⟨g, 0, none⟩) 64 64, .int .i64 6] ∧ Blk w' g 79 (flat cel3 (tab 6 litShares)) ∧ Kept w w' := by
  obtain ⟨W, hW⟩ : ∃ W, W = w.alloc (.cells (i64s litShares).toArray 3) := ⟨_, rfl⟩
  obtain ⟨b, hb⟩ : ∃ b, b = w.heap.size := ⟨_, rfl⟩
  have hb0 : Blk W b 3 (i64s litShares) := by rw [hW, hb]; exact Blk.new w _ _
  have hk0 : Kept w W := by rw [hW]; exact (Keep.refl _ _).alloc _
  have hWe : W = w.alloc (.cells #[.int .i64 4, .int .i64 3, .int .i64 2, .int .i64 2, .int .i64 2, .int .i64 2, .int .i64 2, .int .i64 2, .int .i64 2, .int .i64 2, .int .i64 2, .int .i64 2, .int .i64 2, .int .i64 1, .int .i64 1, .int .i64 1, .int .i64 2, .int .i64 2, .int .i64 2, .int .i64 2, .int .i64 2, .int .i64 2, .int .i64 2, .int .i64 2, .int .i64 2, .int .i64 3, .int .i64 2, .int .i64 1, .int .i64 1, .int .i64 1, .int .i64 1, .int .i64 1, .int .i64 (-1), .int .i64 (-1), .int .i64 (-1), .int .i64 (-1)] 3) := hW
  have ht := tableOf_any (some ⟨b, 0, none⟩) 36 6 litShares W hb0.sl lit_is (by decide)
  have Ht := Lib.hid ht
  have HW := Lib.hid hWe
  have Hb := Lib.hid hb
  clear hW hb hWe hb0 ht
  go_enter Try.func22, Try.ntmps22
  go_wp2_with fail
  rw [← HW.out, ← Hb.out]
  refine Ht.out.mono ?_
  rintro e w1 ⟨g, hg, rfl, hg1, hk1⟩
  have h64 : (2 : Nat) ^ 6 = 64 := by decide
  rw [h64]
  go_wp2
  go_ret
  exact ⟨_, g, rfl, Blk.new w1 _ _, hg1.alloc _, (hk0.trans hk1).alloc _⟩

set_option maxRecDepth 4000 in
theorem usual2_any (w : World) : Calls Try.prog 22 #[.int .i64 2] w fun e w' => ∃ b g, e = .returned (.pointer (some ⟨b, 0, none⟩)) ∧ Blk w' b 55 [.slice (some ⟨g, 0, none⟩) 64 64, .int .i64 6] ∧ Blk w' g 79 (flat cel3 (tab 6 matShares)) ∧ Kept w w' := by
  obtain ⟨W, hW⟩ : ∃ W, W = w.alloc (.cells (i64s matShares).toArray 3) := ⟨_, rfl⟩
  obtain ⟨b, hb⟩ : ∃ b, b = w.heap.size := ⟨_, rfl⟩
  have hb0 : Blk W b 3 (i64s matShares) := by rw [hW, hb]; exact Blk.new w _ _
  have hk0 : Kept w W := by rw [hW]; exact (Keep.refl _ _).alloc _
  have hWe : W = w.alloc (.cells #[.int .i64 1, .int .i64 4, .int .i64 3, .int .i64 2, .int .i64 2, .int .i64 2, .int .i64 2, .int .i64 2, .int .i64 2, .int .i64 1, .int .i64 1, .int .i64 1, .int .i64 1, .int .i64 1, .int .i64 1, .int .i64 1, .int .i64 1, .int .i64 1, .int .i64 1, .int .i64 1, .int .i64 1, .int .i64 1, .int .i64 1, .int .i64 1, .int .i64 1, .int .i64 1, .int .i64 1, .int .i64 1, .int .i64 1, .int .i64 1, .int .i64 1, .int .i64 1, .int .i64 1, .int .i64 1, .int .i64 1, .int .i64 1, .int .i64 1, .int .i64 1, .int .i64 1, .int .i64 1, .int .i64 1, .int .i64 1, .int .i64 1, .int .i64 1, .int .i64 1, .int .i64 1, .int .i64 (-1), .int .i64 (-1), .int .i64 (-1), .int .i64 (-1), .int .i64 (-1), .int .i64 (-1), .int .i64 (-1)] 3) := hW
  have ht := tableOf_any (some ⟨b, 0, none⟩) 53 6 matShares W hb0.sl mat_is (by decide)
  have Ht := Lib.hid ht
  have HW := Lib.hid hWe
  have Hb := Lib.hid hb
  clear hW hb hWe hb0 ht
  go_enter Try.func22, Try.ntmps22
  go_wp2_with fail
  rw [← HW.out, ← Hb.out]
  refine Ht.out.mono ?_
  rintro e w1 ⟨g, hg, rfl, hg1, hk1⟩
  have h64 : (2 : Nat) ^ 6 = 64 := by decide
  rw [h64]
  go_wp2
  go_ret
  exact ⟨_, g, rfl, Blk.new w1 _ _, hg1.alloc _, (hk0.trans hk1).alloc _⟩

set_option maxRecDepth 4000 in
theorem specUsual0_any (w : World) : Calls Try.prog 14 #[.int .i64 0] w fun e w' => ∃ A c, e = .returned (.slice A 64 c) ∧ Sl w' (· < w'.heap.size) A (flat row4 litRows) ∧ Kept w w' := by
  obtain ⟨xs, hxs⟩ : ∃ xs, xs = tab 6 litShares := ⟨_, rfl⟩
  have hl : xs.length = 64 := by rw [hxs]; exact tab_length
  have hu := usual0_any w
  rw [← hxs] at hu
  have hrows := lit_rows
  have htop := lit_top
  rw [← hxs] at hrows htop
  have Hu := Lib.hid hu
  have Hrows := Lib.hid hrows
  have Htop := Lib.hid htop
  have Hl := Lib.hid hl
  clear hxs hu hrows htop hl
  go_enter Try.func14, Try.ntmps14
  go_wp2_with fail
  refine Hu.out.mono ?_
  rintro e w1 ⟨b, g, rfl, hb, hg, hk1⟩
  have c0 : w1.cell? ⟨b, 0, none⟩ = some (.slice (some ⟨g, 0, none⟩) 64 64) := hb.cell 0
  have c1 : w1.cell? ⟨b, 1, none⟩ = some (.int .i64 6) := hb.cell 1
  go_wp2_with fail
  rw [← Hl.out]
  refine (specCells_any (some ⟨g, 0, none⟩) _ 6 xs w1 hg.sl (by rw [Hl.out]; decide)).mono ?_
  rw [Hl.out]
  rintro e w2 ⟨A2, c2, rfl, ho2, hk2⟩
  go_wp2_with fail
  refine (specRows_any A2 c2 64 0 (by decide) xs Hl.out.symm w2 (Sl.of_own ho2) (by rw [Hl.out]; decide)).mono ?_
  rintro e w3 ⟨hk3, ⟨A3, c3, rfl, _, ho3⟩ | ⟨_, hno⟩⟩
  · rw [Hl.out, Hrows.out] at ho3
    rw [Hl.out]
    go_wp2
    go_ret
    exact ⟨A3, c3, rfl, (Sl.of_own ho3).mono (fun k hk => hk.2), (hk1.trans hk2).trans hk3⟩
  · exact absurd Htop.out hno

theorem zzUsual0_any (w : World) : Calls Try.prog 19 #[.int .i64 0] w fun e w' => ∃ A c, e = .returned (.slice A 64 c) ∧ w'.ownsRow w.heap.size 69 4 (.slice A 64 c) 64 (flat row4 litRows) ∧ Kept w w' := by
  have hl : litRows.length = 64 := by decide
  obtain ⟨xs, hxs⟩ : ∃ xs, xs = litRows := ⟨_, rfl⟩
  have hf := lit_fit
  have ht := litTable_any w
  rw [← hxs] at hl hf ht ⊢
  have Hl := Lib.hid hl
  have Hf := Lib.hid hf
  have Ht := Lib.hid ht
  clear hl hf ht hxs
  go_enter Try.func19, Try.ntmps19
  go_wp2_with fail
  refine Ht.out.mono ?_
  rintro e w1 ⟨rfl, hw1⟩
  obtain ⟨b, hb⟩ : ∃ b, b = w.heap.size := ⟨_, rfl⟩
  have hb1 : Blk w1 b 88 (flat rowB xs) := by rw [hw1, hb]; exact Blk.new w _ _
  have hk1 : Kept w w1 := by rw [hw1]; exact (Keep.refl _ _).alloc _
  rw [← hb]
  clear hw1 hb
  go_wp2_with fail
  have hz := zzRows_any (some ⟨b, 0, none⟩) 64 xs w1 hb1.sl Hf.out (by rw [Hl.out]; decide)
  rw [Hl.out] at hz
  refine hz.mono ?_
  rintro e w2 ⟨A2, c2, rfl, ho2, hk2⟩
  clear hz
  go_wp2
  go_ret
  exact ⟨A2, c2, rfl, own_mono ho2 hk1.size, hk1.trans hk2⟩

theorem implUsual0_any (w : World) : Calls Try.prog 13 #[.int .i64 0] w fun e w' => ∃ A c, e = .returned (.slice A 64 c) ∧ Sl w' (· < w'.heap.size) A (flat row4 litRows) ∧ Kept w w' := by
  have hl : litRows.length = 64 := by decide
  have ht := zzUsual0_any w
  obtain ⟨xs, hxs⟩ : ∃ xs, xs = litRows := ⟨_, rfl⟩
  rw [← hxs] at hl ht ⊢
  have Hl := Lib.hid hl
  have Ht := Lib.hid ht
  clear hl ht hxs
  go_enter Try.func13, Try.ntmps13
  go_wp2_with fail
  refine Ht.out.mono ?_
  rintro e w1 ⟨A1, c1, rfl, ho1, hk1⟩
  go_wp2_with fail
  have hz := rowsOf_any A1 c1 xs w1 (Sl.of_own ho1) (by rw [Hl.out]; decide)
  rw [Hl.out] at hz
  refine hz.mono ?_
  rintro e w2 ⟨A2, c2, rfl, ho2, hk2⟩
  clear hz
  go_wp2
  go_ret
  exact ⟨A2, c2, rfl, (Sl.of_own ho2).mono (fun k hk => hk.2), hk1.trans hk2⟩

set_option maxRecDepth 4000 in
theorem specUsual2_any (w : World) : Calls Try.prog 14 #[.int .i64 2] w fun e w' => ∃ A c, e = .returned (.slice A 64 c) ∧ Sl w' (· < w'.heap.size) A (flat row4 matRows) ∧ Kept w w' := by
  obtain ⟨xs, hxs⟩ : ∃ xs, xs = tab 6 matShares := ⟨_, rfl⟩
  have hl : xs.length = 64 := by rw [hxs]; exact tab_length
  have hu := usual2_any w
  rw [← hxs] at hu
  have hrows := mat_rows
  have htop := mat_top
  rw [← hxs] at hrows htop
  have Hu := Lib.hid hu
  have Hrows := Lib.hid hrows
  have Htop := Lib.hid htop
  have Hl := Lib.hid hl
  clear hxs hu hrows htop hl
  go_enter Try.func14, Try.ntmps14
  go_wp2_with fail
  refine Hu.out.mono ?_
  rintro e w1 ⟨b, g, rfl, hb, hg, hk1⟩
  have c0 : w1.cell? ⟨b, 0, none⟩ = some (.slice (some ⟨g, 0, none⟩) 64 64) := hb.cell 0
  have c1 : w1.cell? ⟨b, 1, none⟩ = some (.int .i64 6) := hb.cell 1
  go_wp2_with fail
  rw [← Hl.out]
  refine (specCells_any (some ⟨g, 0, none⟩) _ 6 xs w1 hg.sl (by rw [Hl.out]; decide)).mono ?_
  rw [Hl.out]
  rintro e w2 ⟨A2, c2, rfl, ho2, hk2⟩
  go_wp2_with fail
  refine (specRows_any A2 c2 64 2 (by decide) xs Hl.out.symm w2 (Sl.of_own ho2) (by rw [Hl.out]; decide)).mono ?_
  rintro e w3 ⟨hk3, ⟨A3, c3, rfl, _, ho3⟩ | ⟨_, hno⟩⟩
  · rw [Hl.out, Hrows.out] at ho3
    rw [Hl.out]
    go_wp2
    go_ret
    exact ⟨A3, c3, rfl, (Sl.of_own ho3).mono (fun k hk => hk.2), (hk1.trans hk2).trans hk3⟩
  · exact absurd Htop.out hno

theorem zzUsual2_any (w : World) : Calls Try.prog 19 #[.int .i64 2] w fun e w' => ∃ A c, e = .returned (.slice A 64 c) ∧ w'.ownsRow w.heap.size 69 4 (.slice A 64 c) 64 (flat row4 matRows) ∧ Kept w w' := by
  have hl : matRows.length = 64 := by decide
  obtain ⟨xs, hxs⟩ : ∃ xs, xs = matRows := ⟨_, rfl⟩
  have hf := mat_fit
  have ht := matTable_any w
  rw [← hxs] at hl hf ht ⊢
  have Hl := Lib.hid hl
  have Hf := Lib.hid hf
  have Ht := Lib.hid ht
  clear hl hf ht hxs
  go_enter Try.func19, Try.ntmps19
  go_wp2_with fail
  refine Ht.out.mono ?_
  rintro e w1 ⟨rfl, hw1⟩
  obtain ⟨b, hb⟩ : ∃ b, b = w.heap.size := ⟨_, rfl⟩
  have hb1 : Blk w1 b 88 (flat rowB xs) := by rw [hw1, hb]; exact Blk.new w _ _
  have hk1 : Kept w w1 := by rw [hw1]; exact (Keep.refl _ _).alloc _
  rw [← hb]
  clear hw1 hb
  go_wp2_with fail
  have hz := zzRows_any (some ⟨b, 0, none⟩) 64 xs w1 hb1.sl Hf.out (by rw [Hl.out]; decide)
  rw [Hl.out] at hz
  refine hz.mono ?_
  rintro e w2 ⟨A2, c2, rfl, ho2, hk2⟩
  clear hz
  go_wp2
  go_ret
  exact ⟨A2, c2, rfl, own_mono ho2 hk1.size, hk1.trans hk2⟩

theorem implUsual2_any (w : World) : Calls Try.prog 13 #[.int .i64 2] w fun e w' => ∃ A c, e = .returned (.slice A 64 c) ∧ Sl w' (· < w'.heap.size) A (flat row4 matRows) ∧ Kept w w' := by
  have hl : matRows.length = 64 := by decide
  have ht := zzUsual2_any w
  obtain ⟨xs, hxs⟩ : ∃ xs, xs = matRows := ⟨_, rfl⟩
  rw [← hxs] at hl ht ⊢
  have Hl := Lib.hid hl
  have Ht := Lib.hid ht
  clear hl ht hxs
  go_enter Try.func13, Try.ntmps13
  go_wp2_with fail
  refine Ht.out.mono ?_
  rintro e w1 ⟨A1, c1, rfl, ho1, hk1⟩
  go_wp2_with fail
  have hz := rowsOf_any A1 c1 xs w1 (Sl.of_own ho1) (by rw [Hl.out]; decide)
  rw [Hl.out] at hz
  refine hz.mono ?_
  rintro e w2 ⟨A2, c2, rfl, ho2, hk2⟩
  clear hz
  go_wp2
  go_ret
  exact ⟨A2, c2, rfl, (Sl.of_own ho2).mono (fun k hk => hk.2), hk1.trans hk2⟩

set_option maxRecDepth 4000 in
theorem fnUsual_walk (x : Int) (w : World) (hx : I64 x) : Calls Try.prog 4 #[.int .i64 x] w fun e w' => e = .returned (.bool true) ∧ Kept w w' := by
  have hl0 : litRows.length = 64 := by decide
  have hl2 : matRows.length = 64 := by decide
  rcases (show x % 2 = 0 ∨ x % 2 = 1 by omega) with h | h
  · have hz : ∀ w, _ := implUsual0_any
    have hs : ∀ w, _ := specUsual0_any
    obtain ⟨xs, hxs⟩ : ∃ xs, xs = litRows := ⟨_, rfl⟩
    rw [← hxs] at hl0
    simp only [← hxs] at hz hs
    have H := Lib.hid h
    have Hl := Lib.hid hl0
    have Hz := Lib.hid hz
    have Hs := Lib.hid hs
    clear h hl0 hl2 hz hs hxs
    go_enter Try.func4, Try.ntmps4
    go_wp2_with fail
    refine (below_any x 2 hx (by decide) (by decide) _).mono ?_
    rintro e w1 ⟨rfl, rfl⟩
    rw [H.out]
    go_wp2_with (first
      | (go_at_call 13; refine (Hz.out _).mono ?_; rintro e w2 ⟨A2, c2, rfl, hs2, hk2⟩)
      | (go_at_call 14; refine (Hs.out _).mono ?_; rintro e w3 ⟨A3, c3, rfl, hs3, hk3⟩)
      | (go_at_call 12; refine (rowsAre_true A2 A3 64 c2 c3 xs Hl.out.symm w3 (hs2.kept hk3) hs3 (by rw [Hl.out]; decide)).mono ?_; rintro e w4 ⟨rfl, hk4⟩))
    go_ret
    exact ⟨rfl, (hk2.trans hk3).trans hk4⟩
  · have hz : ∀ w, _ := implUsual2_any
    have hs : ∀ w, _ := specUsual2_any
    obtain ⟨xs, hxs⟩ : ∃ xs, xs = matRows := ⟨_, rfl⟩
    rw [← hxs] at hl2
    simp only [← hxs] at hz hs
    have H := Lib.hid h
    have Hl := Lib.hid hl2
    have Hz := Lib.hid hz
    have Hs := Lib.hid hs
    clear h hl0 hl2 hz hs hxs
    go_enter Try.func4, Try.ntmps4
    go_wp2_with fail
    refine (below_any x 2 hx (by decide) (by decide) _).mono ?_
    rintro e w1 ⟨rfl, rfl⟩
    rw [H.out]
    go_wp2_with (first
      | (go_at_call 13; refine (Hz.out _).mono ?_; rintro e w2 ⟨A2, c2, rfl, hs2, hk2⟩)
      | (go_at_call 14; refine (Hs.out _).mono ?_; rintro e w3 ⟨A3, c3, rfl, hs3, hk3⟩)
      | (go_at_call 12; refine (rowsAre_true A2 A3 64 c2 c3 xs Hl.out.symm w3 (hs2.kept hk3) hs3 (by rw [Hl.out]; decide)).mono ?_; rintro e w4 ⟨rfl, hk4⟩))
    go_ret
    exact ⟨rfl, (hk2.trans hk3).trans hk4⟩
end Go.Proofs.Ytabaholflahepaa
