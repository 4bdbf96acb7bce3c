/-
  Contract of spec.Tree.
-/
import Derived.Test.YtabaholflahepaaDoorTreeO
import Derived.Test.YtabaholflahepaaDoorQt
namespace Go.Proofs.YtabaholflahepaaDoor
open Go.RowKit

/-- What spec.Tree hands back. -/
def SpecTreePost (w : World) (ds : List Nat) (e : Ending) (w' : World) : Prop :=
  Kept w w' ∧ ((∃ al most q A1 c1 A2 c2, treeS ds = some (al, most, q) ∧ 1 ∈ al ∧ e = .returned (.tuple #[.slice A1 (2 ^ most) c1, .slice A2 (2 ^ most) c2, .int .i64 (most : Nat), .int .i64 (q : Nat), .int .i64 1]) ∧
      w'.ownsRow w.heap.size 3 1 (.slice A1 (2 ^ most) c1) (2 ^ most) (nats ((rowsTo al most most).map (·.1))) ∧ w'.ownsRow w.heap.size 3 1 (.slice A2 (2 ^ most) c2) (2 ^ most) (nats ((rowsTo al most most).map (·.2)))) ∨
    ((∃ al most q, treeS ds = some (al, most, q) ∧ 1 ∉ al) ∧ e = .returned (.tuple #[.slice none 0 0, .slice none 0 0, .int .i64 0, .int .i64 0, .int .i64 0])) ∨
    (treeS ds = none ∧ e = .returned (.tuple #[.slice none 0 0, .slice none 0 0, .int .i64 0, .int .i64 0, .int .i64 2])))

set_option maxHeartbeats 4000000 in
set_option maxRecDepth 4000 in
theorem specTree_any {R : Nat → Prop} (A : Option Addr) (n c : Nat) (ds : List Nat) (hn : n = ds.length) (w : World) (hs : Sl w R A (u8s ds)) (hR : ∀ k, R k → k < w.heap.size) (hd : Bytes ds) (hlen : n ≤ 1048576) (hc : n ≤ c) :
    Calls Tryd.prog 36 #[.slice A n c] w (SpecTreePost w ds) := by
  subst hn
  have h1 := treeOf_any A ds.length c ds rfl w hs hR hd hlen hc
  have H1 := Lib.hid h1
  clear h1
  go_enter Tryd.func36, Tryd.ntmps36
  go_wp2_with fail
  refine H1.out.mono ?_
  rintro e w' ⟨hk, ⟨al, most, q, b, nn, ht, rfl, hb, A1, c1, A2, c2, hta, hnn, ho1, ho2, _⟩ | ⟨ht, p, z, rfl⟩⟩
  · obtain ⟨ws, hws, htp⟩ := (treeS_some ht).2.2.2
    have hts := treeP_some htp
    have hm1 : 1 ≤ most := by rw [hts.2.2.1]; unfold mostW; omega
    obtain ⟨x, r, hr, hx1, hx2⟩ := first_row hts.2.2.2.2.2.2.2 hts.2.2.2.2.2.2.1 hm1
    have hm11 := hts.2.2.2.1
    have hlen2 : nn = 2 ^ most := by rw [hnn, rows_length hts.2.2.2.2.2.2.2, hts.2.2.2.2.2.2.1]
    obtain ⟨N, hN⟩ : ∃ N, N = 2 ^ most := ⟨_, rfl⟩
    rw [← hN] at hlen2
    have hN0 : 0 < N := by rw [hN]; exact pow_pos' _
    obtain ⟨g2, o2, y, _, hA2, hcy, hyk⟩ := (Sl.of_own ho2).nat (k := 0) (by rw [List.length_map, ← hnn]; omega)
    rw [Nat.add_zero] at hcy
    have hy : y = x.2 := by
      have := hyk.out
      rw [hr] at this
      simpa using this.symm
    have d0 : w'.cell? ⟨b, 0, none⟩ = some (.slice A1 nn c1) := hta.cell 0
    have d1 : w'.cell? ⟨b, 1, none⟩ = some (.slice A2 nn c2) := hta.cell 1
    have d2 : w'.cell? ⟨b, 2, none⟩ = some (.int .i64 (most : Int)) := hta.cell 2
    subst hA2
    have Hr := Lib.hid hr
    have Ht := Lib.hid ht
    have HN := Lib.hid hN
    have Ho1 := Lib.hid ho1
    have Ho2 := Lib.hid ho2
    clear hr ht hts htp hws hN ho1 ho2 hnn
    subst hlen2
    by_cases hlt : y < most
    · have h1 : 1 ∉ al := hx1.1 (by omega)
      have hyb : decide ((y : Int) < (most : Int)) = true := decide_eq_true (by omega)
      have hyb2 : decide (y < most) = true := decide_eq_true hlt
      go_wp2
      go_quiet (fail)
      go_wp2
      refine bodyPost_ret (results5 rfl _ _ _) rfl ?_
      exact ⟨hk.drewN _, .inr (.inl ⟨⟨al, most, q, Ht.out, h1⟩, rfl⟩)⟩
    · have h1 : 1 ∈ al := Classical.byContradiction fun h => by have := hx1.2 h; omega
      have hyb : decide ((y : Int) < (most : Int)) = false := decide_eq_false (by omega)
      have hyb2 : decide (y < most) = false := decide_eq_false hlt
      go_wp2
      go_quiet (fail)
      go_wp2
      go_quiet (fail)
      go_wp2
      refine bodyPost_ret (results5 rfl _ _ _) rfl ?_
      refine ⟨(hk.drewN _).drewN _, .inl ⟨al, most, q, A1, c1, some ⟨g2, o2, none⟩, c2, Ht.out, h1, ?_, ?_, ?_⟩⟩
      · rw [← HN.out]; rfl
      · rw [← HN.out]; exact Ho1.out
      · rw [← HN.out]; exact Ho2.out
  · have Ht := Lib.hid ht
    clear ht
    go_wp2
    refine bodyPost_ret (results5 rfl _ _ _) rfl ?_
    exact ⟨hk, .inr (.inr ⟨Ht.out, rfl⟩)⟩
end Go.Proofs.YtabaholflahepaaDoor
