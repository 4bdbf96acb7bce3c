/-
  Contracts of the functions that make errors: each returns a value of type error that is not nil, and nothing that was there has turned.
-/
import Derived.Test.YtabaholflahepaaDoorMem
import Derived.LaidEql
namespace Go.Proofs.YtabaholflahepaaDoor
open Go.RowKit

/-- The two sentinels: they are two pointers to plain blocks, all below B. -/
def Errs (B : Nat) (w : World) : Prop :=
  ∃ p q cp tp cq tq, w.cell? ⟨2, 0, none⟩ = some (.iface 235 (.pointer (some p))) ∧ w.cell? ⟨3, 0, none⟩ = some (.iface 235 (.pointer (some q))) ∧ p ≠ q ∧
    w.heap[p.block]? = some (.cells cp tp (0, 0)) ∧ w.heap[q.block]? = some (.cells cq tq (0, 0)) ∧ 4 ≤ B ∧ p.block < B ∧ q.block < B ∧ B ≤ w.heap.size

theorem Errs.keep {B : Nat} {S : Nat → Prop} {w w' : World} (h : Errs B w) (hk : Keep S w w') (hs : ∀ k, S k → B ≤ k) : Errs B w' := by
  obtain ⟨p, q, cp, tp, cq, tq, h1, h2, h3, h4, h5, h6, h7, h8, h9⟩ := h
  refine ⟨p, q, cp, tp, cq, tq, hk.cell h1 fun h => ?_, hk.cell h2 fun h => ?_, h3, ?_, ?_, h6, h7, h8, Nat.le_trans h9 hk.size⟩
  · have := hs _ h; simp at this; omega
  · have := hs _ h; simp at this; omega
  · rw [hk.block _ (by omega) fun h => by have := hs _ h; omega]; exact h4
  · rw [hk.block _ (by omega) fun h => by have := hs _ h; omega]; exact h5
theorem Errs.kept {B : Nat} {w w' : World} (h : Errs B w) (hk : Kept w w') : Errs B w' := h.keep hk fun _ hf => hf.elim

theorem row235 : (Tryd.prog.info? 235).map (·.comparable) = some true := by kernel_rfl
theorem row237 : (Tryd.prog.info? 237).map (·.size) = some 1 := by kernel_rfl

/-- A Reader's offset can be read. -/
def RdOff (w : World) (rb : Nat) : Prop := ∃ x : Int, w.cell? ⟨rb, 6, none⟩ = some (.int .i64 x)
theorem RdOff.keep {S : Nat → Prop} {w w' : World} {rb : Nat} (h : RdOff w rb) (hk : Keep S w w') (hs : ¬ S rb) : RdOff w' rb := by
  obtain ⟨x, hx⟩ := h
  exact ⟨x, hk.cell hx hs⟩
theorem RdOff.kept {w w' : World} {rb : Nat} (h : RdOff w rb) (hk : Kept w w') : RdOff w' rb := h.keep hk fun hf => hf

/-- What a function that makes an error leaves. -/
def ErrPost (w : World) (e : Ending) (w' : World) : Prop := ∃ v, IsErr v ∧ e = .returned v ∧ Kept w w'

theorem wrap_other {B : Nat} (rb : Nat) (off : Int) (p : Addr) (cp : Array Value) (tp : TypeId) (w : World) (he : Errs B w) (hr : RdOff w rb)
    (hp : w.heap[p.block]? = some (.cells cp tp (0, 0))) (hne : ∀ q, w.cell? ⟨3, 0, none⟩ = some (.iface 235 (.pointer (some q))) → p ≠ q) :
    Calls Tryd.prog 110 #[.pointer (some ⟨rb, 0, none⟩), .int .i64 off, .iface 235 (.pointer (some p))] w (ErrPost w) := by
  obtain ⟨_, q, _, _, cq, tq, _, h2, _, _, h5, _, _, _⟩ := he
  obtain ⟨x, hx⟩ := hr
  obtain ⟨i, hi, hc⟩ := Option.map_eq_some_iff.1 row235
  obtain ⟨j, hj, hsz⟩ := Option.map_eq_some_iff.1 row237
  have hpq := hne q h2
  clear hne
  have heq := run_eql_iface_ptr_other (P := Tryd.prog) w (ti := 163) Tryd.underlying163 Tryd.underlying235 hi hc hj (by rw [hsz]; decide) hpq hp h5
  clear hi hc hj hsz
  go_enter Tryd.func110, Tryd.ntmps110
  go_wp2
  go_ret
  exact ⟨_, ⟨_, _, rfl⟩, rfl, by repeat (first | exact Keep.refl _ _ | apply Keep.alloc | apply Keep.drew)⟩

theorem errors_New (s : ByteArray) (w : World) :
    Calls Tryd.prog 111 #[.string s] w fun e w' => e = .returned (.iface 235 (.pointer (some ⟨w.heap.size, 0, none⟩))) ∧ w' = w.alloc (.cells #[.string s] 237) := by
  go_enter Tryd.func111, Tryd.ntmps111
  go_wp2
  go_ret
  exact ⟨rfl, rfl⟩

theorem makeEOFError {B : Nat} (rb : Nat) (off : Int) (w : World) (he : Errs B w) (hr : RdOff w rb) :
    Calls Tryd.prog 92 #[.pointer (some ⟨rb, 0, none⟩), .int .i64 off] w (ErrPost w) := by
  have he' := he
  obtain ⟨p, q, cp, tp, cq, tq, h1, h2, h3, h4, h5, _, _, _⟩ := he
  go_enter Tryd.func92, Tryd.ntmps92
  go_wp2_with fail
  refine (wrap_other rb off p cp tp w he' hr h4 fun q' hq' => ?_).mono ?_
  · rw [h2] at hq'
    simp only [Option.some.injEq, Value.iface.injEq, Value.pointer.injEq, true_and] at hq'
    exact hq' ▸ h3
  · rintro e w' ⟨v, hv, rfl, hk⟩
    go_wp2
    go_ret
    exact ⟨v, hv, rfl, hk⟩

theorem makeError {B : Nat} (rb : Nat) (off : Int) (s : ByteArray) (w : World) (he : Errs B w) (hr : RdOff w rb) :
    Calls Tryd.prog 93 #[.pointer (some ⟨rb, 0, none⟩), .int .i64 off, .string s] w (ErrPost w) := by
  have hk0 : Kept w (w.alloc (.cells #[.string s] 237)) := (Keep.refl _ _).alloc _
  have he' := he.kept hk0
  have hr' := hr.kept hk0
  have hB : B ≤ w.heap.size := by obtain ⟨_, _, _, _, _, _, _, _, _, _, _, _, _, _, h9⟩ := he; exact h9
  have hq : ∀ q, (w.alloc (.cells #[.string s] 237)).cell? ⟨3, 0, none⟩ = some (.iface 235 (.pointer (some q))) → (⟨w.heap.size, 0, none⟩ : Addr) ≠ q := by
    obtain ⟨p, q, cp, tp, cq, tq, h1, h2, h3, h4, h5, h6, h7, h8⟩ := he'
    intro q' hq'
    rw [h2] at hq'
    simp only [Option.some.injEq, Value.iface.injEq, Value.pointer.injEq, true_and] at hq'
    subst hq'
    rintro rfl
    simp at h8
    omega
  go_enter Tryd.func93, Tryd.ntmps93
  go_wp2_with fail
  refine (errors_New s w).mono ?_
  rintro e w' ⟨rfl, rfl⟩
  go_wp2_with fail
  refine (wrap_other rb off ⟨w.heap.size, 0, none⟩ _ _ _ he' hr' (heap_alloc_new w _) hq).mono ?_
  rintro e w' ⟨v, hv, rfl, hk⟩
  go_wp2
  go_ret
  exact ⟨v, hv, rfl, hk0.trans hk⟩
end Go.Proofs.YtabaholflahepaaDoor
