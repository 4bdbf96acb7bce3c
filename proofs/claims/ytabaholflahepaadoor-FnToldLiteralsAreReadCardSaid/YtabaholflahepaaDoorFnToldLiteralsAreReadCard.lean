/-
  For every text, every slice of ints and every slice of bytes: laws.FnToldLiteralsAreRead returns true, and each argument reads behind the call as it read before. (The card: io.EOF and io.ErrUnexpectedEOF hold what their initialisers laid.)
-/
import Derived.Test.YtabaholflahepaaDoorFnToldLits
import Derived.Test.YtabaholflahepaaDoorFrameD
import Derived.Test.YtabaholflahepaaDoorCards
import Derived.Test.YtabaholflahepaaDoorTie
import Derived.SevenTiedAt
namespace Go.Proofs.YtabaholflahepaaDoor.FnToldLiteralsAreRead
open Go.ChangeShapes Go.WideShapes Go.ChangeAt Go.RowKit
set_option maxRecDepth 100000

theorem lifted (os : Os) (started : os.Started) (H : Type) (enc : TypeId × Value → H) :
    ReturnsInHanded {} Tryd.checked os 15 .any (fun w args => (Rows.fnToldLiteralsAreReadSpec.pre enc Tryd.prog Tryd.f15 [] false w args ∧ laidMetH Tryd.prog laid2 w) ∧ sizedMet enc Tryd.prog Tryd.f15 (OpenSpec.ofChange Rows.fnToldLiteralsAreReadSpec) false w args)
      (Rows.fnToldLiteralsAreReadSpec.post enc Tryd.prog Tryd.f15 false true false false) := by
  refine returnsInHanded_of_change_and (C := Tryd.checked) (X := fun w _ => laidMetH Tryd.prog laid2 w) (fun _ _ _ hh h => h.of_heap hh) own started (by kernel_rfl) Tryd.func15
    (ChangeSpec.witness_shaped (enc := enc) (C := Tryd.checked) (os := os) (X := fun w _ => laidMetH Tryd.prog laid2 w) false (World.doorLaid Tryd.prog 57 os) #[.slice none 0 0, .slice none 0 0, .slice none 0 0] 8 rfl (World.shaped_of_RefB (by kernel_rfl) (by kernel_rfl)) (by kernel_rfl) (by kernel_rfl) (by kernel_rfl) (door_met2 os _)) ?_
  intro W base args ds gs before hval0 hW _ _ hL _
  have hval : ∀ (j : Nat) t v, Tryd.f15.params[j]? = some t → args[j]? = some v → Value.okWide Tryd.prog W .any base t v := hval0
  have hW' := hW
  obtain ⟨p, q, hA0, hV, rfl, hfz, hnd⟩ := hW
  have hA : DataW.TrodAll enc Tryd.prog W 0 (fun _ => true) true Tryd.f15.params.toList args.toList ds p := hA0
  rw [Tryd.params15] at hA hval
  obtain ⟨v0, vs0, d0, ds0, p0, q0, hargs, rfl, rfl, h0, r0⟩ := trodAll_cons hA
  obtain ⟨v1, vs1, d1, ds1, p1, q1, rfl, rfl, rfl, h1, r1⟩ := trodAll_cons r0
  obtain ⟨v2, vs2, d2, ds2, p2, q2, rfl, rfl, rfl, h2, r2⟩ := trodAll_cons r1
  obtain ⟨rfl, rfl, rfl⟩ := trodAll_nil r2
  obtain rfl : args = #[v0, v1, v2] := by cases args; simp_all
  obtain ⟨rfl, rfl⟩ := trodVars_none hV
  have k0 := h0
  have k1 := h1
  have k2 := h2
  have lt0 : ∀ x ∈ p0, x.block < W.heap.size := by obtain ⟨m, hm⟩ := k0; exact DataW.trod_lt m _ _ _ hm
  have lt1 : ∀ x ∈ p1, x.block < W.heap.size := by obtain ⟨m, hm⟩ := k1; exact DataW.trod_lt m _ _ _ hm
  have lt2 : ∀ x ∈ p2, x.block < W.heap.size := by obtain ⟨m, hm⟩ := k2; exact DataW.trod_lt m _ _ _ hm
  obtain ⟨A0, c0, xs0, rfl, hs0, hx0, hm0, hc0⟩ := u8s_inC (hval 0 22 v0 rfl rfl) h0
  obtain ⟨A1, c1, xs1, rfl, hs1, hx1, hm1⟩ := i64s_in (hval 1 23 v1 rfl rfl) h1
  obtain ⟨A2, c2, xs2, rfl, hs2, hx2, hm2⟩ := u8s_in (hval 2 22 v2 rfl rfl) h2
  have he := errs_of_laid hL
  clear hA0 hval0
  refine (fnToldLiteralsAreRead_walk A0 c0 xs0 A1 c1 xs1 A2 c2 xs2 W hs0 hx0 hm0 hc0 hs1 hx1 hm1 hs2 hx2 hm2 he).mono fun e W' ⟨he, hk⟩ => ?_
  have bel := hk.below
  subst he
  exact ⟨_, rfl, _, _, _, [], _, [], hW', trodAll_mk1 (shut_bool Tryd.underlying4 _), (trodAll_cons_mk (Below.trod laidOut (by kernel_rfl) (of_decide_eq_true (by kernel_rfl)) k0 bel lt0) (trodAll_cons_mk (Below.trod laidOut (by kernel_rfl) (of_decide_eq_true (by kernel_rfl)) k1 bel lt1) (trodAll_cons_mk (Below.trod laidOut (by kernel_rfl) (of_decide_eq_true (by kernel_rfl)) k2 bel lt2) trodAll_mk0))), rfl, bel.frame _, fun h => by cases h⟩

theorem said : Rows.FnToldLiteralsAreReadSaid :=
  OpenClaim.holds_of_wide 15 Tryd.f15 rfl rfl rfl rfl rfl rfl rfl ⟨rfl, rfl, rfl, rfl, rfl⟩ rfl rfl rfl rfl rfl (by kernel_rfl) Tryd.func15 (by kernel_rfl)
    (of_decide_eq_true (by kernel_rfl)) (by unfold Func.isWrapper; first | (rw [if_pos (by decide +kernel)]; kernel_rfl) | (rw [if_neg (by decide +kernel)]; exact ⟨rfl, rfl⟩))
    (fun os started H enc _ => lifted os started H enc)

theorem plain (f : FuncId) (fn : Func) (hf : Tryd.pinned.checked.prog.funcNamed "framesunpacked/laws.FnToldLiteralsAreRead" = some f) (hfn : Tryd.pinned.checked.prog.funcs[f]? = some fn) :
    true = Tryd.pinned.checked.prog.looks [] ∧ ∀ (j : Nat) t, fn.params[j]? = some t → Tryd.pinned.checked.prog.wantsStandIn t = false := by
  obtain rfl : f = 15 := Option.some.inj ((show Tryd.prog.funcNamed "framesunpacked/laws.FnToldLiteralsAreRead" = some 15 by kernel_rfl).symm.trans hf) |>.symm
  obtain rfl : fn = Tryd.f15 := (Option.some.inj (Tryd.func15.symm.trans hfn)).symm
  refine ⟨by kernel_rfl, fun j t ht => ?_⟩
  rw [Tryd.params15] at ht
  have h : t = 22 ∨ t = 23 ∨ t = 22 := by
    have := Array.mem_of_getElem? ht
    simpa only [List.mem_toArray, List.mem_cons, List.not_mem_nil, or_false] using this
  rcases h with rfl | rfl | rfl
  · exact (show Tryd.prog.wantsStandIn 22 = false by kernel_rfl)
  · exact (show Tryd.prog.wantsStandIn 23 = false by kernel_rfl)
  · exact (show Tryd.prog.wantsStandIn 22 = false by kernel_rfl)

/-- The card. -/
theorem card : Rows.FnToldLiteralsAreReadCardSaid :=
  Claim7.holds_tied_plain_at .later [] _ _ _ _ said (fun _ h => by cases h) (by kernel_rfl) (fun _ h => by cases h) fnToldLiteralsAreRead_row_tie rfl ⟨rfl, rfl⟩ (by kernel_rfl) rfl plain (by kernel_rfl)
end Go.Proofs.YtabaholflahepaaDoor.FnToldLiteralsAreRead
namespace Go.Proofs.YtabaholflahepaaDoor
theorem fnToldLiteralsAreRead_card : Rows.FnToldLiteralsAreReadCardSaid := FnToldLiteralsAreRead.card
#print axioms fnToldLiteralsAreRead_card
end Go.Proofs.YtabaholflahepaaDoor
