/-
  A load may be taken first where only operations that wait for it write its cell: S is to be kept till the first of the operations 'st' comes up.
-/
import Derived.OrdersHeld
import Derived.RegionTactic
namespace Go.Proofs.YtabaholflahepaaDoor
open Go

section
variable {P : Program} {ops : Array Oper} {Q : Exit → Act → World → Prop} {md : Region.Mode} {S : World → Prop} {st : List Nat}

def Till (S : World → Prop) (st : List Nat) (listed : Array Bool) (w : World) : Prop := (∀ s ∈ st, listed.getD s true = false) → S w

def wpTill (P : Program) (md : Region.Mode) (ops : Array Oper) (Q : Exit → Act → World → Prop) (S : World → Prop) (st : List Nat) : Nat → Array Bool → Act → World → Prop
  | 0, listed, a, w => Region.ready md ops listed = [] ∧ Q .normal a w
  | f + 1, listed, a, w => (Region.ready md ops listed = [] → Q .normal a w) ∧
    ∀ i ∈ Region.ready md ops listed, wpOp P ops Q i (fun a' w' => Till S st (listed.setIfInBounds i true) w' ∧ wpTill P md ops Q S st f (listed.setIfInBounds i true) a' w') a w

theorem wpAny_of_till : ∀ (f : Nat) (listed : Array Bool) (a : Act) (w : World), wpTill P md ops Q S st f listed a w → wpAny P md ops Q f listed a w
  | 0, _, _, _, h => h
  | f + 1, _, _, _, h => ⟨h.1, fun i hi => wpOp_mono (fun a' w' h' => wpAny_of_till f _ a' w' h'.2) (h.2 i hi)⟩

theorem wpTill_first {i : Nat} {oi : Oper} {v : Value} (hi : ops[i]? = some oi) (hsel : ∀ (j : Nat) (o : Oper) cs b, ops[j]? = some o → o.op ≠ .select cs b)
    (hQ : ∀ c a w, Q (.panic c) (a.put oi.dst v) w → Q (.panic c) a w) (hst : ∀ s ∈ st, s ≠ i ∧ ∃ os, ops[s]? = some os ∧ ∃ e ∈ os.after, Region.binds md e = true ∧ e.on = i) :
    ∀ (f : Nat) (listed : Array Bool) (a : Act) (w : World),
      (∀ j oj, ops[j]? = some oj → j ≠ i → listed.getD j true = false → (∀ e ∈ oj.after, Region.binds md e = true → e.on ≠ i) → oi.apart ops oj = true) →
      i ∈ Region.ready md ops listed → YieldsIf P ops S oi v a → (∀ s ∈ st, listed.getD s true = false) → S w →
      wpTill P md ops Q S st f (listed.setIfInBounds i true) (a.put oi.dst v) w → wpTill P md ops Q S st (f + 1) listed a w := by
  intro f
  induction f with
  | zero =>
    intro listed a w _ hr hy _ hS H
    refine ⟨fun h => (by rw [h] at hr; cases hr), fun j hj => ?_⟩
    by_cases hji : j = i
    · subst hji
      exact hy.wpOp hi hS ⟨fun _ => hS, H⟩
    · have := ready_mono hj hji
      rw [H.1] at this
      cases this
  | succ f ih =>
    intro listed a w hfree hr hy hun hS H
    refine ⟨fun h => (by rw [h] at hr; cases hr), fun j hj => ?_⟩
    by_cases hji : j = i
    · subst hji
      exact hy.wpOp hi hS ⟨fun _ => hS, H⟩
    · have h1 := H.2 j (ready_mono hj hji)
      obtain ⟨hjun, oj, hoj, hall⟩ := mem_ready.1 hj
      have hiun := (mem_ready.1 hr).1
      have hisz : i < listed.size := by
        rcases Nat.lt_or_ge i listed.size with h | h
        · exact h
        · simp [Array.getElem?_eq_none h] at hiun
      have hnot : ∀ e ∈ oj.after, Region.binds md e = true → e.on ≠ i := fun e he hb heq => by
        have h2 := hall e he hb
        rw [heq] at h2
        simp only [Array.getD_eq_getD_getElem?, Array.getElem?_eq_getElem hisz, Option.getD_some] at h2 hiun
        rw [h2] at hiun
        cases hiun
      have hjs : j ∉ st := fun hm => by
        obtain ⟨_, os, hos, e, he, hb, heq⟩ := hst j hm
        rw [hoj] at hos
        obtain rfl := Option.some.inj hos
        exact hnot e he hb heq
      have hun2 : ∀ s ∈ st, (listed.setIfInBounds j true).getD s true = false := fun s hs => by
        rw [getD_set_ne true (fun e : j = s => hjs (e ▸ hs))]
        exact hun s hs
      have hun3 : ∀ s ∈ st, ((listed.setIfInBounds i true).setIfInBounds j true).getD s true = false := fun s hs => by
        rw [getD_set_ne true (fun e : j = s => hjs (e ▸ hs)), getD_set_ne true (Ne.symm (hst s hs).1)]
        exact hun s hs
      have h2 := wpOp_putIf hoj (hfree j oj hoj hji hjun hnot) (fun cs b => hsel i oi cs b hi) (fun cs b => hsel j oj cs b hoj) hQ hy h1
      have hfree' : ∀ k ok, ops[k]? = some ok → k ≠ i → (listed.setIfInBounds j true).getD k true = false → (∀ e ∈ ok.after, Region.binds md e = true → e.on ≠ i) → oi.apart ops ok = true := fun k ok hk hki hk2 hno => by
        refine hfree k ok hk hki ?_ hno
        by_cases hjk : j = k
        · subst hjk; exact hjun
        · rwa [getD_set_ne true hjk] at hk2
      refine wpOp_mono (fun a' w' h3 => ⟨fun _ => h3.2.1 hun3, ih (listed.setIfInBounds j true) a' w' hfree' (ready_mono hr (Ne.symm hji)) h3.1 hun2 (h3.2.1 hun3) ?_⟩) h2
      rw [Array.setIfInBounds_comm _ _ hji]
      exact h3.2.2

/-- The operations 'st' wait for number i. -/
def waitB (md : Region.Mode) (ops : Array Oper) (st : List Nat) (i : Nat) : Bool :=
  st.all fun s => s != i && match ops[s]? with
    | none => false
    | some os => os.after.any fun e => Region.binds md e && e.on == i
theorem waitB_spec {i : Nat} (h : waitB md ops st i = true) (s : Nat) (hs : s ∈ st) : s ≠ i ∧ ∃ os, ops[s]? = some os ∧ ∃ e ∈ os.after, Region.binds md e = true ∧ e.on = i := by
  have h1 := List.all_eq_true.1 h s hs
  simp only [Bool.and_eq_true, bne_iff_ne] at h1
  refine ⟨h1.1, ?_⟩
  cases hos : ops[s]? with
  | none => rw [hos] at h1; cases h1.2
  | some os =>
    rw [hos] at h1
    obtain ⟨e, he, hb⟩ := Array.any_eq_true'.1 h1.2
    simp only [Bool.and_eq_true, beq_iff_eq] at hb
    exact ⟨os, rfl, e, he, hb.1, hb.2⟩

theorem wpTill_take (i : Nat) {oi : Oper} {v : Value} {f : Nat} {listed : Array Bool} {a : Act} {w : World} (hi : ops[i]? = some oi)
    (hs : Region.noSelect ops = true) (hf : Region.free md ops listed i = true) (hr : (Region.ready md ops listed).contains i = true) (hw : waitB md ops st i = true) (hun : st.all (fun s => !listed.getD s true) = true)
    (hQ : ∀ c a w, Q (.panic c) (a.put oi.dst v) w → Q (.panic c) a w) (hy : YieldsIf P ops S oi v a) (hS : S w)
    (h : wpTill P md ops Q S st f (listed.setIfInBounds i true) (a.put oi.dst v) w) : wpTill P md ops Q S st (f + 1) listed a w :=
  wpTill_first hi (Region.noSelect_spec hs) hQ (waitB_spec hw) f listed a w (Region.free_spec hi hf) (by simpa using hr) hy (fun s hs => by simpa using List.all_eq_true.1 hun s hs) hS h

/-- What yields its value in whatever world. -/
theorem wpTill_firstV {i : Nat} {oi : Oper} {v : Value} (hi : ops[i]? = some oi) (hsel : ∀ (j : Nat) (o : Oper) cs b, ops[j]? = some o → o.op ≠ .select cs b)
    (hQ : ∀ c a w, Q (.panic c) (a.put oi.dst v) w → Q (.panic c) a w) (hst : ∀ s ∈ st, s ≠ i) :
    ∀ (f : Nat) (listed : Array Bool) (a : Act) (w : World),
      (∀ j oj, ops[j]? = some oj → j ≠ i → listed.getD j true = false → (∀ e ∈ oj.after, Region.binds md e = true → e.on ≠ i) → oi.apart ops oj = true) →
      i ∈ Region.ready md ops listed → YieldsIf P ops (fun _ => True) oi v a → Till S st listed w →
      wpTill P md ops Q S st f (listed.setIfInBounds i true) (a.put oi.dst v) w → wpTill P md ops Q S st (f + 1) listed a w := by
  have hT : ∀ (listed : Array Bool) (w : World), Till S st (listed.setIfInBounds i true) w ↔ Till S st listed w := fun listed w => by
    unfold Till
    constructor
    · intro h hs
      exact h fun s hm => by rw [getD_set_ne true (Ne.symm (hst s hm))]; exact hs s hm
    · intro h hs
      exact h fun s hm => by have := hs s hm; rwa [getD_set_ne true (Ne.symm (hst s hm))] at this
  intro f
  induction f with
  | zero =>
    intro listed a w _ hr hy hS H
    refine ⟨fun h => (by rw [h] at hr; cases hr), fun j hj => ?_⟩
    by_cases hji : j = i
    · subst hji
      exact hy.wpOp hi trivial ⟨(hT _ _).2 hS, H⟩
    · have := ready_mono hj hji
      rw [H.1] at this
      cases this
  | succ f ih =>
    intro listed a w hfree hr hy hS H
    refine ⟨fun h => (by rw [h] at hr; cases hr), fun j hj => ?_⟩
    by_cases hji : j = i
    · subst hji
      exact hy.wpOp hi trivial ⟨(hT _ _).2 hS, H⟩
    · have h1 := H.2 j (ready_mono hj hji)
      obtain ⟨hjun, oj, hoj, hall⟩ := mem_ready.1 hj
      have hiun := (mem_ready.1 hr).1
      have hisz : i < listed.size := by
        rcases Nat.lt_or_ge i listed.size with h | h
        · exact h
        · simp [Array.getElem?_eq_none h] at hiun
      have hnot : ∀ e ∈ oj.after, Region.binds md e = true → e.on ≠ i := fun e he hb heq => by
        have h2 := hall e he hb
        rw [heq] at h2
        simp only [Array.getD_eq_getD_getElem?, Array.getElem?_eq_getElem hisz, Option.getD_some] at h2 hiun
        rw [h2] at hiun
        cases hiun
      have h2 := wpOp_putIf hoj (hfree j oj hoj hji hjun hnot) (fun cs b => hsel i oi cs b hi) (fun cs b => hsel j oj cs b hoj) hQ hy h1
      have hfree' : ∀ k ok, ops[k]? = some ok → k ≠ i → (listed.setIfInBounds j true).getD k true = false → (∀ e ∈ ok.after, Region.binds md e = true → e.on ≠ i) → oi.apart ops ok = true := fun k ok hk hki hk2 hno => by
        refine hfree k ok hk hki ?_ hno
        by_cases hjk : j = k
        · subst hjk; exact hjun
        · rwa [getD_set_ne true hjk] at hk2
      refine wpOp_mono (fun a' w' h3 => ?_) h2
      have h4 := h3.2
      rw [Array.setIfInBounds_comm _ _ (Ne.symm hji)] at h4
      have h5 := (hT _ _).1 h4.1
      exact ⟨h5, ih (listed.setIfInBounds j true) a' w' hfree' (ready_mono hr (Ne.symm hji)) h3.1 h5 h4.2⟩
theorem wpTill_val (i : Nat) {oi : Oper} {v : Value} {f : Nat} {listed : Array Bool} {a : Act} {w : World} (hi : ops[i]? = some oi)
    (hs : Region.noSelect ops = true) (hf : Region.free md ops listed i = true) (hr : (Region.ready md ops listed).contains i = true) (hw : st.all (fun s => s != i) = true)
    (hQ : ∀ c a w, Q (.panic c) (a.put oi.dst v) w → Q (.panic c) a w) (hy : YieldsIf P ops (fun _ => True) oi v a) (hS : Till S st listed w)
    (h : wpTill P md ops Q S st f (listed.setIfInBounds i true) (a.put oi.dst v) w) : wpTill P md ops Q S st (f + 1) listed a w :=
  wpTill_firstV hi (Region.noSelect_spec hs) hQ (fun s hs => by simpa using List.all_eq_true.1 hw s hs) f listed a w (Region.free_spec hi hf) (by simpa using hr) hy hS h

theorem wpTill_done {listed : Array Bool} {a : Act} {w : World} (hr : Region.ready md ops listed = []) (h : Q .normal a w) : ∀ f, wpTill P md ops Q S st f listed a w
  | 0 => ⟨hr, h⟩
  | _ + 1 => ⟨fun _ => h, by rw [hr]; simp⟩

/-- Those that may come up next. -/
def AllTill (P : Program) (md : Region.Mode) (ops : Array Oper) (Q : Exit → Act → World → Prop) (S : World → Prop) (st : List Nat) (f : Nat) (listed : Array Bool) (a : Act) (w : World) (rs : List Nat) : Prop :=
  ∀ i ∈ rs, wpOp P ops Q i (fun a' w' => Till S st (listed.setIfInBounds i true) w' ∧ wpTill P md ops Q S st f (listed.setIfInBounds i true) a' w') a w
theorem wpTill_ready (rs : List Nat) {f : Nat} {listed : Array Bool} {a : Act} {w : World} (hr : Region.ready md ops listed = rs) (hne : rs ≠ []) (h : AllTill P md ops Q S st f listed a w rs) : wpTill P md ops Q S st (f + 1) listed a w :=
  ⟨fun h0 => absurd (hr ▸ h0) hne, hr ▸ h⟩
theorem AllTill.nil {f : Nat} {listed : Array Bool} {a : Act} {w : World} : AllTill P md ops Q S st f listed a w [] := fun _ h => by cases h
theorem AllTill.cons {f : Nat} {listed : Array Bool} {a : Act} {w : World} {i : Nat} {o : Oper} {rs : List Nat} (ho : ops[i]? = some o)
    (h : ∀ K : Act → World → Prop, (∀ a w, Till S st (listed.setIfInBounds i true) w → wpTill P md ops Q S st f (listed.setIfInBounds i true) a w → K a w) → if Region.wanted o (yielded ops a.tmps) = true then Oper.wp P o a w K Q else K (a.put o.dst undef) w)
    (hs : AllTill P md ops Q S st f listed a w rs) : AllTill P md ops Q S st f listed a w (i :: rs) := fun j hj => by
  rcases List.mem_cons.1 hj with rfl | hj
  · have h1 := h _ fun a w ht hw => And.intro ht hw
    unfold wpOp
    simp only [ho]
    split
    · rename_i hw
      rw [if_pos hw] at h1
      exact .inl h1
    · rename_i hw
      rw [if_neg hw] at h1
      exact h1
  · exact hs j hj

/-- The same; the operation is read off the list, so that it stands written out. -/
theorem AllTill.consL {l : List Oper} {f : Nat} {listed : Array Bool} {a : Act} {w : World} {i : Nat} {o : Oper} {rs : List Nat} (ho : l[i]? = some o)
    (h : ∀ K : Act → World → Prop, (∀ a w, Till S st (listed.setIfInBounds i true) w → wpTill P md l.toArray Q S st f (listed.setIfInBounds i true) a w → K a w) → if Region.wanted o (yielded l.toArray a.tmps) = true then Oper.wp P o a w K Q else K (a.put o.dst undef) w)
    (hs : AllTill P md l.toArray Q S st f listed a w rs) : AllTill P md l.toArray Q S st f listed a w (i :: rs) := AllTill.cons (by simpa using ho) h hs

/-- The takes; the operation is read off the list, so that it stands written out. -/
theorem wpTill_takeL (i : Nat) {l : List Oper} {oi : Oper} {v : Value} {f : Nat} {listed : Array Bool} {a : Act} {w : World} (hi : l[i]? = some oi)
    (hs : Region.noSelect l.toArray = true) (hf : Region.free md l.toArray listed i = true) (hr : (Region.ready md l.toArray listed).contains i = true) (hw : waitB md l.toArray st i = true) (hun : st.all (fun s => !listed.getD s true) = true)
    (hQ : ∀ c a w, Q (.panic c) (a.put oi.dst v) w → Q (.panic c) a w) (hy : YieldsIf P l.toArray S oi v a) (hS : S w)
    (h : wpTill P md l.toArray Q S st f (listed.setIfInBounds i true) (a.put oi.dst v) w) : wpTill P md l.toArray Q S st (f + 1) listed a w :=
  wpTill_take i (by simpa using hi) hs hf hr hw hun hQ hy hS h
theorem wpTill_valL (i : Nat) {l : List Oper} {oi : Oper} {v : Value} {f : Nat} {listed : Array Bool} {a : Act} {w : World} (hi : l[i]? = some oi)
    (hs : Region.noSelect l.toArray = true) (hf : Region.free md l.toArray listed i = true) (hr : (Region.ready md l.toArray listed).contains i = true) (hw : st.all (fun s => s != i) = true)
    (hQ : ∀ c a w, Q (.panic c) (a.put oi.dst v) w → Q (.panic c) a w) (hy : YieldsIf P l.toArray (fun _ => True) oi v a) (hS : Till S st listed w)
    (h : wpTill P md l.toArray Q S st f (listed.setIfInBounds i true) (a.put oi.dst v) w) : wpTill P md l.toArray Q S st (f + 1) listed a w :=
  wpTill_val i (by simpa using hi) hs hf hr hw hQ hy hS h

/-- The beginning. -/
theorem wp_region_till (S : World → Prop) (st : List Nat) {id : Nat} {a : Act} {w : World} (hm : P.follows .mixedOrders = true) (h : wpTill P .any ops Q S st ops.size (Array.replicate ops.size false) a w.drew) : (Code.region id ops true).wp P Q a w :=
  wp_region_any hm (wpAny_of_till _ _ _ _ h)
theorem wp_region_tillN (S : World → Prop) (st : List Nat) (n : Nat) (listed : Array Bool) {id : Nat} {a : Act} {w : World} (hn : ops.size = n) (hl : Array.replicate n false = listed) (hm : P.follows .mixedOrders = true)
    (h : wpTill P .any ops Q S st n listed a w.drew) : (Code.region id ops true).wp P Q a w := by
  subst hl hn
  exact wp_region_till S st hm h
end
end Go.Proofs.YtabaholflahepaaDoor
