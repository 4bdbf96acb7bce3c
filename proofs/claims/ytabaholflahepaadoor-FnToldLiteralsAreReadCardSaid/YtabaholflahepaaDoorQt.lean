/-
  A region that draws its order, whose operations read and call quietly (callees may draw) before a forced tail: one walk of the lexical order, then the tail in every world that differs by draws alone.
-/
import Derived.StillTailTactics
import Derived.Deep.QuietTactic
namespace Go.Proofs.YtabaholflahepaaDoor
open Go

section
variable {P : Program} {ops : Array Oper} {md : Region.Mode} {C : World → Prop} {n : Nat} {L : Array Bool → Act → Prop}

/-- So many operations of the head come up, in whatever order; then L. -/
def headQ (P : Program) (md : Region.Mode) (ops : Array Oper) (C : World → Prop) (n : Nat) (L : Array Bool → Act → Prop) : Nat → Array Bool → Act → Prop
  | 0, listed, a => L listed a
  | f + 1, listed, a => Region.ready md ops listed ≠ [] ∧ ∀ i ∈ Region.ready md ops listed, i < n ∧ qOp P ops C i (headQ P md ops C n L f (listed.setIfInBounds i true)) a

theorem headQ_any {g : Nat} {Q : Exit → Act → World → Prop} (hL : ∀ listed a w, C w → L listed a → wpAny P md ops Q g listed a w) :
    ∀ (f : Nat) (listed : Array Bool) (a : Act) (w : World), C w → headQ P md ops C n L f listed a → wpAny P md ops Q (f + g) listed a w
  | 0, listed, a, w, hw, h => by
    rw [Nat.zero_add]
    exact hL _ _ _ hw h
  | f + 1, listed, a, w, hw, h => by
    rw [Nat.add_right_comm]
    exact ⟨fun h0 => absurd h0 h.1, fun i hi => wpOp_of_qOp hw (fun a' w' hw' h' => headQ_any hL f _ a' w' hw' h') (h.2 i hi).2⟩

theorem headQ_first {i : Nat} {oi : Oper} {v : Value} (hi : ops[i]? = some oi) (hsel : ∀ (j : Nat) (o : Oper) cs b, ops[j]? = some o → o.op ≠ .select cs b)
    (hs : Region.sinkB md ops n = true) (hc : Region.chainB md ops n = true) (hn : n < ops.size) (hin : i < n) (hend : ∀ listed a, L listed a → ∀ j ∈ Region.ready md ops listed, n ≤ j) :
    ∀ (f : Nat) (listed : Array Bool) (a : Act), HeadInv md ops n listed →
      (∀ j oj, ops[j]? = some oj → j ≠ i → listed.getD j true = false → (∀ e ∈ oj.after, Region.binds md e = true → e.on ≠ i) → oi.apart ops oj = true) →
      i ∈ Region.ready md ops listed → YieldsIn P ops C oi v a →
      headQ P md ops C n L f (listed.setIfInBounds i true) (a.put oi.dst v) → headQ P md ops C n L (f + 1) listed a := by
  intro f
  induction f with
  | zero =>
    intro listed a inv _ hr hy H
    refine ⟨List.ne_nil_of_mem hr, fun j hj => ?_⟩
    have hjn : j < n := Nat.lt_of_not_le fun h => tail_waits hs hc hn inv _ i rfl hin (mem_ready.1 hr).1 j h hj
    refine ⟨hjn, ?_⟩
    rcases Nat.decEq j i with hji | hji
    · have := hend _ _ H j (ready_mono hj hji)
      omega
    · subst hji
      exact hy.qOp hi H
  | succ f ih =>
    intro listed a inv hfree hr hy H
    refine ⟨List.ne_nil_of_mem hr, fun j hj => ?_⟩
    have hun := (mem_ready.1 hr).1
    have hjn : j < n := Nat.lt_of_not_le fun h => tail_waits hs hc hn inv _ i rfl hin hun j h hj
    refine ⟨hjn, ?_⟩
    rcases Nat.decEq j i with hji | hji
    · obtain ⟨hjun, oj, hoj, hall⟩ := mem_ready.1 hj
      have hno : ∀ e ∈ oj.after, Region.binds md e = true → e.on ≠ i := by
        intro e he hb heq
        have h1 := hall e he hb
        rw [heq, getD_both hun] at h1
        cases h1
      refine qOp_mono (fun a' h3 => ih (listed.setIfInBounds j true) a' (inv.set hj hjn) ?_ (ready_mono hr (Ne.symm hji)) h3.1 ?_)
        (qOp_put hoj (hfree j oj hoj hji hjun hno) (fun cs b => hsel i oi cs b hi) (fun cs b => hsel j oj cs b hoj) hy (H.2 j (ready_mono hj hji)).2)
      · intro k ok hk hki hku hkn
        refine hfree k ok hk hki ?_ hkn
        rcases Nat.decEq j k with hjk | hjk
        · rwa [getD_set_ne true hjk] at hku
        · subst hjk; exact hjun
      · rw [Array.setIfInBounds_comm _ _ hji]
        exact h3.2
    · subst hji
      exact hy.qOp hi H

theorem headQ_lex {g : Nat} {K : Act → Prop} (hsel : Region.noSelect ops = true) (hs : Region.sinkB md ops n = true) (hc : Region.chainB md ops n = true) (hn : n < ops.size) :
    ∀ (l : List Oper) (k : Nat) (listed : Array Bool) (a : Act), (∀ j, j < l.length → l[j]? = ops[k + j]?) → k + l.length = n → HeadInv md ops n listed →
    Region.lexHead md ops g l.length k listed = true → wpQuiet P ops C K l a →
    headQ P md ops C n (fun listed' a' => Region.seqB md ops g n listed' = true ∧ K a') l.length listed a
  | [], k, listed, a, _, hk, _, hB, h => by
    obtain rfl : k = n := by simpa using hk
    exact ⟨by simpa [Region.lexHead] using hB, h⟩
  | o :: l, k, listed, a, hl, hk, inv, hB, h => by
    simp only [List.length_cons] at hl hk hB
    have h0 : ops[k]? = some o := by simpa using (hl 0 (by omega)).symm
    simp only [Region.lexHead, Bool.and_eq_true] at hB
    have hr : k ∈ Region.ready md ops listed := by simpa using hB.1.1
    have hq : qOp P ops C k (wpQuiet P ops C K l) a := by
      unfold qOp
      simp only [h0]
      exact h
    obtain ⟨v, hy, hK⟩ := yieldsIn_of_qOp h0 hq
    refine headQ_first h0 (Region.noSelect_spec hsel) hs hc hn (by omega) (fun listed' a' hL => seqB_ready hL.1) l.length listed a inv (Region.free_spec h0 hB.1.2) hr hy ?_
    refine headQ_lex hsel hs hc hn l (k + 1) _ _ (fun j hj => ?_) (by omega) (inv.set hr (by omega)) hB.2 hK
    have := hl (j + 1) (by omega)
    simpa [Nat.add_assoc, Nat.add_comm 1 j] using this

/-- The law. -/
theorem wp_region_quiet_tail {id : Nat} {Q : Exit → Act → World → Prop} {a : Act} {w : World} {l : List Oper} (n : Nat) (hm : P.follows .mixedOrders = true) (hB : Region.lexTailB .any l.toArray n = true)
    (h : wpQuiet P l.toArray (fun w' => ∃ m, w' = w.drewN m) (fun a' => ∀ w', (∃ m, w' = w.drewN m) → wpList P l.toArray Q (l.drop n) a' w') (l.take n) a) : (Code.region id l.toArray true).wp P Q a w := by
  simp only [Region.lexTailB, Bool.and_eq_true, decide_eq_true_eq] at hB
  obtain ⟨⟨⟨⟨hsel, hn⟩, hs⟩, hc⟩, hlex⟩ := hB
  have hn' : n < l.length := by simpa using hn
  have htl : (l.take n).length = n := List.length_take_of_le (by omega)
  have hdl : (l.drop n).length = l.toArray.size - n := by simp
  have inv0 : HeadInv .any l.toArray n (Array.replicate l.toArray.size false) := by
    refine ⟨by simp, fun j oj _ hl => ?_, fun t _ ht => getD_in (by simpa using ht) (getD_replicate_false _ _)⟩
    rw [getD_replicate_false] at hl
    cases hl
  have H := headQ_lex (md := .any) (g := l.toArray.size - n) hsel hs hc hn (l.take n) 0 _ a (fun j hj => by
    rw [htl] at hj
    simp [hj]) (by simpa using htl) inv0 (by rw [htl]; exact hlex) h
  refine wp_region_any hm ?_
  have := headQ_any (Q := Q) (g := l.toArray.size - n) (fun listed a' w' hw' hL => by
    have := wpAny_of_seq (md := .any) (Q' := Q) (l.drop n) n listed a' w' (fun j => by simp [List.getElem?_drop]) (by rw [hdl]; exact hL.1) (hL.2 w' hw')
    rwa [hdl] at this) _ _ _ { w with drawn := w.drawn + 1 } ⟨1, rfl⟩ H
  rw [htl, show n + (l.toArray.size - n) = l.toArray.size by omega] at this
  exact this
end

/-- A return of four, of five results. -/
theorem results4 {fn : Func} {t u v x : Tmp} (h : fn.results = #[.tmp t, .tmp u, .tmp v, .tmp x]) (tmps : Array Value) (P : Program) (w : World) :
    (results fn tmps).run P w = .ok (.tuple #[tmps.getD t undef, tmps.getD u undef, tmps.getD v undef, tmps.getD x undef]) w := by
  simp [results, h]
theorem results5 {fn : Func} {t u v x y : Tmp} (h : fn.results = #[.tmp t, .tmp u, .tmp v, .tmp x, .tmp y]) (tmps : Array Value) (P : Program) (w : World) :
    (results fn tmps).run P w = .ok (.tuple #[tmps.getD t undef, tmps.getD u undef, tmps.getD v undef, tmps.getD x undef, tmps.getD y undef]) w := by
  simp [results, h]
end Go.Proofs.YtabaholflahepaaDoor
