/-
  A function whose body is one great composite literal: a slice of structs, all constants: what it leaves, computed by the kernel alone.
-/
import Derived.Laws.Tables
import Derived.Test.YtabaholflahepaaCopies
namespace Go.Proofs.Ytabaholflahepaa
open Go.RowKit

section
variable {P : Program}

/-- A row of 'build's, one behind the other. -/
def buildAll (P : Program) : List Oper → Act → Option Act
  | [], a => some a
  | o :: r, a =>
    match o.op, o.guard with
    | .build t parts, none =>
      match P.built t (parts.map fun (i, x) => (i, a.eval x)).toList with
      | some cs => buildAll P r (a.put o.dst (.agg cs))
      | none => none
    | _, _ => none

theorem wpList_builds {ops : Array Oper} {Q : Exit → Act → World → Prop} {w : World} {rest : List Oper} :
    ∀ (l : List Oper) (a a' : Act), buildAll P l a = some a' → wpList P ops Q rest a' w → wpList P ops Q (l ++ rest) a w
  | [], a, a', h, hr => by
    obtain rfl : a = a' := by simpa [buildAll] using h
    exact hr
  | o :: l, a, a', h, hr => by
    unfold buildAll at h
    split at h
    · rename_i t parts ho hg
      split at h
      · rename_i cs hc
        refine wpList_plain hg fun K hK => ?_
        unfold Oper.wp execOp
        simp only [ho, Sem.run_bind, run_build w t _ cs hc, Result.andThen_ok]
        exact hK _ _ (wpList_builds l _ a' h hr)
      · cases h
    · cases h

/-- The cells of a slice literal. -/
def slicedOf (P : Program) (t : TypeId) (len : Nat) (parts : List (Nat × Value)) : Option (TypeId × Array Value) :=
  match P.underlying t with
  | some (.slice e) =>
    match P.info? e with
    | some i =>
      match i.zero with
      | some z => if len * i.size = 0 ∨ len * i.size > 2 ^ 24 then none else (Instr.fill (fun k => some (k * i.size, i.size)) ((Array.range (len * i.size)).map (z.cells[· % z.cells.size]!)) parts).map fun cs => (e, cs)
      | none => none
    | none => none
  | _ => none

theorem run_sliced (w : World) (t : TypeId) (len : Nat) (parts : Array (Nat × Value)) (e : TypeId) (cells : Array Value) (h : slicedOf P t len parts.toList = some (e, cells)) :
    (Instr.buildSlice t len parts).run P w = .ok (.slice (some ⟨w.heap.size, 0, none⟩) len len) (w.alloc (.cells cells e)) := by
  unfold slicedOf at h
  split at h
  · rename_i e' hu
    split at h
    · rename_i i hi
      split at h
      · rename_i z hz
        split at h
        · cases h
        · rename_i hn
          obtain ⟨cs, hf, hc⟩ := Option.map_eq_some_iff.1 h
          simp only [Prod.mk.injEq] at hc
          obtain ⟨rfl, rfl⟩ := hc
          have h1 : ¬ len * i.size = 0 := fun h0 => hn (.inl h0)
          have h2 : ¬ len * i.size > 2 ^ 24 := fun h0 => hn (.inr h0)
          unfold Instr.buildSlice
          simp only [Sem.run_bind, run_underlying hu, Result.andThen_ok, sizeOf, typeInfo, hi, Sem.run_pure, if_neg h2, if_neg h1, zeroValue, hz, hf]
          simp [hi, hz, h1, h2, hf, newRow]
      · cases h
    · cases h
  · cases h

theorem wp_table {fn : Func} {R : Ending → World → Prop} {id0 id1 : Nat} {o0 o1 o2 : Oper} {ops : Array Oper} {a a1 a2 : Act} {w : World} {x : Operand} {t e : TypeId} {len d1 : Nat} {parts : Array (Nat × Operand)} {cells : Array Value} (n : Nat)
    (h0 : o0.op = .assign x) (g0 : o0.guard = none) (ha1 : a.put o0.dst (a.eval x) = a1) (hb : buildAll P (ops.toList.take n) a1 = some a2) (hd : ops.toList.drop n = [o1, o2])
    (h1 : o1.op = .buildSlice t len parts) (g1 : o1.guard = none) (k1 : o1.dst = some d1) (h2 : o2.op = .assign (.tmp d1)) (g2 : o2.guard = none) (k2 : o2.dst = some 0) (hr : fn.results = #[.tmp 0])
    (hz : d1 < a2.tmps.size) (hdef : a2.defers = []) (hs : slicedOf P t len (parts.map fun (i, x) => (i, a2.eval x)).toList = some (e, cells)) (hR : R (.returned (.slice (some ⟨w.heap.size, 0, none⟩) len len)) (w.alloc (.cells cells e))) :
    ((Code.region id0 #[o0] false).seq ((Code.region id1 ops false).seq Code.ret)).wp P (bodyPost P fn R) a w := by
  refine wp_seq (wp_region_list (wpList_plain g0 fun K hK => ?_))
  unfold Oper.wp execOp
  simp only [h0, Sem.run_pure, Oper.upon_value]
  refine hK _ _ (wpList_nil ?_)
  simp only [Exit.then, ha1]
  refine wp_seq (wp_region_list ?_)
  rw [← List.take_append_drop n ops.toList]
  refine wpList_builds _ _ a2 hb ?_
  rw [hd]
  refine wpList_plain g1 fun K hK => ?_
  unfold Oper.wp execOp
  simp only [h1, Sem.run_bind, run_sliced w t len _ e cells hs, Result.andThen_ok]
  refine hK _ _ (wpList_plain g2 fun K hK => ?_)
  unfold Oper.wp execOp
  simp only [h2, Sem.run_pure, Oper.upon_value]
  refine hK _ _ (wpList_nil ?_)
  simp only [Exit.then]
  refine wp_ret (bodyPost_ret (results_tmp hr _ _ _) ?_ ?_)
  · simp [k1, k2, Act.put, hdef]
  · have hz0 : 0 < a2.tmps.size := by omega
    have e1 : ((((a2.put o1.dst (.slice (some ⟨w.heap.size, 0, none⟩) len len)).put o2.dst ((a2.put o1.dst (.slice (some ⟨w.heap.size, 0, none⟩) len len)).eval (.tmp d1)))).tmps.getD 0 undef) = .slice (some ⟨w.heap.size, 0, none⟩) len len := by
      simp [k1, k2, Act.put, Act.eval, Array.getD_eq_getD_getElem?, Array.getElem?_setIfInBounds, hz, hz0]
    rw [e1]
    exact hR

/-- All of it by one closed equation. -/
theorem wp_table_closed {fn : Func} {R : Ending → World → Prop} {id0 id1 : Nat} {o0 o1 o2 : Oper} {ops : Array Oper} {a a1 : Act} {w : World} {x : Operand} {t e : TypeId} {len d1 : Nat} {parts : Array (Nat × Operand)} (cells : Array Value) (n : Nat)
    (h0 : o0.op = .assign x) (g0 : o0.guard = none) (ha1 : a.put o0.dst (a.eval x) = a1) (hd : ops.toList.drop n = [o1, o2])
    (h1 : o1.op = .buildSlice t len parts) (g1 : o1.guard = none) (k1 : o1.dst = some d1) (h2 : o2.op = .assign (.tmp d1)) (g2 : o2.guard = none) (k2 : o2.dst = some 0) (hr : fn.results = #[.tmp 0])
    (hs : (buildAll P (ops.toList.take n) a1).bind (fun a2 => if d1 < a2.tmps.size ∧ a2.defers.isEmpty = true then slicedOf P t len (parts.map fun (i, x) => (i, a2.eval x)).toList else none) = some (e, cells))
    (hR : R (.returned (.slice (some ⟨w.heap.size, 0, none⟩) len len)) (w.alloc (.cells cells e))) :
    ((Code.region id0 #[o0] false).seq ((Code.region id1 ops false).seq Code.ret)).wp P (bodyPost P fn R) a w := by
  obtain ⟨a2, hb, hs2⟩ := Option.bind_eq_some_iff.1 hs
  by_cases hc : d1 < a2.tmps.size ∧ a2.defers.isEmpty = true
  · rw [if_pos hc] at hs2
    exact wp_table n h0 g0 ha1 hb hd h1 g1 k1 h2 g2 k2 hr hc.1 (by simpa using hc.2) hs2 hR
  · rw [if_neg hc] at hs2
    cases hs2
end
end Go.Proofs.Ytabaholflahepaa
