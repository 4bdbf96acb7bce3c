/-
  One law on append onto a row of the call's own, whatever is appended (a slice that may be nil or empty, of whatever slice type; one new element), and what make leaves.
-/
import Derived.Deep.AppendSrc
import Derived.Laws.CopyRow
import Derived.Test.YtabaholflahepaaDoorMem
namespace Go.Proofs.YtabaholflahepaaDoor
open Go.RowKit

/-- A slice type's row: its element type, how many cells and bytes an element has. -/
structure El (P : Program) (t e : TypeId) (z : Value) (size bytes : Nat) : Prop where
  under : P.underlying t = some (.slice e)
  row : (P.info? e).map (fun i => (i.zero, i.size, i.bytes)) = some (some z, size, bytes)
  zero : z.cells.size = size
  pos : 0 < size
  bpos : 0 < bytes

theorem heap_setCells (g : Nat) (t : TypeId) : ∀ (vs : List Value) (o : Nat) (w : World) (cur : Array Value), w.heap[g]? = some (.cells cur t (0, 0)) → o + vs.length ≤ cur.size →
    (w.setCells g o vs).heap[g]? = some (.cells (cur.toList.take o ++ vs ++ cur.toList.drop (o + vs.length)).toArray t (0, 0))
  | [], o, w, cur, h, _ => by simp [World.setCells, h]
  | v :: r, o, w, cur, h, hl => by
    have h1 : (w.setCell ⟨g, o, none⟩ v).heap[g]? = some (.cells (cur.setIfInBounds o v) t (0, 0)) := by
      simp [World.setCell, Array.getElem?_modify, h]
    have h2 := heap_setCells g t r (o + 1) (w.setCell ⟨g, o, none⟩ v) _ h1 (by simp at hl ⊢; omega)
    rw [World.setCells, h2]
    have e := list_seg_step cur.toList o v r (by simp at hl ⊢; omega)
    rw [Array.toList_setIfInBounds, e]
    simp

theorem heap_setCells_other (g k : Nat) (hk : k ≠ g) : ∀ (vs : List Value) (o : Nat) (w : World), (w.setCells g o vs).heap[k]? = w.heap[k]?
  | [], _, _ => rfl
  | v :: r, o, w => by rw [World.setCells, heap_setCells_other g k hk r]; exact Below.heap_setCell w ⟨g, o, none⟩ v k hk

theorem setCells_rest (g : Nat) : ∀ (vs : List Value) (o : Nat) (w : World), (w.setCells g o vs).heap.size = w.heap.size ∧ (w.setCells g o vs).os = w.os ∧ (w.setCells g o vs).tape = w.tape ∧ (w.setCells g o vs).output = w.output
  | [], _, _ => ⟨rfl, rfl, rfl, rfl⟩
  | v :: r, o, w => by
    have := setCells_rest g r (o + 1) (w.setCell ⟨g, o, none⟩ v)
    rw [World.setCells]
    exact ⟨this.1.trans (by simp [World.setCell]), this.2.1, this.2.2.1, this.2.2.2⟩

section
variable {P : Program} {t tx e : TypeId} {z : Value} {size bytes : Nat} {w : World}

/-- What is appended lies in a slice that is known: it may be nil or empty. -/
theorem src_sl {R : Nat → Prop} {A : Option Addr} {vs : List Value} {ex : TypeId} (hk : P.underlying tx = some (.slice ex)) (hs : Sl w R A vs) (m c : Nat) (hl : vs.length = m * size) (h1 : ∀ u ∈ vs, u.oneCell' = true) :
    Src P size tx (.slice A m c) m vs w := by
  by_cases h0 : vs = []
  · subst h0
    have hms : m * size = 0 := by simpa using hl.symm
    cases A with
    | none =>
      refine ⟨.inl ⟨_, hk⟩, fun _ => rfl, run_firstCells_none w size m m c, run_firstCells_none w.drew size m m c, hl, h1⟩
    | some a => exact Src.ofSlice w hk a m c [] hl (by simp) h1
  · rcases hs with h | ⟨g, o, _, rfl, hc⟩
    · exact absurd h h0
    · refine Src.ofSlice w hk ⟨g, o, none⟩ m c vs hl (fun j u hu => ?_) h1
      have := hc j u hu
      unfold Addr.add
      split
      · simp_all
      · exact this

/-- What is appended is a block that is known whole. -/
theorem src_blk {g : Nat} {ty ex : TypeId} {cs : List Value} (hk : P.underlying tx = some (.slice ex)) (hb : Blk w g ty cs) (m c : Nat) (hl : cs.length = m * size) (h1 : ∀ u ∈ cs, u.oneCell' = true) :
    Src P size tx (.slice (some ⟨g, 0, none⟩) m c) m cs w :=
  src_sl (R := fun _ => True) hk (.inr ⟨g, 0, trivial, rfl, fun j u hu => by rw [Nat.zero_add, hb.cell j]; exact hu⟩) m c hl h1

theorem own_val {base n : Nat} {v : Value} {xs : List Value} (h : w.ownsRow base e size v n xs) : ∃ A c, v = .slice A n c := by
  rcases h.2 with ⟨rfl, rfl⟩ | ⟨g, cap, _, rfl, _⟩
  · exact ⟨_, _, rfl⟩
  · exact ⟨_, _, rfl⟩

theorem run_app (hE : El P t e z size bytes) (base : Nat) (ty : TypeId) (v : Value) (n : Nat) (xs : List Value) (hown : w.ownsRow base e size v n xs)
    (x : Value) (m : Nat) (news : List Value) (hs : Src P size tx x m news w) (h63 : n + m ≤ maxLen) (hbytes : (n + m) * bytes ≤ 140737488355328) (hbase : base ≤ w.heap.size) :
    ∃ A cap w', (Builtin.append_ #[t, tx] ty #[v, x]).run P w = .ok (.slice A (n + m) cap) w' ∧ w'.ownsRow base e size (.slice A (n + m) cap) (n + m) (xs ++ news) ∧ w.grownBy w' v.ownBlock ∧
      (A.map (·.block) = v.ownBlock ∨ A = some ⟨w.heap.size, 0, none⟩) := by
  obtain ⟨i, hi, hrow⟩ := Option.map_eq_some_iff.1 hE.row
  simp only [Prod.mk.injEq] at hrow
  obtain ⟨hz, rfl, rfl⟩ := hrow
  have h63' : ((n + m : Nat) : Int) ≤ 9223372036854775807 := by simp only [maxLen] at h63; omega
  have hlen : (xs ++ news).length = (n + m) * i.size := by rw [List.length_append, hown.1, hs.newsLen, Nat.add_mul]
  -- where it grows
  have grow : ∀ (ao : Option Addr) (cap : Nat), v = .slice ao n cap → cap < n + m → ((Builtin.firstCells i.size n (.slice ao n cap)).run P w.drew = .ok xs.toArray w.drew) →
      (Builtin.nextslicecap (n + m) cap * i.bytes ≤ 281474976710656) →
      ∃ A cap' w', (Builtin.append_ #[t, tx] ty #[v, x]).run P w = .ok (.slice A (n + m) cap') w' ∧ w'.ownsRow base e i.size (.slice A (n + m) cap') (n + m) (xs ++ news) ∧ w.grownBy w' v.ownBlock ∧
        (A.map (·.block) = v.ownBlock ∨ A = some ⟨w.heap.size, 0, none⟩) := by
    rintro ao cap rfl hlt hold hfit
    have hr := run_append_grow_src (P := P) w t tx ty e i z hE.under hi hz ao n cap xs hold x m news hs hlt h63' hfit
    have hge := grownCap_ge w (n + m) cap e
    have hcm : grownCap w (n + m) cap e ≤ maxLen := grownCap_le_maxLen w (n + m) cap e h63
    refine ⟨_, _, _, hr, ⟨hlen, .inr ⟨w.heap.size, _, _, rfl, hbase, heap_alloc_new w.drew _, hge, hcm, ?_, ?_⟩⟩, ⟨rfl, rfl, rfl, by simp, fun k hk _ => Below.heap_alloc w.drew _ k hk⟩, .inr rfl⟩
    · simp only [Array.size_append, List.size_toArray, size_zeroCells, hE.zero, hlen, ← Nat.add_mul]
      congr 1
      omega
    · simp only [Array.toList_append]
      rw [← hlen]
      exact List.take_left
  rcases hown.2 with ⟨rfl, rfl⟩ | ⟨g, cap, cur, rfl, hbg, hg, hnc, hcm, hcs, htake⟩
  · have hx : xs = [] := List.eq_nil_of_length_eq_zero (by simpa using hown.1)
    subst hx
    by_cases hm : m = 0
    · subst hm
      have hn : news = [] := List.eq_nil_of_length_eq_zero (by simpa using hs.newsLen)
      subst hn
      refine ⟨none, 0, w, ?_, World.ownsRow_nil w base e i.size, ⟨rfl, rfl, rfl, Nat.le_refl _, fun _ _ _ => rfl⟩, .inl rfl⟩
      rcases hs.kind with ⟨e', hk⟩ | hk <;> simp [Builtin.append_, run_underlying hE.under, run_underlying hk, sizeOf, typeInfo, hi, hs.len, hs.cells]
    · refine grow none 0 rfl (by omega) (run_firstCells_none _ _ _ _ _) ?_
      rw [Nat.zero_add, nextslicecap_zero (by omega)]
      simp only [Nat.zero_add] at hbytes
      omega
  · by_cases hroom : n + m ≤ cap
    · have hfit : n * i.size + news.length ≤ cur.size := by rw [hs.newsLen, hcs, ← Nat.add_mul]; exact Nat.mul_le_mul_right _ hroom
      have hr := run_append_room_src (P := P) w t tx ty e i hE.under hi g 0 n cap x m news hs hroom
        (fun j hj => by
          rw [Nat.zero_add, cell_of_row w g _ cur e (0, 0) hg]
          simp; omega)
        (fun j _ => by simp [World.frozen?, hg])
      rw [Nat.zero_add] at hr
      have hh := heap_setCells g e news (n * i.size) w cur hg hfit
      have hrest := setCells_rest g news (n * i.size) w
      refine ⟨_, _, _, hr, ⟨hlen, .inr ⟨g, cap, _, rfl, hbg, hh, hroom, hcm, ?_, ?_⟩⟩, ⟨hrest.2.1, hrest.2.2.1, hrest.2.2.2, Nat.le_of_eq hrest.1.symm, fun k _ hk => heap_setCells_other g k (fun e => hk (by simp [Value.ownBlock, e])) _ _ _⟩, .inl rfl⟩
      · simp only [List.size_toArray, List.length_append, List.length_take, List.length_drop, Array.length_toList]
        omega
      · rw [htake, ← hlen]
        exact List.take_left
    · have holds : ∀ j u, xs[j]? = some u → w.cell? ((⟨g, 0, none⟩ : Addr).add j) = some u := hown.cells (g := g) rfl
      exact grow _ cap rfl (by omega) (run_firstCells_some w.drew i.size n _ n cap xs hown.1 (by simpa using holds)) (growslice_fits (by omega) hbytes)

theorem wp_app {o : Oper} {a : Act} {K : Act → World → Prop} {Q : Exit → Act → World → Prop} (s x : Operand)
    (ho : o.op = .call { callee := .builtin .append, args := #[s, x], argTypes := #[t, tx] })
    (hE : El P t e z size bytes) (base : Nat) (v : Value) (n : Nat) (xs : List Value) (hv : a.eval s = v) (hown : w.ownsRow base e size v n xs)
    (m : Nat) (news : List Value) (hs : Src P size tx (a.eval x) m news w) (h63 : n + m ≤ maxLen) (hbytes : (n + m) * bytes ≤ 140737488355328) (hbase : base ≤ w.heap.size)
    (h : ∀ A cap w', w'.ownsRow base e size (.slice A (n + m) cap) (n + m) (xs ++ news) → w.grownBy w' v.ownBlock → (A.map (·.block) = v.ownBlock ∨ A = some ⟨w.heap.size, 0, none⟩) →
      K (a.put o.dst (.slice A (n + m) cap)) w') : o.wp P a w K Q := by
  obtain ⟨A, cap, w', hr, h2, h3, h4⟩ := run_app hE base o.type v n xs hown (a.eval x) m news hs h63 hbytes hbase
  unfold Oper.wp execOp
  simp only [ho, resolve, invoke, builtin, Sem.run_bind, Sem.run_pure, Result.andThen_ok, List.map_toArray, List.map_cons, List.map_nil, hv, hr]
  exact h A cap w' h2 h3 h4

/-- At the list of a plain region's operations, for the walk: behind at_builtin. -/
theorem wpList_app {ops : Array Oper} {rest : List Oper} {o : Oper} {a : Act} {Q : Exit → Act → World → Prop} (hgd : o.guard = none) (s x : Operand)
    (ho : o.op = .call { callee := .builtin .append, args := #[s, x], argTypes := #[t, tx] })
    (hE : El P t e z size bytes) (base : Nat) (v : Value) (n : Nat) (xs : List Value) (hv : a.eval s = v) (hown : w.ownsRow base e size v n xs)
    (m : Nat) (news : List Value) (hs : Src P size tx (a.eval x) m news w) (h63 : n + m ≤ maxLen) (hbytes : (n + m) * bytes ≤ 140737488355328) (hbase : base ≤ w.heap.size)
    (h : ∀ A cap w', w'.ownsRow base e size (.slice A (n + m) cap) (n + m) (xs ++ news) → w.grownBy w' v.ownBlock → (A.map (·.block) = v.ownBlock ∨ A = some ⟨w.heap.size, 0, none⟩) →
      wpList P ops Q rest (a.put o.dst (.slice A (n + m) cap)) w') : wpList P ops Q (o :: rest) a w :=
  wpList_plain hgd fun _ hK => wp_app s x ho hE base v n xs hv hown m news hs h63 hbytes hbase fun A cap w' h2 h3 h4 => hK _ _ (h A cap w' h2 h3 h4)

/-- At a step of a region that draws its order. -/
theorem step_app {ops : Array Oper} {o : Oper} {a : Act} {K : Act → World → Prop} {Q : Exit → Act → World → Prop} {E : Prop} (hgd : o.guard = none) (s x : Operand)
    (ho : o.op = .call { callee := .builtin .append, args := #[s, x], argTypes := #[t, tx] })
    (hE : El P t e z size bytes) (base : Nat) (v : Value) (n : Nat) (xs : List Value) (hv : a.eval s = v) (hown : w.ownsRow base e size v n xs)
    (m : Nat) (news : List Value) (hs : Src P size tx (a.eval x) m news w) (h63 : n + m ≤ maxLen) (hbytes : (n + m) * bytes ≤ 140737488355328) (hbase : base ≤ w.heap.size)
    (h : ∀ A cap w', w'.ownsRow base e size (.slice A (n + m) cap) (n + m) (xs ++ news) → w.grownBy w' v.ownBlock → (A.map (·.block) = v.ownBlock ∨ A = some ⟨w.heap.size, 0, none⟩) →
      K (a.put o.dst (.slice A (n + m) cap)) w') : if Region.wanted o (yielded ops a.tmps) = true then Oper.wp P o a w K Q else E := by
  have hw : Region.wanted o (yielded ops a.tmps) = true := by simp [Region.wanted, hgd]
  rw [if_pos hw]
  exact wp_app s x ho hE base v n xs hv hown m news hs h63 hbytes hbase h
end

section
variable {P : Program} {t tx e : TypeId} {z : Value} {size bytes : Nat} {w w0 : World} {S : Nat → Prop}

theorem El.fits (hE : El P t e z size bytes) {n : Nat} (h : n * bytes ≤ 140737488355328) : n ≤ maxLen := by
  have h1 : n * 1 ≤ n * bytes := Nat.mul_le_mul_left _ hE.bpos
  unfold maxLen
  omega

/-- For the walk: the appended slice is whatever a Src is. -/
theorem wpList_append {ops : Array Oper} {rest : List Oper} {o : Oper} {a : Act} {Q : Exit → Act → World → Prop} (hgd : o.guard = none) (s x : Operand)
    (ho : o.op = .call { callee := .builtin .append, args := #[s, x], argTypes := #[t, tx] })
    (hE : El P t e z size bytes) (hk : Keep S w0 w) (A : Option Addr) (n c : Nat) (xs : List Value) (hv : a.eval s = .slice A n c) (hown : w.ownsRow w0.heap.size e size (.slice A n c) n xs)
    (m : Nat) (news : List Value) (y : Value) (hy : a.eval x = y) (hs : Src P size tx y m news w) (hbytes : (n + m) * bytes ≤ 140737488355328)
    (h : ∀ A' c' w', w'.ownsRow w0.heap.size e size (.slice A' (n + m) c') (n + m) (xs ++ news) → Keep S w0 w' → w.grownBy w' (Value.slice A n c).ownBlock →
      wpList P ops Q rest (a.put o.dst (.slice A' (n + m) c')) w') : wpList P ops Q (o :: rest) a w := by
  refine wpList_app hgd s x ho hE w0.heap.size _ n xs hv hown m news (hy ▸ hs) (hE.fits hbytes) hbytes hk.size fun A' c' w' h1 h2 _ => ?_
  exact h A' c' w' h1 (hk.grown h2 fun j hj => .inr (hown.lt j hj).1) h2

/-- For the walk: one element is appended (buildSlice has just laid it in a block of its own). -/
theorem wpList_push {ops : Array Oper} {rest : List Oper} {o : Oper} {a : Act} {Q : Exit → Act → World → Prop} (hgd : o.guard = none) (s x : Operand)
    (ho : o.op = .call { callee := .builtin .append, args := #[s, x], argTypes := #[t, t] })
    (hE : El P t e z size bytes) (hk : Keep S w0 w) (A : Option Addr) (n c : Nat) (xs : List Value) (hv : a.eval s = .slice A n c) (hown : w.ownsRow w0.heap.size e size (.slice A n c) n xs)
    (cs : List Value) (hx : a.eval x = .slice (some ⟨w.heap.size, 0, none⟩) 1 1) (hl : cs.length = size) (h1 : ∀ u ∈ cs, u.oneCell' = true) (hbytes : (n + 1) * bytes ≤ 140737488355328)
    (h : ∀ A' c' w', w'.ownsRow w0.heap.size e size (.slice A' (n + 1) c') (n + 1) (xs ++ cs) → Keep S w0 w' → w.grownBy w' (Value.slice A n c).ownBlock →
      wpList P ops Q rest (a.put o.dst (.slice A' (n + 1) c')) w') : wpList P ops Q (o :: rest) a (w.alloc (.cells cs.toArray e)) := by
  refine wpList_append hgd s x ho hE (hk.alloc _) A n c xs hv (hown.alloc _) 1 cs _ hx (src_blk hE.under (Blk.new w e cs) 1 1 (by omega) h1) hbytes fun A' c' w' h2 h3 h4 => h A' c' w' h2 h3 ?_
  exact ⟨h4.os, h4.tape, h4.output, Nat.le_trans (by simp) h4.size, fun k hk hr => (h4.block k (by simp; omega) hr).trans (Below.heap_alloc w _ k hk)⟩
end

section
variable {e : TypeId} {size n : Nat} {v : Value} {xs : List Value} {w w' : World} {base : Nat}
/-- What is owned stays owned where another block alone is written. -/
theorem own_keep {S : Nat → Prop} (h : w.ownsRow base e size v n xs) (hk : Keep S w w') (hn : ∀ g, v.ownBlock = some g → ¬ S g) : w'.ownsRow base e size v n xs := by
  refine ⟨h.1, ?_⟩
  rcases h.2 with hv | ⟨g, cap, cur, rfl, hb, hg, rest⟩
  · exact .inl hv
  · exact .inr ⟨g, cap, cur, rfl, hb, (hk.block g (Array.getElem?_eq_some_iff.1 hg).1 (hn g rfl)).trans hg, rest⟩
theorem own_kept (h : w.ownsRow base e size v n xs) (hk : Kept w w') : w'.ownsRow base e size v n xs := own_keep h hk fun _ _ hf => hf
theorem own_drewN (h : w.ownsRow base e size v n xs) (k : Nat) : (w.drewN k).ownsRow base e size v n xs := h
theorem own_drew (h : w.ownsRow base e size v n xs) : w.drew.ownsRow base e size v n xs := h
theorem own_mono {base' : Nat} (h : w.ownsRow base e size v n xs) (hb : base' ≤ base) : w.ownsRow base' e size v n xs := by
  refine ⟨h.1, ?_⟩
  rcases h.2 with hv | ⟨g, cap, cur, rfl, hb', rest⟩
  · exact .inl hv
  · exact .inr ⟨g, cap, cur, rfl, Nat.le_trans hb hb', rest⟩
/-- A block of other elements is another block. -/
theorem own_ne {g : Nat} {t : TypeId} {cs : List Value} (h : w.ownsRow base e size v n xs) (hg : Blk w g t cs) (hne : e ≠ t) : v.ownBlock ≠ some g := by
  rcases h.2 with ⟨rfl, _⟩ | ⟨g', cap, cur, rfl, _, hh, _⟩
  · simp [Value.ownBlock]
  · intro he
    have : g' = g := by simpa [Value.ownBlock] using he
    subst this
    unfold Blk at hg
    rw [hh] at hg
    injection hg with hg
    injection hg with _ ht
    exact hne ht
theorem blk_grown {g : Nat} {t : TypeId} {cs : List Value} {row : Option Nat} (h : Blk w g t cs) (hg : w.grownBy w' row) (hne : row ≠ some g) : Blk w' g t cs := (hg.block g h.lt (fun e => hne e.symm)).trans h
theorem keep_grown {S : Nat → Prop} {w0 : World} {row : Option Nat} (h : Keep S w0 w) (hg : w.grownBy w' row) (hr : ∀ k, row = some k → w0.heap.size ≤ k) : Keep S w0 w' := h.grown hg fun k hk => .inr (hr k hk)
theorem sl_grown {R : Nat → Prop} {A : Option Addr} {vs : List Value} {row : Option Nat} (h : Sl w R A vs) (hg : w.grownBy w' row) (hr : ∀ k, row = some k → ¬ R k) : Sl w' R A vs := by
  rcases h with h | ⟨g, o, hR, hA, hc⟩
  · exact .inl h
  · exact .inr ⟨g, o, hR, hA, fun j u hu => hg.cell (hc j u hu) (fun e => hr g e.symm hR)⟩
end
end Go.Proofs.YtabaholflahepaaDoor
