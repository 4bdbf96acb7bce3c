/-
  Memory words for the walks of this seat: what a call keeps (Keep), a block that is known whole (Blk), a slice whose cells are known (Sl).
-/
import Derived.WalkKit
import Derived.WalkSpells
import Derived.WalkLawsBesides
import Derived.BigQuiet
import Derived.Deep.QuietTactic
import Derived.Deep.RegionHeld3
import Derived.Deep.LoopGhost
import Derived.Deep.AppendLies
import Derived.Deep.Draws
import Derived.StillTailTactics
import Derived.Handy
import Derived.Lib.Hide
import Derived.Test.YtabaholflahepaaDoorProg
namespace Go.Proofs.YtabaholflahepaaDoor
open Go.RowKit

/-- Outside S nothing that was there has turned; the streams are as they were. -/
structure Keep (S : Nat → Prop) (w w' : World) : Prop where
  os : w'.os = w.os
  tape : w'.tape = w.tape
  output : w'.output = w.output
  size : w.heap.size ≤ w'.heap.size
  block : ∀ k, k < w.heap.size → ¬ S k → w'.heap[k]? = w.heap[k]?

/-- Nothing that was there has turned. -/
abbrev Kept (w w' : World) : Prop := Keep (fun _ => False) w w'

section
variable {S T : Nat → Prop} {w w1 w2 : World}

theorem Keep.refl (S : Nat → Prop) (w : World) : Keep S w w := ⟨rfl, rfl, rfl, Nat.le_refl _, fun _ _ _ => rfl⟩
theorem Keep.drew (h : Keep S w w1) : Keep S w w1.drew := ⟨h.os, h.tape, h.output, h.size, h.block⟩
theorem Keep.drewN (h : Keep S w w1) (n : Nat) : Keep S w (w1.drewN n) := ⟨h.os, h.tape, h.output, h.size, h.block⟩
theorem Keep.mono (h : Keep S w w1) (hs : ∀ k, k < w.heap.size → S k → T k) : Keep T w w1 :=
  ⟨h.os, h.tape, h.output, h.size, fun k hk hn => h.block k hk fun hS => hn (hs k hk hS)⟩
theorem Kept.any (h : Kept w w1) (S : Nat → Prop) : Keep S w w1 := h.mono fun _ _ hf => hf.elim
theorem Keep.alloc (h : Keep S w w1) (o : Obj) : Keep S w (w1.alloc o) :=
  ⟨h.os, h.tape, h.output, Nat.le_trans h.size (by simp), fun k hk hn => (Below.heap_alloc w1 o k (Nat.lt_of_lt_of_le hk h.size)).trans (h.block k hk hn)⟩
theorem Keep.set (h : Keep S w w1) {p : Addr} (hp : S p.block ∨ w.heap.size ≤ p.block) (u : Value) : Keep S w (w1.setCell p u) :=
  ⟨h.os, h.tape, h.output, by simpa [World.setCell] using h.size, fun k hk hn => (Below.heap_setCell w1 p u k (by
    rintro rfl
    rcases hp with hp | hp
    · exact hn hp
    · omega)).trans (h.block k hk hn)⟩
theorem Keep.then (h : Keep S w w1) (h' : Keep T w1 w2) (hs : ∀ k, k < w.heap.size → T k → S k) : Keep S w w2 :=
  ⟨h'.os.trans h.os, h'.tape.trans h.tape, h'.output.trans h.output, Nat.le_trans h.size h'.size,
    fun k hk hn => (h'.block k (Nat.lt_of_lt_of_le hk h.size) fun hT => hn (hs k hk hT)).trans (h.block k hk hn)⟩
theorem Keep.trans (h : Keep S w w1) (h' : Keep S w1 w2) : Keep S w w2 := h.then h' fun _ _ h => h
theorem Keep.kept (h : Keep S w w1) (h' : Kept w1 w2) : Keep S w w2 := h.then h' fun _ _ h => h.elim
theorem Keep.grown (h : Keep S w w1) {row : Option Nat} (hg : w1.grownBy w2 row) (hr : ∀ k, row = some k → S k ∨ w.heap.size ≤ k) : Keep S w w2 :=
  ⟨hg.os.trans h.os, hg.tape.trans h.tape, hg.output.trans h.output, Nat.le_trans h.size hg.size,
    fun k hk hn => (hg.block k (Nat.lt_of_lt_of_le hk h.size) fun e => by
      rcases hr k e.symm with h1 | h1
      · exact hn h1
      · omega).trans (h.block k hk hn)⟩
theorem Kept.below (h : Kept w w1) : Below w.heap.size w w1 := ⟨h.os, h.tape, h.output, h.size, fun k hk => h.block k hk fun hf => hf⟩
theorem Kept.of_below (h : Below w.heap.size w w1) : Kept w w1 := ⟨h.os, h.tape, h.output, h.size, fun k hk _ => h.block k hk⟩
theorem Keep.cell (h : Keep S w w1) {a : Addr} {v : Value} (hc : w.cell? a = some v) (hn : ¬ S a.block) : w1.cell? a = some v :=
  (World.cell?_of_block (h.block a.block (World.block_lt_of_cell? w a hc) hn)).trans hc

/-- Block b is just these cells, none frozen. -/
def Blk (w : World) (b : Nat) (t : TypeId) (cs : List Value) : Prop := w.heap[b]? = some (.cells cs.toArray t (0, 0))

variable {b : Nat} {t : TypeId} {cs : List Value}
theorem Blk.cast {cs' : List Value} (h : Blk w b t cs) (e : cs = cs') : Blk w b t cs' := e ▸ h
theorem Blk.lt (h : Blk w b t cs) : b < w.heap.size := by
  unfold Blk at h
  exact (Array.getElem?_eq_some_iff.1 h).1
theorem Blk.cell (h : Blk w b t cs) (i : Nat) : w.cell? ⟨b, i, none⟩ = cs[i]? := by
  unfold Blk at h
  simp [World.cell?, h]
theorem Blk.frozen (h : Blk w b t cs) (i : Nat) : w.frozen? ⟨b, i, none⟩ = false := by
  unfold Blk at h
  simp [World.frozen?, h]
theorem Blk.new (w : World) (t : TypeId) (cs : List Value) : Blk (w.alloc (.cells cs.toArray t)) w.heap.size t cs := heap_alloc_new w _
theorem Blk.drew (h : Blk w b t cs) : Blk w.drew b t cs := h
theorem Blk.drewN (h : Blk w b t cs) (n : Nat) : Blk (w.drewN n) b t cs := h
theorem Blk.alloc (h : Blk w b t cs) (o : Obj) : Blk (w.alloc o) b t cs := (Below.heap_alloc w o b h.lt).trans h
theorem Blk.set (h : Blk w b t cs) (i : Nat) (u : Value) : Blk (w.setCell ⟨b, i, none⟩ u) b t (cs.set i u) := by
  unfold Blk at h ⊢
  simp [World.setCell, Array.getElem?_modify, h]
theorem Blk.far (h : Blk w b t cs) {p : Addr} (hp : b ≠ p.block) (u : Value) : Blk (w.setCell p u) b t cs := (Below.heap_setCell w p u b hp).trans h
theorem Blk.keep (h : Blk w b t cs) (hk : Keep S w w1) (hn : ¬ S b) : Blk w1 b t cs := (hk.block b h.lt hn).trans h
theorem Blk.kept (h : Blk w b t cs) (hk : Kept w w1) : Blk w1 b t cs := h.keep hk fun hf => hf
theorem Blk.ne {b' : Nat} {t' : TypeId} {cs' : List Value} (h : Blk w b t cs) (h' : Blk w b' t' cs') (hne : t ≠ t') : b ≠ b' := by
  rintro rfl
  unfold Blk at h h'
  rw [h] at h'
  injection h' with h'
  injection h' with _ ht
  exact hne ht

/-- The cells vs lie at A, in a block of R; of no cells nothing is said. -/
def Sl (w : World) (R : Nat → Prop) (A : Option Addr) (vs : List Value) : Prop :=
  vs = [] ∨ ∃ g o, R g ∧ A = some ⟨g, o, none⟩ ∧ ∀ j u, vs[j]? = some u → w.cell? ⟨g, o + j, none⟩ = some u

variable {R R' : Nat → Prop} {A : Option Addr} {vs : List Value}
theorem Sl.nil (w : World) (R : Nat → Prop) (A : Option Addr) : Sl w R A [] := .inl rfl
theorem Sl.get (h : Sl w R A vs) (hn : 0 < vs.length) : ∃ g o, R g ∧ A = some ⟨g, o, none⟩ ∧ ∀ j u, vs[j]? = some u → w.cell? ⟨g, o + j, none⟩ = some u := by
  rcases h with rfl | h
  · simp at hn
  · exact h
theorem Sl.keep (h : Sl w R A vs) (hk : Keep S w w1) (hn : ∀ k, k < w.heap.size → R k → ¬ S k) : Sl w1 R A vs := by
  by_cases h0 : vs = []
  · exact .inl h0
  · rcases h with h | ⟨g, o, hR, hA, hc⟩
    · exact .inl h
    · refine .inr ⟨g, o, hR, hA, fun j u hu => hk.cell (hc j u hu) ?_⟩
      exact hn g (World.block_lt_of_cell? w _ (hc j u hu)) hR
theorem Sl.kept (h : Sl w R A vs) (hk : Kept w w1) : Sl w1 R A vs := h.keep hk fun _ _ _ hf => hf
theorem Sl.mono (h : Sl w R A vs) (hR : ∀ k, R k → R' k) : Sl w R' A vs := by
  rcases h with h | ⟨g, o, h1, h2, h3⟩
  · exact .inl h
  · exact .inr ⟨g, o, hR g h1, h2, h3⟩
theorem Sl.drewN (h : Sl w R A vs) (n : Nat) : Sl (w.drewN n) R A vs := h
theorem Sl.drew (h : Sl w R A vs) : Sl w.drew R A vs := h
theorem Sl.of_own {base : Nat} {e : TypeId} {size n c : Nat} (h : w.ownsRow base e size (.slice A n c) n vs) : Sl w (fun k => base ≤ k ∧ k < w.heap.size) A vs := by
  rcases h.2 with ⟨he, rfl⟩ | ⟨g, cap, cur, hv, hb, hg, hn, hm, hs, htk⟩
  · left
    have := h.1
    simpa using this
  · right
    injection hv with h1 h2 h3
    refine ⟨g, 0, ⟨hb, (Array.getElem?_eq_some_iff.1 hg).1⟩, h1, fun j u hu => ?_⟩
    rw [Nat.zero_add, cell_of_row w g j cur e (0, 0) hg]
    rw [← htk, List.getElem?_take] at hu
    split at hu
    · simpa using hu
    · cases hu
end

/-- Bytes, ints as cells. -/
def u8s (l : List Nat) : List Value := l.map fun d : Nat => .int .u8 (d : Int)
def u32s (l : List Nat) : List Value := l.map fun d : Nat => .int .u32 (d : Int)
def i64s (l : List Int) : List Value := l.map fun d : Int => .int .i64 d
theorem u8s_at {l : List Nat} {i : Nat} (h : i < l.length) : (u8s l)[i]? = some (.int .u8 (l.getD i 0 : Nat)) := by
  simp [u8s, List.getElem?_map, List.getElem?_eq_getElem h]
theorem u32s_at {l : List Nat} {i : Nat} (h : i < l.length) : (u32s l)[i]? = some (.int .u32 (l.getD i 0 : Nat)) := by
  simp [u32s, List.getElem?_map, List.getElem?_eq_getElem h]
theorem i64s_at {l : List Int} {i : Nat} (h : i < l.length) : (i64s l)[i]? = some (.int .i64 (l.getD i 0)) := by
  simp [i64s, List.getElem?_map, List.getElem?_eq_getElem h]
/-- Ints that are not below 0. -/
def nats (l : List Nat) : List Value := l.map fun d : Nat => .int .i64 (d : Int)
theorem nats_at {l : List Nat} {i : Nat} (h : i < l.length) : (nats l)[i]? = some (.int .i64 (l.getD i 0 : Nat)) := by
  simp [nats, List.getElem?_map, List.getElem?_eq_getElem h]
@[simp] theorem nats_length (l : List Nat) : (nats l).length = l.length := by simp [nats]
theorem nats_one (l : List Nat) : ∀ u ∈ nats l, u.oneCell' = true := by
  intro u hu
  obtain ⟨_, _, rfl⟩ := List.mem_map.1 hu
  rfl
theorem u8s_one (l : List Nat) : ∀ u ∈ u8s l, u.oneCell' = true := by
  intro u hu
  obtain ⟨_, _, rfl⟩ := List.mem_map.1 hu
  rfl
@[simp] theorem u8s_length (l : List Nat) : (u8s l).length = l.length := by simp [u8s]
@[simp] theorem u32s_length (l : List Nat) : (u32s l).length = l.length := by simp [u32s]
@[simp] theorem i64s_length (l : List Int) : (i64s l).length = l.length := by simp [i64s]

section
variable {w : World} {R : Nat → Prop} {A : Option Addr}
theorem Sl.at_ {vs : List Value} (h : Sl w R A vs) {k : Nat} {u : Value} (hk : vs[k]? = some u) : ∃ g o, R g ∧ A = some ⟨g, o, none⟩ ∧ w.cell? ⟨g, o + k, none⟩ = some u := by
  have hlt := (List.getElem?_eq_some_iff.1 hk).1
  obtain ⟨g, o, hR, hA, hc⟩ := h.get (by omega)
  exact ⟨g, o, hR, hA, hc k u hk⟩
theorem Sl.i64 {xs : List Int} (h : Sl w R A (i64s xs)) {k : Nat} (hk : k < xs.length) : ∃ g o x, R g ∧ A = some ⟨g, o, none⟩ ∧ w.cell? ⟨g, o + k, none⟩ = some (.int .i64 x) ∧ Hid (xs[k]? = some x) := by
  obtain ⟨g, o, hR, hA, hc⟩ := h.at_ (i64s_at hk)
  exact ⟨g, o, _, hR, hA, hc, by rw [List.getD_eq_getElem?_getD, List.getElem?_eq_getElem hk]; rfl⟩
theorem Sl.nat {xs : List Nat} (h : Sl w R A (nats xs)) {k : Nat} (hk : k < xs.length) : ∃ g o, ∃ x : Nat, R g ∧ A = some ⟨g, o, none⟩ ∧ w.cell? ⟨g, o + k, none⟩ = some (.int .i64 x) ∧ Hid (xs[k]? = some x) := by
  obtain ⟨g, o, hR, hA, hc⟩ := h.at_ (nats_at hk)
  exact ⟨g, o, _, hR, hA, hc, by rw [List.getD_eq_getElem?_getD, List.getElem?_eq_getElem hk]; rfl⟩
theorem Sl.u8 {xs : List Nat} (h : Sl w R A (u8s xs)) {k : Nat} (hk : k < xs.length) : ∃ g o, ∃ x : Nat, R g ∧ A = some ⟨g, o, none⟩ ∧ w.cell? ⟨g, o + k, none⟩ = some (.int .u8 x) ∧ Hid (xs[k]? = some x) := by
  obtain ⟨g, o, hR, hA, hc⟩ := h.at_ (u8s_at hk)
  exact ⟨g, o, _, hR, hA, hc, by rw [List.getD_eq_getElem?_getD, List.getElem?_eq_getElem hk]; rfl⟩
theorem Sl.u32 {xs : List Nat} (h : Sl w R A (u32s xs)) {k : Nat} (hk : k < xs.length) : ∃ g o, ∃ x : Nat, R g ∧ A = some ⟨g, o, none⟩ ∧ w.cell? ⟨g, o + k, none⟩ = some (.int .u32 x) ∧ Hid (xs[k]? = some x) := by
  obtain ⟨g, o, hR, hA, hc⟩ := h.at_ (u32s_at hk)
  exact ⟨g, o, _, hR, hA, hc, by rw [List.getD_eq_getElem?_getD, List.getElem?_eq_getElem hk]; rfl⟩
end

theorem take_push {α : Type} {l : List α} {k : Nat} {x : α} (h : l[k]? = some x) : l.take (k + 1) = l.take k ++ [x] := by
  rw [List.take_add_one, h]; rfl

/-- A callee that leaves the world alone, inside a quiet region. -/
theorem quiet_same {P : Program} {f : FuncId} {args : Array Value} {w : World} {n : Nat} {v : Value}
    (h : Calls P f args (w.drewN n) fun e w' => e = .returned v ∧ w.drewN n = w') : Calls P f args (w.drewN n) fun e w'' => e = .returned v ∧ ∃ m, w'' = w.drewN m :=
  h.mono fun _ _ ⟨he, hm⟩ => ⟨he, n, hm.symm⟩
theorem quiet_same_add {P : Program} {f : FuncId} {args : Array Value} {w : World} {a n : Nat} {v : Value}
    (h : Calls P f args (w.drewN (a + n)) fun e w' => e = .returned v ∧ w.drewN (a + n) = w') :
    Calls P f args (w.drewN (a + n)) fun e w'' => e = .returned v ∧ ∃ m, w'' = w.drewN (a + m) :=
  h.mono fun _ _ ⟨he, hm⟩ => ⟨he, n, hm.symm⟩

/-- An error that is none of nil. -/
def IsErr (v : Value) : Prop := ∃ t x, v = .iface t x

end Go.Proofs.YtabaholflahepaaDoor
