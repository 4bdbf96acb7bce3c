/-
  Two rows that a block's cells hold: what an alloc and an append to either leave.
-/
import Derived.Test.YtabaholflahepaaDoorTreeB
import Derived.Test.YtabaholflahepaaDoorTill
namespace Go.Proofs.YtabaholflahepaaDoor
open Go.RowKit

def Two (w0 w : World) (b : Nat) (cs : List Value) (v1 v2 : Value) (k1 k2 : Nat) (x1 x2 : List Value) : Prop :=
  Blk w b 135 cs ∧ Keep (b ≤ ·) w0 w ∧ w.ownsRow b 3 1 v1 k1 x1 ∧ w.ownsRow b 3 1 v2 k2 x2 ∧ (v1.ownBlock = none ∨ v1.ownBlock ≠ v2.ownBlock) ∧ (v2.ownBlock = none ∨ v2.ownBlock ≠ v1.ownBlock)
/-- A literal of one cell that is neither row's block. -/
def Lit (w : World) (v1 v2 : Value) (B : Nat) (x : Value) : Prop := Blk w B 3 [x] ∧ v1.ownBlock ≠ some B ∧ v2.ownBlock ≠ some B

variable {w0 w w' : World} {b k1 k2 B : Nat} {cs x1 x2 : List Value} {v1 v2 : Value}
theorem Two.start (hb : Blk w b 135 cs) (h1 : w.ownsRow b 3 1 v1 k1 x1) (h2 : w.ownsRow b 3 1 v2 k2 x2) (ha : v1.ownBlock = none ∨ v1.ownBlock ≠ v2.ownBlock) : Two w w b cs v1 v2 k1 k2 x1 x2 := by
  refine ⟨hb, Keep.refl _ _, h1, h2, ha, ?_⟩
  rcases ha with h | h
  · rw [h]
    cases v2.ownBlock with
    | none => exact .inl rfl
    | some a => exact .inr (fun h => by cases h)
  · exact .inr (Ne.symm h)
theorem Two.drew (h : Two w0 w b cs v1 v2 k1 k2 x1 x2) : Two w0 w.drew b cs v1 v2 k1 k2 x1 x2 := ⟨h.1.drew, h.2.1.drew, own_drew h.2.2.1, own_drew h.2.2.2.1, h.2.2.2.2⟩
theorem Two.flip (h : Two w0 w b cs v1 v2 k1 k2 x1 x2) : Two w0 w b cs v2 v1 k2 k1 x2 x1 := ⟨h.1, h.2.1, h.2.2.2.1, h.2.2.1, h.2.2.2.2.2, h.2.2.2.2.1⟩
theorem Two.alloc (h : Two w0 w b cs v1 v2 k1 k2 x1 x2) (o : Obj) : Two w0 (w.alloc o) b cs v1 v2 k1 k2 x1 x2 := ⟨h.1.alloc _, h.2.1.alloc _, h.2.2.1.alloc _, h.2.2.2.1.alloc _, h.2.2.2.2⟩
theorem Two.lit (h : Two w0 w b cs v1 v2 k1 k2 x1 x2) (x : Value) : Lit (w.alloc (.cells #[x] 3)) v1 v2 w.heap.size x :=
  ⟨Blk.new w 3 [x], fun e => by have := (h.2.2.1.lt _ e).2; omega, fun e => by have := (h.2.2.2.1.lt _ e).2; omega⟩
theorem Lit.alloc {x : Value} (h : Lit w v1 v2 B x) (o : Obj) : Lit (w.alloc o) v1 v2 B x := ⟨h.1.alloc _, h.2⟩
theorem Lit.flip {x : Value} (h : Lit w v1 v2 B x) : Lit w v2 v1 B x := ⟨h.1, h.2.2, h.2.1⟩
theorem Two.lt (h : Two w0 w b cs v1 v2 k1 k2 x1 x2) : b < w.heap.size := h.1.lt
/-- Behind an append to the first row. -/
theorem Two.app (h : Two w0 w b cs v1 v2 k1 k2 x1 x2) {A : Option Addr} {c : Nat} {x : Value} (ho : w'.ownsRow b 3 1 (.slice A (k1 + 1) c) (k1 + 1) (x1 ++ [x])) (hg : w.grownBy w' v1.ownBlock)
    (hor : A.map (·.block) = v1.ownBlock ∨ A = some ⟨w.heap.size, 0, none⟩) : Two w0 w' b cs (.slice A (k1 + 1) c) v2 (k1 + 1) k2 (x1 ++ [x]) x2 := by
  obtain ⟨hb, hk, h1, h2, ha, _⟩ := h
  have hap := apart_new (n7 := k1 + 1) (c7 := c) hor ha (fun k hk => (h2.lt k hk).2)
  have hs := Two.start (blk_grown hb hg (own_ne h1 hb (by decide))) ho (World.ownsRow.kept h2 hg (by
    rcases ha with e | e
    · rw [e]
      cases v2.ownBlock with
      | none => exact .inl rfl
      | some a => exact .inr (fun h => by cases h)
    · exact .inr (Ne.symm e))) hap
  exact ⟨hs.1, hk.grown hg (fun j hj => .inl (h1.lt j hj).1), hs.2.2⟩
theorem Lit.app {x : Value} (h : Lit w v1 v2 B x) {A : Option Addr} {k c : Nat} (hg : w.grownBy w' v1.ownBlock) (hor : A.map (·.block) = v1.ownBlock ∨ A = some ⟨w.heap.size, 0, none⟩) : Lit w' (.slice A k c) v2 B x := by
  refine ⟨blk_grown h.1 hg h.2.1, ?_, h.2.2⟩
  rw [ownBlock_map]
  rcases hor with e | e
  · rw [e]; exact h.2.1
  · rw [e]
    intro hh
    have h1 := Option.some.inj hh
    have h2 := h.1.lt
    simp only at h1
    omega
/-- Behind the stores of both rows. -/
theorem Two.tree {A5 A6 A7 A8 : Option Addr} {n6 c5 c6 c7 c8 m s t : Nat} {rs : List (Nat × Nat)} (h : Two w0 w b [.slice A5 n6 c5, .slice A6 n6 c6, .int .i64 (m : Int)] (.slice A7 (n6 + 1) c7) (.slice A8 (n6 + 1) c8) (n6 + 1) (n6 + 1) (x1 ++ [.int .i64 (s : Int)]) (x2 ++ [.int .i64 (t : Int)]))
    (hx1 : x1 = nats (rs.map (·.1))) (hx2 : x2 = nats (rs.map (·.2))) (hn : n6 = rs.length) :
    TreeAt ((w.setCell ⟨b, 0, none⟩ (.slice A7 (n6 + 1) c7)).setCell ⟨b, 1, none⟩ (.slice A8 (n6 + 1) c8)) b b m (n6 + 1) (rs ++ [(s, t)]) ∧ Keep (b ≤ ·) w0 ((w.setCell ⟨b, 0, none⟩ (.slice A7 (n6 + 1) c7)).setCell ⟨b, 1, none⟩ (.slice A8 (n6 + 1) c8)) := by
  obtain ⟨hb, hk, h1, h2, ha, _⟩ := h
  have hkk : Keep (· = b) w ((w.setCell ⟨b, 0, none⟩ (.slice A7 (n6 + 1) c7)).setCell ⟨b, 1, none⟩ (.slice A8 (n6 + 1) c8)) := (((Keep.refl (· = b) w).set (p := ⟨b, 0, none⟩) (.inl rfl) _).set (p := ⟨b, 1, none⟩) (.inl rfl) _)
  have n1 := own_ne h1 hb (by decide)
  have n2 := own_ne h2 hb (by decide)
  refine ⟨⟨A7, c7, A8, c8, (hb.set 0 _).set 1 _, by simp [hn], ?_, ?_, ha⟩, (hk.set (p := ⟨b, 0, none⟩) (.inl (Nat.le_refl _)) _).set (p := ⟨b, 1, none⟩) (.inl (Nat.le_refl _)) _⟩
  · have := own_keep h1 hkk (fun g hg e => n1 (e ▸ hg))
    rw [hx1] at this
    simpa [nats] using this
  · have := own_keep h2 hkk (fun g hg e => n2 (e ▸ hg))
    rw [hx2] at this
    simpa [nats] using this
/-- There are at most 2048 rows. -/
theorem len_bound {al : List Nat} {m v s : Nat} (hs : wsum al = 2 ^ m) (hm : m ≤ 11) : (rowsTo al m v ++ rowsW m (v + 1) (idxs (v + 1) 0 (al.take s))).length ≤ 2048 := by
  have h1 : (rowsTo al m (v + 1)).length ≤ wsum al := by
    rw [rowsTo_length]
    generalize v + 1 = u
    have : ∀ l : List Nat, wsum (l.filter (· ≤ u)) ≤ wsum l := by
      intro l
      induction l with
      | nil => simp [wsum]
      | cons x r ih =>
        have e : wsum (x :: r) = wc x + wsum r := by simp [wsum]
        rw [List.filter_cons]
        split
        · have e2 : wsum (x :: r.filter (· ≤ u)) = wc x + wsum (r.filter (· ≤ u)) := by simp [wsum]
          omega
        · omega
    exact this al
  have h2 : (2 : Nat) ^ m ≤ 2048 := Nat.pow_le_pow_right (n := 2) (by decide) hm
  rw [rowsTo_succ, List.length_append, rowsW_length, idxs_count] at h1
  rw [List.length_append, rowsW_length, idxs_count]
  have h3 : (al.take s).count (v + 1) ≤ al.count (v + 1) := (List.take_sublist s al).count_le _
  have h4 := Nat.mul_le_mul_right (wc (v + 1)) h3
  omega
end Go.Proofs.YtabaholflahepaaDoor
