/-
  Contract of (spec.writer).literals.
-/
import Derived.Test.YtabaholflahepaaDoorEncV
namespace Go.Proofs.YtabaholflahepaaDoor
open Go.RowKit

/-- How often each number below 256 comes. -/
def tallyW (t : List Nat) : List Nat := (List.range 256).map fun s => t.count s
@[simp] theorem tallyW_length (t : List Nat) : (tallyW t).length = 256 := by simp [tallyW]
theorem tallyW_at (t : List Nat) {s : Nat} (h : s < 256) : (tallyW t)[s]? = some (t.count s) := by simp [tallyW, h]
theorem tallyW_push (t : List Nat) {s : Nat} (h : s < 256) : (tallyW t).set s (t.count s + 1) = tallyW (t ++ [s]) := by
  refine List.ext_getElem? fun j => ?_
  by_cases hj : j < 256
  · rw [tallyW_at _ hj, List.getElem?_set, List.count_append, List.count_singleton]
    by_cases e : s = j
    · subst e
      simp [h]
    · have : (s == j) = false := beq_eq_false_iff_ne.2 e
      rw [if_neg e, tallyW_at _ hj, this]
      simp
  · rw [List.getElem?_eq_none (by simp; omega), List.getElem?_eq_none (by simp; omega)]
theorem tallyW_nil : tallyW [] = List.replicate 256 0 := by
  refine List.ext_getElem? fun j => ?_
  by_cases hj : j < 256
  · rw [tallyW_at _ hj, List.getElem?_replicate, if_pos hj, List.count_nil]
  · rw [List.getElem?_eq_none (by rw [tallyW_length]; omega), List.getElem?_eq_none (by rw [List.length_replicate]; omega)]
theorem nats_i64s (l : List Nat) : nats l = i64s (l.map Int.ofNat) := by simp [nats, i64s]
theorem posAt_set : ∀ (l : List Int) (s i : Nat) (v v' : Int), l[i]? = some v → (posAt s (l.set i v')).length + (if 0 < v then 1 else 0) = (posAt s l).length + (if 0 < v' then 1 else 0)
  | [], s, i, v, v', h => by simp at h
  | y :: l, s, 0, v, v', h => by
    simp at h
    subst h
    simp only [List.set_cons_zero, posAt, List.length_append]
    split <;> split <;> simp <;> omega
  | y :: l, s, i + 1, v, v', h => by
    simp at h
    have := posAt_set l (s + 1) i v v' h
    simp only [List.set_cons_succ, posAt, List.length_append]
    omega
/-- How many numbers come. -/
def usedW (t : List Nat) : Nat := (posAt 0 ((tallyW t).map Int.ofNat)).length
theorem posAt_zeros : ∀ (n s : Nat), posAt s (List.replicate n 0) = []
  | 0, s => rfl
  | n + 1, s => by rw [List.replicate_succ, posAt, posAt_zeros n]; rfl
theorem usedW_nil : usedW [] = 0 := by
  rw [usedW, tallyW_nil, List.map_replicate, show Int.ofNat 0 = 0 from rfl, posAt_zeros]; rfl
theorem usedW_push (t : List Nat) {s : Nat} (h : s < 256) : usedW (t ++ [s]) = usedW t + if t.count s = 0 then 1 else 0 := by
  have h1 := posAt_set ((tallyW t).map Int.ofNat) 0 s (Int.ofNat (t.count s)) (Int.ofNat (t.count s + 1)) (by rw [List.getElem?_map, tallyW_at _ h]; rfl)
  rw [← List.map_set, tallyW_push _ h] at h1
  rw [usedW, usedW]
  have e1 : (0 : Int) < Int.ofNat (t.count s + 1) := by show (0 : Int) < ((t.count s + 1 : Nat) : Int); omega
  rw [if_pos e1] at h1
  by_cases e : t.count s = 0
  · rw [if_pos e]
    have e2 : ¬ (0 : Int) < Int.ofNat (t.count s) := by show ¬ (0 : Int) < ((t.count s : Nat) : Int); omega
    rw [if_neg e2] at h1
    omega
  · rw [if_neg e]
    have e2 : (0 : Int) < Int.ofNat (t.count s) := by show (0 : Int) < ((t.count s : Nat) : Int); omega
    rw [if_pos e2] at h1
    omega
theorem tallyW_pos {t : List Nat} (hd : Bytes t) {x : Nat} (hx : x ∈ t) : ∃ v, ((tallyW t).map Int.ofNat)[x]? = some v ∧ 0 < v := by
  refine ⟨Int.ofNat (t.count x), by rw [List.getElem?_map, tallyW_at _ (hd x hx)]; rfl, ?_⟩
  have := List.count_pos_iff.2 hx
  simp
  exact hx
theorem usedW_one {t : List Nat} (hd : Bytes t) (h : usedW t = 1) {x : Nat} (hx : x ∈ t) : t = List.replicate t.length x := by
  rw [usedW] at h
  obtain ⟨a, ha⟩ := List.length_eq_one_iff.1 h
  have hin : ∀ y ∈ t, y = a := fun y hy => by
    obtain ⟨v, h1, h2⟩ := tallyW_pos hd hy
    have := posAt_has _ 0 y v h1 h2
    rw [ha, Nat.zero_add] at this
    simpa using this
  refine List.eq_replicate_iff.2 ⟨rfl, fun y hy => ?_⟩
  rw [hin y hy, hin x hx]
/-- What (spec.writer).literals hands back: literals that are read as this text. -/
def LitTold (wb cb : Nat) (t : List Nat) (w : World) (e : Ending) (w' : World) : Prop :=
  Keep (fun j => j = wb ∨ j = cb) w w' ∧ ∃ A n c D, e = .returned (.slice A n c) ∧ Hid (n = List.length D) ∧ n ≤ 1048576 ∧ w'.ownsRow w.heap.size 5 1 (.slice A n c) n (u8s D) ∧ Hid (Bytes D ∧ ∀ tl, litS (D ++ tl) = (1, t, n))
theorem zero202 : Tryd.zeroCells202 = (nats (tallyW [])).toArray := by
  rw [tallyW_nil, nats, List.map_replicate]
  kernel_rfl
/-- A stronger condition serves. -/
theorem wpTill_strong {P : Program} {md : Region.Mode} {ops : Array Oper} {Q : Exit → Act → World → Prop} {S S' : World → Prop} (h : ∀ w, S' w → S w) : ∀ (f : Nat) (listed : Array Bool) (a : Act) (w : World), wpTill P md ops Q S' [] f listed a w → wpTill P md ops Q S [] f listed a w
  | 0, _, _, _, H => H
  | f + 1, _, _, _, H => ⟨H.1, fun i hi => wpOp_mono (fun _ _ h' => ⟨fun _ => h _ (h'.1 (fun _ hs => by cases hs)), wpTill_strong h f _ _ _ h'.2⟩) (H.2 i hi)⟩
section
variable {P : Program} {md : Region.Mode} {l : List Oper} {Q : Exit → Act → World → Prop} {S : World → Prop} {oi : Oper} {v : Value} {f : Nat} {listed : Array Bool} {a : Act} {w : World}
/-- The takes where no store waits. -/
theorem wpTill_v (k : Nat) (hi : l[k]? = some oi) (hS : S w) (hy : YieldsIf P l.toArray (fun _ => True) oi v a) (h : wpTill P md l.toArray Q S [] f (listed.setIfInBounds k true) (a.put oi.dst v) w)
    (hs : Region.noSelect l.toArray = true := by kernel_rfl) (hf : Region.free md l.toArray listed k = true := by kernel_rfl) (hr : (Region.ready md l.toArray listed).contains k = true := by kernel_rfl)
    (hQ : ∀ c a w, Q (.panic c) (a.put oi.dst v) w → Q (.panic c) a w := by exact fun _ _ _ h => h) : wpTill P md l.toArray Q S [] (f + 1) listed a w :=
  wpTill_valL k hi hs hf hr rfl hQ hy (fun _ => hS) h
theorem wpTill_t (k : Nat) (hi : l[k]? = some oi) (hS : S w) (hy : YieldsIf P l.toArray S oi v a) (h : wpTill P md l.toArray Q S [] f (listed.setIfInBounds k true) (a.put oi.dst v) w)
    (hs : Region.noSelect l.toArray = true := by kernel_rfl) (hf : Region.free md l.toArray listed k = true := by kernel_rfl) (hr : (Region.ready md l.toArray listed).contains k = true := by kernel_rfl)
    (hQ : ∀ c a w, Q (.panic c) (a.put oi.dst v) w → Q (.panic c) a w := by exact fun _ _ _ h => h) : wpTill P md l.toArray Q S [] (f + 1) listed a w :=
  wpTill_takeL k hi hs hf hr rfl rfl hQ hy hS h
end

theorem formW0 (i : Nat) (hi : ¬ 32 ≤ i) (_hi2 : i ≤ 65536) : ∃ (V V1 : Nat) (D D1 : List Nat),
    (IntKind.i64.wrap ((i : Int) * 8) = (i : Int) * 8 ∧ IntKind.i64.wrap 0 = 0 ∧ IntKind.i64.wrap 3 = 3 ∧ Go.bits .or .i64 ((i : Int) * 8) 0 = (i : Int) * 8) ∧
    (IntKind.u64.wrap ((i : Int) * 8) = (V : Int) ∧ Hid (∀ w', Calls Tryd.prog 91 #[.int .u64 (V : Int), .int .i64 1] w' fun e w'' => ∃ A c, e = .returned (.slice A 1 c) ∧ w''.ownsRow w'.heap.size 5 1 (.slice A 1 c) 1 (u8s D) ∧ Kept w' w'') ∧ D.length = 1 ∧
      Hid (Bytes D ∧ ∀ t tl, i = List.length t → litS (D ++ (t ++ tl)) = (1, t, D.length + i))) ∧
    (Go.bits .or .i64 ((i : Int) * 8) 1 = (i : Int) * 8 + 1 ∧ IntKind.u64.wrap ((i : Int) * 8 + 1) = (V1 : Int) ∧ Hid (∀ w', Calls Tryd.prog 91 #[.int .u64 (V1 : Int), .int .i64 1] w' fun e w'' => ∃ A c, e = .returned (.slice A 1 c) ∧ w''.ownsRow w'.heap.size 5 1 (.slice A 1 c) 1 (u8s D1) ∧ Kept w' w'') ∧ D1.length = 1 ∧
      Hid (Bytes D1 ∧ ∀ x tl, litS (D1 ++ (x :: tl)) = (1, List.replicate i x, D1.length + 1))) ∧
    (∀ w' n, Blk w' n 3 [.int .i64 3, .int .i64 4, .int .i64 4] → w'.cell? ⟨n, 0, none⟩ = some (.int .i64 3)) ∧ (∀ w' n, Blk w' n 3 [.int .i64 0, .int .i64 1, .int .i64 3] → w'.cell? ⟨n, 0, none⟩ = some (.int .i64 0)) := by
  refine ⟨i * 8 + 0, i * 8 + 1, lowB (i * 8 + 0) 1, lowB (i * 8 + 1) 1, ⟨?_, by decide, by decide, ?_⟩, ⟨?_, ?_, lowB_length _ _, lowB_bytes _ _, fun t tl ht => ?_⟩, ⟨?_, ?_, ?_, lowB_length _ _, lowB_bytes _ _, fun x tl => ?_⟩, fun w' n h => h.cell 0, fun w' n h => h.cell 0⟩
  · rw [IntKind.wrap_i64]; omega
  · have h := i64_or_nat (i * 8) 0 (by omega) (by omega)
    have e : i * 8 ||| 0 = i * 8 := by
      have h2 := or_shift (a := 0) (c := i) (n := 3) (by decide)
      rw [Nat.or_comm, show (8 : Nat) = 2 ^ 3 by decide, h2]; omega
    rw [e] at h
    exact_mod_cast h
  · rw [IntKind.wrap_u64]; omega
  · exact fun w' => (show Calls Tryd.prog 91 #[.int .u64 ((i * 8 + 0 : Nat) : Int), .int .i64 1] w' _ from low_any _ 1 (by decide) (by omega) w')
  · rw [lowB_length]
    exact litS_raw (f := 0) (by decide) ht (by show i * 8 + 4 * 0 < 256 ^ 1; omega) (by omega)
  · have h := i64_or_nat (i * 8) 1 (by omega) (by omega)
    have e : (i * 8) ||| 1 = i * 8 + 1 := by
      have h2 := or_shift (a := 1) (c := (i * 8) / 2) (n := 1) (by decide)
      rw [Nat.or_comm, show i * 8 = (i * 8) / 2 * 2 ^ 1 by omega, h2]; omega
    rw [e] at h
    exact_mod_cast h
  · rw [IntKind.wrap_u64]; omega
  · exact fun w' => (show Calls Tryd.prog 91 #[.int .u64 ((i * 8 + 1 : Nat) : Int), .int .i64 1] w' _ from low_any _ 1 (by decide) (by omega) w')
  · rw [lowB_length]
    exact litS_run (f := 0) (by decide) (by show i * 8 + 4 * 0 + 1 < 256 ^ 1; omega) (by omega)
theorem formW1 (i : Nat) (hi : ¬ 4096 ≤ i) (_hi2 : i ≤ 65536) : ∃ (V V1 : Nat) (D D1 : List Nat),
    (IntKind.i64.wrap ((i : Int) * 16) = (i : Int) * 16 ∧ IntKind.i64.wrap 4 = 4 ∧ IntKind.i64.wrap 4 = 4 ∧ Go.bits .or .i64 ((i : Int) * 16) 4 = (i : Int) * 16 + 4) ∧
    (IntKind.u64.wrap ((i : Int) * 16 + 4) = (V : Int) ∧ Hid (∀ w', Calls Tryd.prog 91 #[.int .u64 (V : Int), .int .i64 2] w' fun e w'' => ∃ A c, e = .returned (.slice A 2 c) ∧ w''.ownsRow w'.heap.size 5 1 (.slice A 2 c) 2 (u8s D) ∧ Kept w' w'') ∧ D.length = 2 ∧
      Hid (Bytes D ∧ ∀ t tl, i = List.length t → litS (D ++ (t ++ tl)) = (1, t, D.length + i))) ∧
    (Go.bits .or .i64 ((i : Int) * 16 + 4) 1 = (i : Int) * 16 + 5 ∧ IntKind.u64.wrap ((i : Int) * 16 + 5) = (V1 : Int) ∧ Hid (∀ w', Calls Tryd.prog 91 #[.int .u64 (V1 : Int), .int .i64 2] w' fun e w'' => ∃ A c, e = .returned (.slice A 2 c) ∧ w''.ownsRow w'.heap.size 5 1 (.slice A 2 c) 2 (u8s D1) ∧ Kept w' w'') ∧ D1.length = 2 ∧
      Hid (Bytes D1 ∧ ∀ x tl, litS (D1 ++ (x :: tl)) = (1, List.replicate i x, D1.length + 1))) ∧
    (∀ w' n, Blk w' n 3 [.int .i64 3, .int .i64 4, .int .i64 4] → w'.cell? ⟨n, 1, none⟩ = some (.int .i64 4)) ∧ (∀ w' n, Blk w' n 3 [.int .i64 0, .int .i64 1, .int .i64 3] → w'.cell? ⟨n, 1, none⟩ = some (.int .i64 1)) := by
  refine ⟨i * 16 + 4, i * 16 + 5, lowB (i * 16 + 4) 2, lowB (i * 16 + 5) 2, ⟨?_, by decide, by decide, ?_⟩, ⟨?_, ?_, lowB_length _ _, lowB_bytes _ _, fun t tl ht => ?_⟩, ⟨?_, ?_, ?_, lowB_length _ _, lowB_bytes _ _, fun x tl => ?_⟩, fun w' n h => h.cell 1, fun w' n h => h.cell 1⟩
  · rw [IntKind.wrap_i64]; omega
  · have h := i64_or_nat (i * 16) 4 (by omega) (by omega)
    have e : i * 16 ||| 4 = i * 16 + 4 := by
      have h2 := or_shift (a := 4) (c := i) (n := 4) (by decide)
      rw [Nat.or_comm, show (16 : Nat) = 2 ^ 4 by decide, h2]; omega
    rw [e] at h
    exact_mod_cast h
  · rw [IntKind.wrap_u64]; omega
  · exact fun w' => (show Calls Tryd.prog 91 #[.int .u64 ((i * 16 + 4 : Nat) : Int), .int .i64 2] w' _ from low_any _ 2 (by decide) (by omega) w')
  · rw [lowB_length]
    exact litS_raw (f := 1) (by decide) ht (by show i * 16 + 4 * 1 < 256 ^ 2; omega) (by omega)
  · have h := i64_or_nat (i * 16 + 4) 1 (by omega) (by omega)
    have e : (i * 16 + 4) ||| 1 = i * 16 + 5 := by
      have h2 := or_shift (a := 1) (c := (i * 16 + 4) / 2) (n := 1) (by decide)
      rw [Nat.or_comm, show i * 16 + 4 = (i * 16 + 4) / 2 * 2 ^ 1 by omega, h2]; omega
    rw [e] at h
    exact_mod_cast h
  · rw [IntKind.wrap_u64]; omega
  · exact fun w' => (show Calls Tryd.prog 91 #[.int .u64 ((i * 16 + 5 : Nat) : Int), .int .i64 2] w' _ from low_any _ 2 (by decide) (by omega) w')
  · rw [lowB_length]
    exact litS_run (f := 1) (by decide) (by show i * 16 + 4 * 1 + 1 < 256 ^ 2; omega) (by omega)
theorem formW2 (i : Nat) (hi : ¬ 1048576 ≤ i) (_hi2 : i ≤ 65536) : ∃ (V V1 : Nat) (D D1 : List Nat),
    (IntKind.i64.wrap ((i : Int) * 16) = (i : Int) * 16 ∧ IntKind.i64.wrap 12 = 12 ∧ IntKind.i64.wrap 4 = 4 ∧ Go.bits .or .i64 ((i : Int) * 16) 12 = (i : Int) * 16 + 12) ∧
    (IntKind.u64.wrap ((i : Int) * 16 + 12) = (V : Int) ∧ Hid (∀ w', Calls Tryd.prog 91 #[.int .u64 (V : Int), .int .i64 3] w' fun e w'' => ∃ A c, e = .returned (.slice A 3 c) ∧ w''.ownsRow w'.heap.size 5 1 (.slice A 3 c) 3 (u8s D) ∧ Kept w' w'') ∧ D.length = 3 ∧
      Hid (Bytes D ∧ ∀ t tl, i = List.length t → litS (D ++ (t ++ tl)) = (1, t, D.length + i))) ∧
    (Go.bits .or .i64 ((i : Int) * 16 + 12) 1 = (i : Int) * 16 + 13 ∧ IntKind.u64.wrap ((i : Int) * 16 + 13) = (V1 : Int) ∧ Hid (∀ w', Calls Tryd.prog 91 #[.int .u64 (V1 : Int), .int .i64 3] w' fun e w'' => ∃ A c, e = .returned (.slice A 3 c) ∧ w''.ownsRow w'.heap.size 5 1 (.slice A 3 c) 3 (u8s D1) ∧ Kept w' w'') ∧ D1.length = 3 ∧
      Hid (Bytes D1 ∧ ∀ x tl, litS (D1 ++ (x :: tl)) = (1, List.replicate i x, D1.length + 1))) ∧
    (∀ w' n, Blk w' n 3 [.int .i64 3, .int .i64 4, .int .i64 4] → w'.cell? ⟨n, 2, none⟩ = some (.int .i64 4)) ∧ (∀ w' n, Blk w' n 3 [.int .i64 0, .int .i64 1, .int .i64 3] → w'.cell? ⟨n, 2, none⟩ = some (.int .i64 3)) := by
  refine ⟨i * 16 + 12, i * 16 + 13, lowB (i * 16 + 12) 3, lowB (i * 16 + 13) 3, ⟨?_, by decide, by decide, ?_⟩, ⟨?_, ?_, lowB_length _ _, lowB_bytes _ _, fun t tl ht => ?_⟩, ⟨?_, ?_, ?_, lowB_length _ _, lowB_bytes _ _, fun x tl => ?_⟩, fun w' n h => h.cell 2, fun w' n h => h.cell 2⟩
  · rw [IntKind.wrap_i64]; omega
  · have h := i64_or_nat (i * 16) 12 (by omega) (by omega)
    have e : i * 16 ||| 12 = i * 16 + 12 := by
      have h2 := or_shift (a := 12) (c := i) (n := 4) (by decide)
      rw [Nat.or_comm, show (16 : Nat) = 2 ^ 4 by decide, h2]; omega
    rw [e] at h
    exact_mod_cast h
  · rw [IntKind.wrap_u64]; omega
  · exact fun w' => (show Calls Tryd.prog 91 #[.int .u64 ((i * 16 + 12 : Nat) : Int), .int .i64 3] w' _ from low_any _ 3 (by decide) (by omega) w')
  · rw [lowB_length]
    exact litS_raw (f := 3) (by decide) ht (by show i * 16 + 4 * 3 < 256 ^ 3; omega) (by omega)
  · have h := i64_or_nat (i * 16 + 12) 1 (by omega) (by omega)
    have e : (i * 16 + 12) ||| 1 = i * 16 + 13 := by
      have h2 := or_shift (a := 1) (c := (i * 16 + 12) / 2) (n := 1) (by decide)
      rw [Nat.or_comm, show i * 16 + 12 = (i * 16 + 12) / 2 * 2 ^ 1 by omega, h2]; omega
    rw [e] at h
    exact_mod_cast h
  · rw [IntKind.wrap_u64]; omega
  · exact fun w' => (show Calls Tryd.prog 91 #[.int .u64 ((i * 16 + 13 : Nat) : Int), .int .i64 3] w' _ from low_any _ 3 (by decide) (by omega) w')
  · rw [lowB_length]
    exact litS_run (f := 3) (by decide) (by show i * 16 + 4 * 3 + 1 < 256 ^ 3; omega) (by omega)

set_option maxHeartbeats 8000000 in
set_option maxRecDepth 20000 in
theorem literalsW_any {R RT : Nat → Prop} (wb cb k : Nat) (wv : List Value) (A : Option Addr) (c : Nat) (t : List Nat) (w : World) (hw : Blk w wb 128 wv) (hw0 : wv[0]? = some (.pointer (some ⟨cb, 0, none⟩))) (hw4 : wv[4]? = some (.slice none 0 0)) (hwl : wv.length = 13)
    (hc : Chz w R cb k) (hRc : ¬ R cb) (hRwb : ¬ R wb) (hRl : ∀ j, R j → j < w.heap.size) (hwc : wb ≠ cb) (hk : k ≤ 1073738000)
    (hs : Sl w RT A (u8s t)) (hTl : ∀ j, RT j → j < w.heap.size) (hTw : ¬ RT wb) (hTc : ¬ RT cb) (hcap : t.length ≤ c) (hd : Bytes t) (hn : t.length ≤ 65536) :
    Calls Tryd.prog 67 #[.pointer (some ⟨wb, 0, none⟩), .slice A t.length c] w (LitTold wb cb t w) := by
  have hneq := fun (w : World) (a : Option Addr) (n c n' c' : Nat) => run_neq_slice_nil_any (P := Tryd.prog) w 22 5 a n c n' c' Tryd.underlying22
  obtain ⟨n, hnn⟩ : ∃ n, n = t.length := ⟨_, rfl⟩
  have hcblt : cb < w.heap.size := by obtain ⟨_, _, _, _, hb, _⟩ := hc; exact hb.lt
  have hwlt := hw.lt
  rw [← hnn] at hcap hn ⊢
  have Hw := Lib.hid hw
  have Hc := Lib.hid hc
  have Hs := Lib.hid hs
  have Hd := Lib.hid hd
  have HRl := Lib.hid hRl
  have HTl := Lib.hid hTl
  have Hnn := Lib.hid hnn
  clear hw hc hs hd hRl hTl hnn
  go_enter Tryd.func67, Tryd.ntmps67
  go_upto_region 4 with (fail)
  obtain ⟨gc, hgc⟩ : ∃ x, x = w.heap.size := ⟨_, rfl⟩
  obtain ⟨W1, hW1⟩ : ∃ x, x = w.alloc (.cells Tryd.zeroCells202 202) := ⟨_, rfl⟩
  rw [← hW1, ← hgc]
  have hk1 : Kept w W1 := by rw [hW1]; exact (Keep.refl _ _).alloc _
  have hb1 : Blk W1 gc 202 (nats (tallyW (t.take 0))) := by
    rw [hW1, hgc, zero202]
    exact Blk.new _ _ _
  have hgcw : w.heap.size ≤ gc := by omega
  clear hW1 hgc
  go_wp2
  go_loopg [6, 19] (n + 1) (fun f s6 s19 wr => ∃ i u : Nat, n - i < f ∧ i ≤ n ∧ s19 = .int .i64 i ∧ s6 = .int .i64 u ∧ u ≤ i ∧ Hid (u = usedW (t.take i)) ∧ Blk wr gc 202 (nats (tallyW (t.take i))) ∧ Keep (· = gc) W1 wr)
  case atStart => exact ⟨0, 0, by omega, by omega, rfl, rfl, by omega, by show _ = _; rw [List.take_zero, usedW_nil], hb1, Keep.refl _ _⟩
  case round =>
  clear hb1
  obtain ⟨i, u, q1, q2, rfl, rfl, q3, q4, qb, qk⟩ := hrel
  by_cases hlt : i < n
  · obtain ⟨g, o, x, hR, rfl, hcx, hxk⟩ := ((Hs.out.kept hk1).keep qk (fun j _ h1 h2 => by have := HTl.out j h1; omega)).u8 (k := i) (by rw [← Hnn.out]; exact hlt)
    have hx256 : x < 256 := Hd.out x (List.mem_of_getElem? hxk.out)
    obtain ⟨v, hv⟩ : ∃ v, v = (t.take i).count x := ⟨_, rfl⟩
    have hvb : v ≤ 65536 := by
      have h1 := List.count_le_length (a := x) (l := t.take i)
      rw [List.length_take] at h1
      omega
    have e0 : wr.cell? ⟨gc, x, none⟩ = some (.int .i64 (v : Int)) := by rw [qb.cell, nats, List.getElem?_map, tallyW_at _ hx256, ← hv]; rfl
    have f0 := qb.frozen x
    have htp : t.take (i + 1) = t.take i ++ [x] := take_push hxk.out
    have hpush : (tallyW (t.take i)).set x (v + 1) = tallyW (t.take (i + 1)) := by rw [htp, hv, tallyW_push _ hx256]
    have hused : usedW (t.take (i + 1)) = usedW (t.take i) + if v = 0 then 1 else 0 := by rw [htp, hv, usedW_push _ hx256]
    have hb2 : Blk (wr.setCell ⟨gc, x, none⟩ (.int .i64 ((v : Int) + 1))) gc 202 (nats (tallyW (t.take (i + 1)))) := Blk.cast (qb.set x _) (by rw [show ((v : Int) + 1) = ((v + 1 : Nat) : Int) by omega, nats_set, hpush])
    have hk2 : Keep (· = gc) W1 (wr.setCell ⟨gc, x, none⟩ (.int .i64 ((v : Int) + 1))) := qk.set (p := ⟨gc, x, none⟩) (.inl rfl) _
    have Hused := Lib.hid hused
    have Hb2 := Lib.hid hb2
    have Hk2 := Lib.hid hk2
    clear hused hpush htp hb2 hk2 hv hxk
    by_cases hv0 : v = 0
    · subst hv0
      go_wp2
      go_roundg (n - i)
      case measure => exact q1
      case rel => exact ⟨i + 1, u + 1, by omega, by omega, rfl, rfl, by omega, by show _ = _; rw [Hused.out, ← q4.out]; simp, Hb2.out, Hk2.out⟩
    · go_wp2
      go_roundg (n - i)
      case measure => exact q1
      case rel => exact ⟨i + 1, u, by omega, by omega, rfl, rfl, by omega, by show _ = _; rw [Hused.out, ← q4.out, if_neg hv0, Nat.add_zero], Hb2.out, Hk2.out⟩
  · obtain rfl : i = n := by omega
    have htn : t.take i = t := List.take_of_length_le (by rw [← Hnn.out]; exact Nat.le_refl _)
    rw [htn] at q4 qb
    obtain ⟨w2, hw2⟩ : ∃ x, x = wr := ⟨_, rfl⟩
    rw [← hw2] at qb qk ⊢
    have hkw2 : Kept w w2 := hk1.then qk (fun j hj h => by omega)
    clear htn hw2 hk1 qk q1 hlt
    have d02 : w2.cell? ⟨wb, 0, none⟩ = some (.pointer (some ⟨cb, 0, none⟩)) := by rw [(Hw.out.kept hkw2).cell]; exact hw0
    have hch := chooser_any (R := R) cb k 5 w2 (Hc.out.kept hkw2) hRc (by omega) (by decide) (by decide)
    have Hch := Lib.hid hch
    clear hch
    go_upto_region 12 with (go_at_call 61; (with_reducible refine Hch.out.mono ?_); rintro e w3 ⟨kd, k3, rfl, hkd, hk3, tc3, hkk3⟩)
    have hkd5 : kd < 5 := by omega
    have hkw3 : Keep (· = cb) w w3 := (Kept.any hkw2 _).trans hkk3
    have hw3 := Hw.out.keep hkw3 hwc
    have hb3 := qb.keep hkk3 (fun h => by omega)
    have hs3 : Sl w3 RT A (u8s t) := Hs.out.keep hkw3 (fun j _ h1 h2 => hTc (h2 ▸ h1))
    have Hkw3 := Lib.hid hkw3
    have Hw3 := Lib.hid hw3
    have Hb3 := Lib.hid hb3
    have Hs3 := Lib.hid hs3
    have Htc3 := Lib.hid tc3
    have hsz3 := hkw3.size
    have hgc3 := hb3.lt
    clear hkw3 hw3 hb3 hs3 tc3 hkk3 qb Hch d02 hkd
    go_cut [45] from 40 to 45 (fun s45 wx => ∃ b : Bool, s45 = .bool b ∧ (b = true → 0 < i) ∧ w3 = wx)
    case first =>
      by_cases hi0 : 0 < i
      · go_wp2
        all_goals
          go_meet
          case rel => exact ⟨_, rfl, fun _ => hi0, rfl⟩
      · go_wp2
        all_goals
          go_meet
          case rel => first | exact ⟨false, rfl, fun h => (by cases h), rfl⟩ | exact ⟨_, rfl, fun h => (by simp at h), rfl⟩
    case rest =>
    obtain ⟨b, rfl, hbi, rfl⟩ := hcut
    go_upto_if 45 with (fail)
    go_cut [] from 46 to 62 (fun wx => ∃ (k4 : Nat) (wv4 : List Value), k4 ≤ k3 + 45 ∧ Hid (Chz wx R cb k4) ∧ Hid (Keep (fun j => j = wb ∨ j = cb) w wx) ∧ Hid (Blk wx wb 128 wv4) ∧ wv4[0]? = some (.pointer (some ⟨cb, 0, none⟩)))
    case first =>
      cases b with
      | false =>
        go_wp2
        go_meet
        case rel => exact ⟨k3, wv, by omega, Htc3.out, Hkw3.out.mono (fun j _ h => .inr h), Hw3.out, hw0⟩
      | true =>
        have hi0 := hbi rfl
        have d34 : w3.cell? ⟨wb, 4, none⟩ = some (.slice none 0 0) := by rw [Hw3.out.cell]; exact hw4
        have hhuf := huffman_any (R := R) (RT := RT) (RC := (· = gc)) wb cb k3 gc u wv A c t ((tallyW t).map Int.ofNat) kd w3 Hw3.out hw0 hw4 hwl Htc3.out hRc hRwb (fun j hj => by have := HRl.out j hj; omega) hwc (by omega) Hs3.out (fun j hj => by have := HTl.out j hj; omega) hTw hTc (by rw [← Hnn.out]; exact hcap) Hd.out (by rw [← Hnn.out]; exact hn) (by rw [← Hnn.out]; exact hi0)
          (by rw [← nats_i64s]; exact Hb3.out.sl) (fun j hj => by omega) (by simp) (fun x hx => tallyW_pos Hd.out hx) q4.out
        rw [← Hnn.out] at hhuf
        have Hhuf := Lib.hid hhuf
        clear hhuf hbi
        go_upto_region 15 with (go_at_call 90; (with_reducible refine Hhuf.out.mono ?_); rintro e w4 ⟨hk4, ⟨wv4, hb4, hw40, hw4l⟩, ⟨k4, hk4', tc4⟩, rfl | ⟨g9, n9, c9, D, rfl, hD, hn9, hn9b, ho9, hDt⟩⟩)
        · obtain ⟨v4, hv4⟩ : ∃ v, wv4[4]? = some v := ⟨_, List.getElem?_eq_getElem (by omega)⟩
          have d44 : w4.cell? ⟨wb, 4, none⟩ = some v4 := by rw [hb4.cell]; exact hv4
          have f44 := hb4.frozen 4
          have Hb4 := Lib.hid hb4
          have Htc4 := Lib.hid tc4
          have Hk4 := Lib.hid hk4
          clear hb4 tc4 hk4 hv4
          go_wp2
          go_meet
          case rel => exact ⟨k4, _, by omega, Htc4.out.keep ((Keep.refl (· = wb) _).set (p := ⟨wb, 4, none⟩) (.inl rfl) _) (fun h => hwc h.symm) (fun j _ h1 h2 => hRwb (h2 ▸ h1)), ((Hkw3.out.mono (fun j _ h => .inr h)).trans Hk4.out).set (p := ⟨wb, 4, none⟩) (.inl (.inl rfl)) _, Hb4.out.set 4 _, by rw [List.getElem?_set_ne (by decide)]; exact hw40⟩
        · go_wp2
          go_ret
          exact ⟨(Hkw3.out.mono (fun j _ h => .inr h)).trans hk4, _, n9, c9, D, rfl, hD, hn9b, own_mono ho9 (by omega), hDt⟩
    case rest =>
    obtain ⟨k4, wv4, hk4, tc4, hkw4, hb4, hw40⟩ := hcut
    have d05 : wc.cell? ⟨wb, 0, none⟩ = some (.pointer (some ⟨cb, 0, none⟩)) := by rw [hb4.out.cell]; exact hw40
    have hch := chooser_any (R := R) cb k4 3 wc tc4.out hRc (by omega) (by decide) (by decide)
    have Hch := Lib.hid hch
    clear hch hb4 tc4 hw40
    go_upto_region 19 with (go_at_call 61; (with_reducible refine Hch.out.mono ?_); rintro e w6 ⟨g0, k6, rfl, hg0, hk6, tc6, hkk6⟩)
    have hkw6 : Keep (fun j => j = wb ∨ j = cb) w w6 := hkw4.out.trans (hkk6.mono (fun j _ h => .inr h))
    have hs6 : Sl w6 RT A (u8s t) := Hs.out.keep hkw6 (fun j _ h1 h2 => by rcases h2 with rfl | rfl; exact hTw h1; exact hTc h1)
    have Hkw6 := Lib.hid hkw6
    have Hs6 := Lib.hid hs6
    have hsz6 := hkw6.size
    have hcl : Hid (u = 1 → ∀ x ∈ t, t = List.replicate t.length x) := fun h x hx => usedW_one Hd.out (by rw [← q4.out]; exact h) hx
    clear hkw6 hs6 tc6 hkk6 Hch d05 hkw4 Hw Hw3 Hb3 Hs3 Htc3 Hkw3 Hc Hs HRl HTl q4 hneq hbi
    go_loopg [13] 4 (fun f s13 wx => ∃ g : Nat, g ≤ 2 ∧ 3 - g < f ∧ s13 = .int .i64 g ∧ Kept w6 wx)
    case atStart => exact ⟨g0, by omega, by omega, rfl, Keep.refl _ _⟩
    case round =>
    obtain ⟨g, x1, x2, rfl, xk⟩ := hrel
    obtain ⟨LIM, hlim⟩ : ∃ LIM : Nat, (g = 0 ∧ LIM = 32) ∨ (g = 1 ∧ LIM = 4096) ∨ (g = 2 ∧ LIM = 1048576) := by
      rcases (by omega : g = 0 ∨ g = 1 ∨ g = 2) with rfl | rfl | rfl
      · exact ⟨_, .inl ⟨rfl, rfl⟩⟩
      · exact ⟨_, .inr (.inl ⟨rfl, rfl⟩)⟩
      · exact ⟨_, .inr (.inr ⟨rfl, rfl⟩)⟩
    have hA1 : (wr.alloc (.cells #[.int .i64 32, .int .i64 4096, .int .i64 1048576] 3)).cell? ⟨wr.heap.size, g, none⟩ = some (.int .i64 (LIM : Int)) := by
      have hb := Blk.new wr 3 [.int .i64 32, .int .i64 4096, .int .i64 1048576]
      rcases hlim with ⟨rfl, rfl⟩ | ⟨rfl, rfl⟩ | ⟨rfl, rfl⟩
      · exact hb.cell 0
      · exact hb.cell 1
      · exact hb.cell 2
    have qk2 := xk.alloc (.cells #[.int .i64 32, .int .i64 4096, .int .i64 1048576] 3)
    by_cases hX10 : LIM ≤ i
    · have hg3' : g + 1 ≤ 2 := by omega
      clear hlim
      go_wp2
      go_roundg (3 - g)
      case measure => exact x2
      case rel => exact ⟨g + 1, by omega, by omega, rfl, qk2⟩
    go_upto_region 21 with (fail)
    obtain ⟨w7, hw7⟩ : ∃ x, x = wr.alloc (.cells #[.int .i64 32, .int .i64 4096, .int .i64 1048576] 3) := ⟨_, rfl⟩
    rw [← hw7] at qk2 ⊢
    clear hA1 hw7 x2 hg0 xk
    rcases hlim with ⟨rfl, rfl⟩ | ⟨rfl, rfl⟩ | ⟨rfl, rfl⟩
    all_goals
      go_upto_region 22 with (fail)
      generalize hW8 : World.alloc w7 _ = W8
      have hk8 : Kept w6 W8 := hW8 ▸ qk2.alloc _
      clear qk2 hW8
      first
        | have hF := formW0 i hX10 hn
        | have hF := formW1 i hX10 hn
        | have hF := formW2 i hX10 hn
      obtain ⟨V, V1, D, D1, ⟨hw1, hw5, hw5', ho1⟩, ⟨hw6, Hlow, hDl, HD⟩, ⟨ho2, hw6', Hlow1, hDl1, HD1⟩, hgA, hgB⟩ := hF
      by_cases hrun : kd = 1 ∧ u = 1
      · obtain ⟨rfl, rfl⟩ := hrun
        have hi1 : 0 < i := by omega
        obtain ⟨ga, oa, xb, _, rfl, hc6, hxk⟩ := Hs6.out.u8 (k := 0) (by rw [← Hnn.out]; exact hi1)
        rw [Nat.add_zero] at hc6
        have htx : t = List.replicate i xb := by rw [Hnn.out]; exact hcl.out rfl xb (List.mem_of_getElem? hxk.out)
        have hx256 : xb < 256 := Hd.out xb (List.mem_of_getElem? hxk.out)
        have Htx := Lib.hid htx
        clear htx hxk Hlow hw6 hDl HD
        go_upto_region 23 with (fail)
        go_cut [4] from 86 to 106 (fun s4 wx => ∃ A9 N c9, s4 = .slice A9 N c9 ∧ Hid (N = D1.length + 1) ∧ wx.ownsRow w6.heap.size 5 1 (.slice A9 N c9) N (u8s (D1 ++ [xb])) ∧ Kept w6 wx)
        case first =>
          -- REGION 23
          obtain ⟨S0, hS0⟩ : ∃ S : World → Prop, S = fun w' => w'.cell? ⟨ga, oa, none⟩ = some (.int .u8 (xb : Int)) := ⟨_, rfl⟩
          refine wp_region_tillN S0 [] 22 #[false, false, false, false, false, false, false, false, false, false, false, false, false, false, false, false, false, false, false, false, false, false] rfl rfl (by kernel_rfl) ?_
          obtain ⟨W0, hW0⟩ : ∃ x, x = W8.drew := ⟨_, rfl⟩
          have hk0 : Kept w6 W0 := hW0 ▸ hk8.drew
          rw [← hW0]
          clear hW0
          have hc0 := hk0.cell hc6 (fun h => h)
          have hS0w : S0 W0 := by rw [hS0]; exact hc0
          refine wpTill_v 0 (v := ?_) rfl hS0w (Or.inl ⟨by rfl, ?_⟩) ?_
          rotate_left
          · (intro _ _; go_simp; try with_reducible rfl)
          simp only [Act.put, List.setIfInBounds_toArray, List.set_cons_zero, List.set_cons_succ]
          refine wpTill_v 2 (v := ?_) rfl hS0w (Or.inl ⟨by rfl, ?_⟩) ?_
          rotate_left
          · (intro _ _; go_simp; try with_reducible rfl)
          simp only [Act.put, List.setIfInBounds_toArray, List.set_cons_zero, List.set_cons_succ]
          refine wpTill_v 7 (v := ?_) rfl hS0w (Or.inl ⟨by rfl, ?_⟩) ?_
          rotate_left
          · (intro _ _; go_simp; try with_reducible rfl)
          simp only [Act.put, List.setIfInBounds_toArray, List.set_cons_zero, List.set_cons_succ]
          refine wpTill_v 14 (v := ?_) rfl hS0w (Or.inl ⟨by rfl, ?_⟩) ?_
          rotate_left
          · (intro _ _; go_simp; try with_reducible rfl)
          simp only [Act.put, List.setIfInBounds_toArray, List.set_cons_zero, List.set_cons_succ]
          refine wpTill_v 16 (v := ?_) rfl hS0w (Or.inl ⟨by rfl, ?_⟩) ?_
          rotate_left
          · (intro _ _; go_simp; try with_reducible rfl)
          simp only [Act.put, List.setIfInBounds_toArray, List.set_cons_zero, List.set_cons_succ]
          refine wpTill_v 17 (v := ?_) rfl hS0w (Or.inl ⟨by rfl, ?_⟩) ?_
          rotate_left
          · (intro _ _; go_simp; try with_reducible rfl)
          simp only [Act.put, List.setIfInBounds_toArray, List.set_cons_zero, List.set_cons_succ]
          refine wpTill_t 18 (v := ?_) rfl hS0w (Or.inl ⟨by rfl, ?_⟩) ?_
          rotate_left
          · (intro w9 hSw; rw [hS0] at hSw; have gl := World.block_lt_of_cell? w9 _ hSw; go_simp; try with_reducible rfl)
          simp only [Act.put, List.setIfInBounds_toArray, List.set_cons_zero, List.set_cons_succ]
          refine wpTill_ready [1, 6, 19] (by kernel_rfl) (by simp) ?_
          refine AllTill.consL (i := 1) rfl (fun K hK => ?_) ?_
          · have HK := Lib.hid hK
            clear hK
            have bA1 := Blk.new W0 3 [.int .i64 3, .int .i64 4, .int .i64 4]
            have nk : Kept W0 (W0.alloc (.cells #[.int .i64 3, .int .i64 4, .int .i64 4] 3)) := (Keep.refl _ _).alloc _
            obtain ⟨nA, hnA⟩ : ∃ x, x = W0.heap.size := ⟨_, rfl⟩
            obtain ⟨W1, hW1⟩ : ∃ x, x = W0.alloc (.cells #[.int .i64 3, .int .i64 4, .int .i64 4] 3) := ⟨_, rfl⟩
            rw [← hnA] at bA1
            rw [← hW1] at bA1 nk
            have hk1 := hk0.trans nk
            have hc1 := hk1.cell hc6 (fun h => h)
            go_simp
            rw [← hnA, ← hW1]
            refine HK.out _ _ (fun _ => by rw [hS0]; exact hc1) ?_
            clear HK K
            clear hnA hW1 nk
            simp only [List.setIfInBounds_toArray, List.set_cons_zero, List.set_cons_succ]
            obtain ⟨S1, hS1⟩ : ∃ S : World → Prop, S = fun w' => (w'.cell? ⟨ga, oa, none⟩ = some (.int .u8 (xb : Int))) ∧ Blk w' nA 3 [.int .i64 3, .int .i64 4, .int .i64 4] := ⟨_, rfl⟩
            refine wpTill_strong (S' := S1) (fun w h => by rw [hS1] at h; rw [hS0]; exact h.1) _ _ _ _ ?_
            have hS1w : S1 W1 := by rw [hS1]; exact ⟨hc1, bA1⟩
            refine wpTill_v 3 (v := ?_) rfl hS1w (Or.inl ⟨by rfl, ?_⟩) ?_
            rotate_left
            · (intro _ _; go_simp; try with_reducible rfl)
            simp only [Act.put, List.setIfInBounds_toArray, List.set_cons_zero, List.set_cons_succ]
            refine wpTill_t 4 (v := ?_) rfl hS1w (Or.inl ⟨by rfl, ?_⟩) ?_
            rotate_left
            · (intro w9 hSw; rw [hS1] at hSw; have g0 := hgA _ _ hSw.2; have gl := hSw.2.lt; go_simp; try with_reducible rfl)
            simp only [Act.put, List.setIfInBounds_toArray, List.set_cons_zero, List.set_cons_succ]
            refine wpTill_v 5 (v := ?_) rfl hS1w (Or.inl ⟨by rfl, ?_⟩) ?_
            rotate_left
            · (intro _ _; go_simp; try with_reducible rfl)
            simp only [Act.put, List.setIfInBounds_toArray, List.set_cons_zero, List.set_cons_succ]
            refine wpTill_ready [6, 19] (by kernel_rfl) (by simp) ?_
            refine AllTill.consL (i := 6) rfl (fun K hK => ?_) ?_
            · have HK := Lib.hid hK
              clear hK
              have bB2 := Blk.new W1 3 [.int .i64 0, .int .i64 1, .int .i64 3]
              have nk : Kept W1 (W1.alloc (.cells #[.int .i64 0, .int .i64 1, .int .i64 3] 3)) := (Keep.refl _ _).alloc _
              obtain ⟨nB, hnB⟩ : ∃ x, x = W1.heap.size := ⟨_, rfl⟩
              obtain ⟨W2, hW2⟩ : ∃ x, x = W1.alloc (.cells #[.int .i64 0, .int .i64 1, .int .i64 3] 3) := ⟨_, rfl⟩
              rw [← hnB] at bB2
              rw [← hW2] at bB2 nk
              have hk2 := hk1.trans nk
              have hc2 := hk2.cell hc6 (fun h => h)
              have bA2 := bA1.kept nk
              go_simp
              rw [← hnB, ← hW2]
              refine HK.out _ _ (fun _ => by rw [hS1]; exact ⟨hc2, bA2⟩) ?_
              clear HK K
              clear hnB hW2 nk
              simp only [List.setIfInBounds_toArray, List.set_cons_zero, List.set_cons_succ]
              obtain ⟨S2, hS2⟩ : ∃ S : World → Prop, S = fun w' => ((w'.cell? ⟨ga, oa, none⟩ = some (.int .u8 (xb : Int))) ∧ Blk w' nA 3 [.int .i64 3, .int .i64 4, .int .i64 4]) ∧ Blk w' nB 3 [.int .i64 0, .int .i64 1, .int .i64 3] := ⟨_, rfl⟩
              refine wpTill_strong (S' := S2) (fun w h => by rw [hS2] at h; rw [hS1]; exact h.1) _ _ _ _ ?_
              have hS2w : S2 W2 := by rw [hS2]; exact ⟨⟨hc2, bA2⟩, bB2⟩
              refine wpTill_v 8 (v := ?_) rfl hS2w (Or.inl ⟨by rfl, ?_⟩) ?_
              rotate_left
              · (intro _ _; go_simp; try with_reducible rfl)
              simp only [Act.put, List.setIfInBounds_toArray, List.set_cons_zero, List.set_cons_succ]
              refine wpTill_t 9 (v := ?_) rfl hS2w (Or.inl ⟨by rfl, ?_⟩) ?_
              rotate_left
              · (intro w9 hSw; rw [hS2] at hSw; have g0 := hgB _ _ hSw.2; have gl := hSw.2.lt; go_simp; try with_reducible rfl)
              simp only [Act.put, List.setIfInBounds_toArray, List.set_cons_zero, List.set_cons_succ]
              refine wpTill_v 10 (v := ?_) rfl hS2w (Or.inl ⟨by rfl, ?_⟩) ?_
              rotate_left
              · (intro _ _; go_simp; try with_reducible rfl)
              simp only [Act.put, List.setIfInBounds_toArray, List.set_cons_zero, List.set_cons_succ]
              refine wpTill_v 11 (v := ?_) rfl hS2w (Or.inl ⟨by rfl, ?_⟩) ?_
              rotate_left
              · (intro _ _; go_simp; try with_reducible rfl)
              simp only [Act.put, List.setIfInBounds_toArray, List.set_cons_zero, List.set_cons_succ]
              refine wpTill_v 12 (v := ?_) rfl hS2w (Or.inl ⟨by rfl, ?_⟩) ?_
              rotate_left
              · (intro _ _; go_simp; try with_reducible rfl)
              simp only [Act.put, List.setIfInBounds_toArray, List.set_cons_zero, List.set_cons_succ]
              refine wpTill_v 13 (v := ?_) rfl hS2w (Or.inl ⟨by rfl, ?_⟩) ?_
              rotate_left
              · (intro _ _; go_simp; try with_reducible rfl)
              simp only [Act.put, List.setIfInBounds_toArray, List.set_cons_zero, List.set_cons_succ]
              refine wpTill_ready [15, 19] (by kernel_rfl) (by simp) ?_
              refine AllTill.consL (i := 15) rfl (fun K hK => ?_) ?_
              · have HK := Lib.hid hK
                clear hK
                go_simp
                go_at_call 91
                refine (Hlow1.out _).mono ?_
                rintro e W3 ⟨A12, c12, rfl, ho12, nk⟩
                have ho3 := own_mono ho12 hk2.size
                have hk3 := hk2.trans nk
                have hc3 := hk3.cell hc6 (fun h => h)
                have bA3 := bA2.kept nk
                have bB3 := bB2.kept nk
                refine HK.out _ _ (fun _ => by rw [hS2]; exact ⟨⟨hc3, bA3⟩, bB3⟩) ?_
                clear HK K
                clear nk
                simp only [List.setIfInBounds_toArray, List.set_cons_zero, List.set_cons_succ]
                refine wpTill_ready [19] (by kernel_rfl) (by simp) ?_
                refine AllTill.consL (i := 19) rfl (fun K hK => ?_) ?_
                · have HK := Lib.hid hK
                  clear hK
                  have bC4 := Blk.new W3 5 [.int .u8 (xb : Int)]
                  have nk : Kept W3 (W3.alloc (.cells #[.int .u8 (xb : Int)] 5)) := (Keep.refl _ _).alloc _
                  obtain ⟨nC, hnC⟩ : ∃ x, x = W3.heap.size := ⟨_, rfl⟩
                  obtain ⟨W4, hW4⟩ : ∃ x, x = W3.alloc (.cells #[.int .u8 (xb : Int)] 5) := ⟨_, rfl⟩
                  rw [← hnC] at bC4
                  rw [← hW4] at bC4 nk
                  have hk4 := hk3.trans nk
                  have hc4 := hk4.cell hc6 (fun h => h)
                  have bA4 := bA3.kept nk
                  have bB4 := bB3.kept nk
                  have ho4 := own_kept ho3 nk
                  go_simp
                  rw [← hnC, ← hW4]
                  refine HK.out _ _ (fun _ => by rw [hS2]; exact ⟨⟨hc4, bA4⟩, bB4⟩) ?_
                  clear HK K
                  clear hnC hW4 nk
                  simp only [List.setIfInBounds_toArray, List.set_cons_zero, List.set_cons_succ]
                  refine wpTill_ready [20] (by kernel_rfl) (by simp) ?_
                  refine AllTill.consL (i := 20) rfl (fun K hK => ?_) ?_
                  · have HK := Lib.hid hK
                    clear hK
                    refine step_app rfl _ _ (by rfl) elByte w6.heap.size _ _ _ (by rfl) ho4 1 [.int .u8 (xb : Int)] (src_blk (size := 1) Tryd.underlying22 bC4 1 1 (by simp) (by simp [Value.oneCell'])) (by unfold maxLen; omega) (by omega) hk4.size ?_
                    intro A13 c13 W5 ho13 hg13 _
                    have hk5 : Kept w6 W5 := hk4.grown hg13 (fun j hj => .inr (ho4.lt j hj).1)
                    have hc5 := hk5.cell hc6 (fun h => h)
                    have bA5 := blk_grown bA4 hg13 (own_ne ho4 bA4 (by decide))
                    have bB5 := blk_grown bB4 hg13 (own_ne ho4 bB4 (by decide))
                    refine HK.out _ _ (fun _ => by rw [hS2]; exact ⟨⟨hc5, bA5⟩, bB5⟩) ?_
                    clear HK K
                    simp only [Act.put, List.setIfInBounds_toArray, List.set_cons_zero, List.set_cons_succ]
                    have hS5w : S2 W5 := by rw [hS2]; exact ⟨⟨hc5, bA5⟩, bB5⟩
                    refine wpTill_v 21 (v := ?_) rfl hS5w (Or.inl ⟨by rfl, ?_⟩) ?_
                    rotate_left
                    · (intro _ _; go_simp; try with_reducible rfl)
                    simp only [Act.put, List.setIfInBounds_toArray, List.set_cons_zero, List.set_cons_succ]
                    refine wpTill_done (by kernel_rfl) ?_ _
                    go_wp2_with fail
                    go_meet
                    case rel =>
                      refine ⟨A13, _, c13, rfl, by show _ = _; rw [hDl1], ?_, hk5⟩
                      rw [u8s_append]
                      exact ho13
                  exact AllTill.nil
                exact AllTill.nil
              refine AllTill.consL (i := 19) rfl (fun K hK => ?_) ?_
              · have HK := Lib.hid hK
                clear hK
                have bC3 := Blk.new W2 5 [.int .u8 (xb : Int)]
                have nk : Kept W2 (W2.alloc (.cells #[.int .u8 (xb : Int)] 5)) := (Keep.refl _ _).alloc _
                obtain ⟨nC, hnC⟩ : ∃ x, x = W2.heap.size := ⟨_, rfl⟩
                obtain ⟨W3, hW3⟩ : ∃ x, x = W2.alloc (.cells #[.int .u8 (xb : Int)] 5) := ⟨_, rfl⟩
                rw [← hnC] at bC3
                rw [← hW3] at bC3 nk
                have hk3 := hk2.trans nk
                have hc3 := hk3.cell hc6 (fun h => h)
                have bA3 := bA2.kept nk
                have bB3 := bB2.kept nk
                go_simp
                rw [← hnC, ← hW3]
                refine HK.out _ _ (fun _ => by rw [hS2]; exact ⟨⟨hc3, bA3⟩, bB3⟩) ?_
                clear HK K
                clear hnC hW3 nk
                simp only [List.setIfInBounds_toArray, List.set_cons_zero, List.set_cons_succ]
                refine wpTill_ready [15] (by kernel_rfl) (by simp) ?_
                refine AllTill.consL (i := 15) rfl (fun K hK => ?_) ?_
                · have HK := Lib.hid hK
                  clear hK
                  go_simp
                  go_at_call 91
                  refine (Hlow1.out _).mono ?_
                  rintro e W4 ⟨A12, c12, rfl, ho12, nk⟩
                  have ho4 := own_mono ho12 hk3.size
                  have hk4 := hk3.trans nk
                  have hc4 := hk4.cell hc6 (fun h => h)
                  have bA4 := bA3.kept nk
                  have bB4 := bB3.kept nk
                  have bC4 := bC3.kept nk
                  refine HK.out _ _ (fun _ => by rw [hS2]; exact ⟨⟨hc4, bA4⟩, bB4⟩) ?_
                  clear HK K
                  clear nk
                  simp only [List.setIfInBounds_toArray, List.set_cons_zero, List.set_cons_succ]
                  refine wpTill_ready [20] (by kernel_rfl) (by simp) ?_
                  refine AllTill.consL (i := 20) rfl (fun K hK => ?_) ?_
                  · have HK := Lib.hid hK
                    clear hK
                    refine step_app rfl _ _ (by rfl) elByte w6.heap.size _ _ _ (by rfl) ho4 1 [.int .u8 (xb : Int)] (src_blk (size := 1) Tryd.underlying22 bC4 1 1 (by simp) (by simp [Value.oneCell'])) (by unfold maxLen; omega) (by omega) hk4.size ?_
                    intro A13 c13 W5 ho13 hg13 _
                    have hk5 : Kept w6 W5 := hk4.grown hg13 (fun j hj => .inr (ho4.lt j hj).1)
                    have hc5 := hk5.cell hc6 (fun h => h)
                    have bA5 := blk_grown bA4 hg13 (own_ne ho4 bA4 (by decide))
                    have bB5 := blk_grown bB4 hg13 (own_ne ho4 bB4 (by decide))
                    refine HK.out _ _ (fun _ => by rw [hS2]; exact ⟨⟨hc5, bA5⟩, bB5⟩) ?_
                    clear HK K
                    simp only [Act.put, List.setIfInBounds_toArray, List.set_cons_zero, List.set_cons_succ]
                    have hS5w : S2 W5 := by rw [hS2]; exact ⟨⟨hc5, bA5⟩, bB5⟩
                    refine wpTill_v 21 (v := ?_) rfl hS5w (Or.inl ⟨by rfl, ?_⟩) ?_
                    rotate_left
                    · (intro _ _; go_simp; try with_reducible rfl)
                    simp only [Act.put, List.setIfInBounds_toArray, List.set_cons_zero, List.set_cons_succ]
                    refine wpTill_done (by kernel_rfl) ?_ _
                    go_wp2_with fail
                    go_meet
                    case rel =>
                      refine ⟨A13, _, c13, rfl, by show _ = _; rw [hDl1], ?_, hk5⟩
                      rw [u8s_append]
                      exact ho13
                  exact AllTill.nil
                exact AllTill.nil
              exact AllTill.nil
            refine AllTill.consL (i := 19) rfl (fun K hK => ?_) ?_
            · have HK := Lib.hid hK
              clear hK
              have bC2 := Blk.new W1 5 [.int .u8 (xb : Int)]
              have nk : Kept W1 (W1.alloc (.cells #[.int .u8 (xb : Int)] 5)) := (Keep.refl _ _).alloc _
              obtain ⟨nC, hnC⟩ : ∃ x, x = W1.heap.size := ⟨_, rfl⟩
              obtain ⟨W2, hW2⟩ : ∃ x, x = W1.alloc (.cells #[.int .u8 (xb : Int)] 5) := ⟨_, rfl⟩
              rw [← hnC] at bC2
              rw [← hW2] at bC2 nk
              have hk2 := hk1.trans nk
              have hc2 := hk2.cell hc6 (fun h => h)
              have bA2 := bA1.kept nk
              go_simp
              rw [← hnC, ← hW2]
              refine HK.out _ _ (fun _ => by rw [hS1]; exact ⟨hc2, bA2⟩) ?_
              clear HK K
              clear hnC hW2 nk
              simp only [List.setIfInBounds_toArray, List.set_cons_zero, List.set_cons_succ]
              refine wpTill_ready [6] (by kernel_rfl) (by simp) ?_
              refine AllTill.consL (i := 6) rfl (fun K hK => ?_) ?_
              · have HK := Lib.hid hK
                clear hK
                have bB3 := Blk.new W2 3 [.int .i64 0, .int .i64 1, .int .i64 3]
                have nk : Kept W2 (W2.alloc (.cells #[.int .i64 0, .int .i64 1, .int .i64 3] 3)) := (Keep.refl _ _).alloc _
                obtain ⟨nB, hnB⟩ : ∃ x, x = W2.heap.size := ⟨_, rfl⟩
                obtain ⟨W3, hW3⟩ : ∃ x, x = W2.alloc (.cells #[.int .i64 0, .int .i64 1, .int .i64 3] 3) := ⟨_, rfl⟩
                rw [← hnB] at bB3
                rw [← hW3] at bB3 nk
                have hk3 := hk2.trans nk
                have hc3 := hk3.cell hc6 (fun h => h)
                have bA3 := bA2.kept nk
                have bC3 := bC2.kept nk
                go_simp
                rw [← hnB, ← hW3]
                refine HK.out _ _ (fun _ => by rw [hS1]; exact ⟨hc3, bA3⟩) ?_
                clear HK K
                clear hnB hW3 nk
                simp only [List.setIfInBounds_toArray, List.set_cons_zero, List.set_cons_succ]
                obtain ⟨S3, hS3⟩ : ∃ S : World → Prop, S = fun w' => ((w'.cell? ⟨ga, oa, none⟩ = some (.int .u8 (xb : Int))) ∧ Blk w' nA 3 [.int .i64 3, .int .i64 4, .int .i64 4]) ∧ Blk w' nB 3 [.int .i64 0, .int .i64 1, .int .i64 3] := ⟨_, rfl⟩
                refine wpTill_strong (S' := S3) (fun w h => by rw [hS3] at h; rw [hS1]; exact h.1) _ _ _ _ ?_
                have hS3w : S3 W3 := by rw [hS3]; exact ⟨⟨hc3, bA3⟩, bB3⟩
                refine wpTill_v 8 (v := ?_) rfl hS3w (Or.inl ⟨by rfl, ?_⟩) ?_
                rotate_left
                · (intro _ _; go_simp; try with_reducible rfl)
                simp only [Act.put, List.setIfInBounds_toArray, List.set_cons_zero, List.set_cons_succ]
                refine wpTill_t 9 (v := ?_) rfl hS3w (Or.inl ⟨by rfl, ?_⟩) ?_
                rotate_left
                · (intro w9 hSw; rw [hS3] at hSw; have g0 := hgB _ _ hSw.2; have gl := hSw.2.lt; go_simp; try with_reducible rfl)
                simp only [Act.put, List.setIfInBounds_toArray, List.set_cons_zero, List.set_cons_succ]
                refine wpTill_v 10 (v := ?_) rfl hS3w (Or.inl ⟨by rfl, ?_⟩) ?_
                rotate_left
                · (intro _ _; go_simp; try with_reducible rfl)
                simp only [Act.put, List.setIfInBounds_toArray, List.set_cons_zero, List.set_cons_succ]
                refine wpTill_v 11 (v := ?_) rfl hS3w (Or.inl ⟨by rfl, ?_⟩) ?_
                rotate_left
                · (intro _ _; go_simp; try with_reducible rfl)
                simp only [Act.put, List.setIfInBounds_toArray, List.set_cons_zero, List.set_cons_succ]
                refine wpTill_v 12 (v := ?_) rfl hS3w (Or.inl ⟨by rfl, ?_⟩) ?_
                rotate_left
                · (intro _ _; go_simp; try with_reducible rfl)
                simp only [Act.put, List.setIfInBounds_toArray, List.set_cons_zero, List.set_cons_succ]
                refine wpTill_v 13 (v := ?_) rfl hS3w (Or.inl ⟨by rfl, ?_⟩) ?_
                rotate_left
                · (intro _ _; go_simp; try with_reducible rfl)
                simp only [Act.put, List.setIfInBounds_toArray, List.set_cons_zero, List.set_cons_succ]
                refine wpTill_ready [15] (by kernel_rfl) (by simp) ?_
                refine AllTill.consL (i := 15) rfl (fun K hK => ?_) ?_
                · have HK := Lib.hid hK
                  clear hK
                  go_simp
                  go_at_call 91
                  refine (Hlow1.out _).mono ?_
                  rintro e W4 ⟨A12, c12, rfl, ho12, nk⟩
                  have ho4 := own_mono ho12 hk3.size
                  have hk4 := hk3.trans nk
                  have hc4 := hk4.cell hc6 (fun h => h)
                  have bA4 := bA3.kept nk
                  have bC4 := bC3.kept nk
                  have bB4 := bB3.kept nk
                  refine HK.out _ _ (fun _ => by rw [hS3]; exact ⟨⟨hc4, bA4⟩, bB4⟩) ?_
                  clear HK K
                  clear nk
                  simp only [List.setIfInBounds_toArray, List.set_cons_zero, List.set_cons_succ]
                  refine wpTill_ready [20] (by kernel_rfl) (by simp) ?_
                  refine AllTill.consL (i := 20) rfl (fun K hK => ?_) ?_
                  · have HK := Lib.hid hK
                    clear hK
                    refine step_app rfl _ _ (by rfl) elByte w6.heap.size _ _ _ (by rfl) ho4 1 [.int .u8 (xb : Int)] (src_blk (size := 1) Tryd.underlying22 bC4 1 1 (by simp) (by simp [Value.oneCell'])) (by unfold maxLen; omega) (by omega) hk4.size ?_
                    intro A13 c13 W5 ho13 hg13 _
                    have hk5 : Kept w6 W5 := hk4.grown hg13 (fun j hj => .inr (ho4.lt j hj).1)
                    have hc5 := hk5.cell hc6 (fun h => h)
                    have bA5 := blk_grown bA4 hg13 (own_ne ho4 bA4 (by decide))
                    have bB5 := blk_grown bB4 hg13 (own_ne ho4 bB4 (by decide))
                    refine HK.out _ _ (fun _ => by rw [hS3]; exact ⟨⟨hc5, bA5⟩, bB5⟩) ?_
                    clear HK K
                    simp only [Act.put, List.setIfInBounds_toArray, List.set_cons_zero, List.set_cons_succ]
                    have hS5w : S3 W5 := by rw [hS3]; exact ⟨⟨hc5, bA5⟩, bB5⟩
                    refine wpTill_v 21 (v := ?_) rfl hS5w (Or.inl ⟨by rfl, ?_⟩) ?_
                    rotate_left
                    · (intro _ _; go_simp; try with_reducible rfl)
                    simp only [Act.put, List.setIfInBounds_toArray, List.set_cons_zero, List.set_cons_succ]
                    refine wpTill_done (by kernel_rfl) ?_ _
                    go_wp2_with fail
                    go_meet
                    case rel =>
                      refine ⟨A13, _, c13, rfl, by show _ = _; rw [hDl1], ?_, hk5⟩
                      rw [u8s_append]
                      exact ho13
                  exact AllTill.nil
                exact AllTill.nil
              exact AllTill.nil
            exact AllTill.nil
          refine AllTill.consL (i := 6) rfl (fun K hK => ?_) ?_
          · have HK := Lib.hid hK
            clear hK
            have bB1 := Blk.new W0 3 [.int .i64 0, .int .i64 1, .int .i64 3]
            have nk : Kept W0 (W0.alloc (.cells #[.int .i64 0, .int .i64 1, .int .i64 3] 3)) := (Keep.refl _ _).alloc _
            obtain ⟨nB, hnB⟩ : ∃ x, x = W0.heap.size := ⟨_, rfl⟩
            obtain ⟨W1, hW1⟩ : ∃ x, x = W0.alloc (.cells #[.int .i64 0, .int .i64 1, .int .i64 3] 3) := ⟨_, rfl⟩
            rw [← hnB] at bB1
            rw [← hW1] at bB1 nk
            have hk1 := hk0.trans nk
            have hc1 := hk1.cell hc6 (fun h => h)
            go_simp
            rw [← hnB, ← hW1]
            refine HK.out _ _ (fun _ => by rw [hS0]; exact hc1) ?_
            clear HK K
            clear hnB hW1 nk
            simp only [List.setIfInBounds_toArray, List.set_cons_zero, List.set_cons_succ]
            obtain ⟨S1, hS1⟩ : ∃ S : World → Prop, S = fun w' => (w'.cell? ⟨ga, oa, none⟩ = some (.int .u8 (xb : Int))) ∧ Blk w' nB 3 [.int .i64 0, .int .i64 1, .int .i64 3] := ⟨_, rfl⟩
            refine wpTill_strong (S' := S1) (fun w h => by rw [hS1] at h; rw [hS0]; exact h.1) _ _ _ _ ?_
            have hS1w : S1 W1 := by rw [hS1]; exact ⟨hc1, bB1⟩
            refine wpTill_v 8 (v := ?_) rfl hS1w (Or.inl ⟨by rfl, ?_⟩) ?_
            rotate_left
            · (intro _ _; go_simp; try with_reducible rfl)
            simp only [Act.put, List.setIfInBounds_toArray, List.set_cons_zero, List.set_cons_succ]
            refine wpTill_t 9 (v := ?_) rfl hS1w (Or.inl ⟨by rfl, ?_⟩) ?_
            rotate_left
            · (intro w9 hSw; rw [hS1] at hSw; have g0 := hgB _ _ hSw.2; have gl := hSw.2.lt; go_simp; try with_reducible rfl)
            simp only [Act.put, List.setIfInBounds_toArray, List.set_cons_zero, List.set_cons_succ]
            refine wpTill_v 10 (v := ?_) rfl hS1w (Or.inl ⟨by rfl, ?_⟩) ?_
            rotate_left
            · (intro _ _; go_simp; try with_reducible rfl)
            simp only [Act.put, List.setIfInBounds_toArray, List.set_cons_zero, List.set_cons_succ]
            refine wpTill_ready [1, 19] (by kernel_rfl) (by simp) ?_
            refine AllTill.consL (i := 1) rfl (fun K hK => ?_) ?_
            · have HK := Lib.hid hK
              clear hK
              have bA2 := Blk.new W1 3 [.int .i64 3, .int .i64 4, .int .i64 4]
              have nk : Kept W1 (W1.alloc (.cells #[.int .i64 3, .int .i64 4, .int .i64 4] 3)) := (Keep.refl _ _).alloc _
              obtain ⟨nA, hnA⟩ : ∃ x, x = W1.heap.size := ⟨_, rfl⟩
              obtain ⟨W2, hW2⟩ : ∃ x, x = W1.alloc (.cells #[.int .i64 3, .int .i64 4, .int .i64 4] 3) := ⟨_, rfl⟩
              rw [← hnA] at bA2
              rw [← hW2] at bA2 nk
              have hk2 := hk1.trans nk
              have hc2 := hk2.cell hc6 (fun h => h)
              have bB2 := bB1.kept nk
              go_simp
              rw [← hnA, ← hW2]
              refine HK.out _ _ (fun _ => by rw [hS1]; exact ⟨hc2, bB2⟩) ?_
              clear HK K
              clear hnA hW2 nk
              simp only [List.setIfInBounds_toArray, List.set_cons_zero, List.set_cons_succ]
              obtain ⟨S2, hS2⟩ : ∃ S : World → Prop, S = fun w' => ((w'.cell? ⟨ga, oa, none⟩ = some (.int .u8 (xb : Int))) ∧ Blk w' nB 3 [.int .i64 0, .int .i64 1, .int .i64 3]) ∧ Blk w' nA 3 [.int .i64 3, .int .i64 4, .int .i64 4] := ⟨_, rfl⟩
              refine wpTill_strong (S' := S2) (fun w h => by rw [hS2] at h; rw [hS1]; exact h.1) _ _ _ _ ?_
              have hS2w : S2 W2 := by rw [hS2]; exact ⟨⟨hc2, bB2⟩, bA2⟩
              refine wpTill_v 3 (v := ?_) rfl hS2w (Or.inl ⟨by rfl, ?_⟩) ?_
              rotate_left
              · (intro _ _; go_simp; try with_reducible rfl)
              simp only [Act.put, List.setIfInBounds_toArray, List.set_cons_zero, List.set_cons_succ]
              refine wpTill_t 4 (v := ?_) rfl hS2w (Or.inl ⟨by rfl, ?_⟩) ?_
              rotate_left
              · (intro w9 hSw; rw [hS2] at hSw; have g0 := hgA _ _ hSw.2; have gl := hSw.2.lt; go_simp; try with_reducible rfl)
              simp only [Act.put, List.setIfInBounds_toArray, List.set_cons_zero, List.set_cons_succ]
              refine wpTill_v 5 (v := ?_) rfl hS2w (Or.inl ⟨by rfl, ?_⟩) ?_
              rotate_left
              · (intro _ _; go_simp; try with_reducible rfl)
              simp only [Act.put, List.setIfInBounds_toArray, List.set_cons_zero, List.set_cons_succ]
              refine wpTill_v 11 (v := ?_) rfl hS2w (Or.inl ⟨by rfl, ?_⟩) ?_
              rotate_left
              · (intro _ _; go_simp; try with_reducible rfl)
              simp only [Act.put, List.setIfInBounds_toArray, List.set_cons_zero, List.set_cons_succ]
              refine wpTill_v 12 (v := ?_) rfl hS2w (Or.inl ⟨by rfl, ?_⟩) ?_
              rotate_left
              · (intro _ _; go_simp; try with_reducible rfl)
              simp only [Act.put, List.setIfInBounds_toArray, List.set_cons_zero, List.set_cons_succ]
              refine wpTill_v 13 (v := ?_) rfl hS2w (Or.inl ⟨by rfl, ?_⟩) ?_
              rotate_left
              · (intro _ _; go_simp; try with_reducible rfl)
              simp only [Act.put, List.setIfInBounds_toArray, List.set_cons_zero, List.set_cons_succ]
              refine wpTill_ready [15, 19] (by kernel_rfl) (by simp) ?_
              refine AllTill.consL (i := 15) rfl (fun K hK => ?_) ?_
              · have HK := Lib.hid hK
                clear hK
                go_simp
                go_at_call 91
                refine (Hlow1.out _).mono ?_
                rintro e W3 ⟨A12, c12, rfl, ho12, nk⟩
                have ho3 := own_mono ho12 hk2.size
                have hk3 := hk2.trans nk
                have hc3 := hk3.cell hc6 (fun h => h)
                have bB3 := bB2.kept nk
                have bA3 := bA2.kept nk
                refine HK.out _ _ (fun _ => by rw [hS2]; exact ⟨⟨hc3, bB3⟩, bA3⟩) ?_
                clear HK K
                clear nk
                simp only [List.setIfInBounds_toArray, List.set_cons_zero, List.set_cons_succ]
                refine wpTill_ready [19] (by kernel_rfl) (by simp) ?_
                refine AllTill.consL (i := 19) rfl (fun K hK => ?_) ?_
                · have HK := Lib.hid hK
                  clear hK
                  have bC4 := Blk.new W3 5 [.int .u8 (xb : Int)]
                  have nk : Kept W3 (W3.alloc (.cells #[.int .u8 (xb : Int)] 5)) := (Keep.refl _ _).alloc _
                  obtain ⟨nC, hnC⟩ : ∃ x, x = W3.heap.size := ⟨_, rfl⟩
                  obtain ⟨W4, hW4⟩ : ∃ x, x = W3.alloc (.cells #[.int .u8 (xb : Int)] 5) := ⟨_, rfl⟩
                  rw [← hnC] at bC4
                  rw [← hW4] at bC4 nk
                  have hk4 := hk3.trans nk
                  have hc4 := hk4.cell hc6 (fun h => h)
                  have bB4 := bB3.kept nk
                  have bA4 := bA3.kept nk
                  have ho4 := own_kept ho3 nk
                  go_simp
                  rw [← hnC, ← hW4]
                  refine HK.out _ _ (fun _ => by rw [hS2]; exact ⟨⟨hc4, bB4⟩, bA4⟩) ?_
                  clear HK K
                  clear hnC hW4 nk
                  simp only [List.setIfInBounds_toArray, List.set_cons_zero, List.set_cons_succ]
                  refine wpTill_ready [20] (by kernel_rfl) (by simp) ?_
                  refine AllTill.consL (i := 20) rfl (fun K hK => ?_) ?_
                  · have HK := Lib.hid hK
                    clear hK
                    refine step_app rfl _ _ (by rfl) elByte w6.heap.size _ _ _ (by rfl) ho4 1 [.int .u8 (xb : Int)] (src_blk (size := 1) Tryd.underlying22 bC4 1 1 (by simp) (by simp [Value.oneCell'])) (by unfold maxLen; omega) (by omega) hk4.size ?_
                    intro A13 c13 W5 ho13 hg13 _
                    have hk5 : Kept w6 W5 := hk4.grown hg13 (fun j hj => .inr (ho4.lt j hj).1)
                    have hc5 := hk5.cell hc6 (fun h => h)
                    have bA5 := blk_grown bA4 hg13 (own_ne ho4 bA4 (by decide))
                    have bB5 := blk_grown bB4 hg13 (own_ne ho4 bB4 (by decide))
                    refine HK.out _ _ (fun _ => by rw [hS2]; exact ⟨⟨hc5, bB5⟩, bA5⟩) ?_
                    clear HK K
                    simp only [Act.put, List.setIfInBounds_toArray, List.set_cons_zero, List.set_cons_succ]
                    have hS5w : S2 W5 := by rw [hS2]; exact ⟨⟨hc5, bB5⟩, bA5⟩
                    refine wpTill_v 21 (v := ?_) rfl hS5w (Or.inl ⟨by rfl, ?_⟩) ?_
                    rotate_left
                    · (intro _ _; go_simp; try with_reducible rfl)
                    simp only [Act.put, List.setIfInBounds_toArray, List.set_cons_zero, List.set_cons_succ]
                    refine wpTill_done (by kernel_rfl) ?_ _
                    go_wp2_with fail
                    go_meet
                    case rel =>
                      refine ⟨A13, _, c13, rfl, by show _ = _; rw [hDl1], ?_, hk5⟩
                      rw [u8s_append]
                      exact ho13
                  exact AllTill.nil
                exact AllTill.nil
              refine AllTill.consL (i := 19) rfl (fun K hK => ?_) ?_
              · have HK := Lib.hid hK
                clear hK
                have bC3 := Blk.new W2 5 [.int .u8 (xb : Int)]
                have nk : Kept W2 (W2.alloc (.cells #[.int .u8 (xb : Int)] 5)) := (Keep.refl _ _).alloc _
                obtain ⟨nC, hnC⟩ : ∃ x, x = W2.heap.size := ⟨_, rfl⟩
                obtain ⟨W3, hW3⟩ : ∃ x, x = W2.alloc (.cells #[.int .u8 (xb : Int)] 5) := ⟨_, rfl⟩
                rw [← hnC] at bC3
                rw [← hW3] at bC3 nk
                have hk3 := hk2.trans nk
                have hc3 := hk3.cell hc6 (fun h => h)
                have bB3 := bB2.kept nk
                have bA3 := bA2.kept nk
                go_simp
                rw [← hnC, ← hW3]
                refine HK.out _ _ (fun _ => by rw [hS2]; exact ⟨⟨hc3, bB3⟩, bA3⟩) ?_
                clear HK K
                clear hnC hW3 nk
                simp only [List.setIfInBounds_toArray, List.set_cons_zero, List.set_cons_succ]
                refine wpTill_ready [15] (by kernel_rfl) (by simp) ?_
                refine AllTill.consL (i := 15) rfl (fun K hK => ?_) ?_
                · have HK := Lib.hid hK
                  clear hK
                  go_simp
                  go_at_call 91
                  refine (Hlow1.out _).mono ?_
                  rintro e W4 ⟨A12, c12, rfl, ho12, nk⟩
                  have ho4 := own_mono ho12 hk3.size
                  have hk4 := hk3.trans nk
                  have hc4 := hk4.cell hc6 (fun h => h)
                  have bB4 := bB3.kept nk
                  have bA4 := bA3.kept nk
                  have bC4 := bC3.kept nk
                  refine HK.out _ _ (fun _ => by rw [hS2]; exact ⟨⟨hc4, bB4⟩, bA4⟩) ?_
                  clear HK K
                  clear nk
                  simp only [List.setIfInBounds_toArray, List.set_cons_zero, List.set_cons_succ]
                  refine wpTill_ready [20] (by kernel_rfl) (by simp) ?_
                  refine AllTill.consL (i := 20) rfl (fun K hK => ?_) ?_
                  · have HK := Lib.hid hK
                    clear hK
                    refine step_app rfl _ _ (by rfl) elByte w6.heap.size _ _ _ (by rfl) ho4 1 [.int .u8 (xb : Int)] (src_blk (size := 1) Tryd.underlying22 bC4 1 1 (by simp) (by simp [Value.oneCell'])) (by unfold maxLen; omega) (by omega) hk4.size ?_
                    intro A13 c13 W5 ho13 hg13 _
                    have hk5 : Kept w6 W5 := hk4.grown hg13 (fun j hj => .inr (ho4.lt j hj).1)
                    have hc5 := hk5.cell hc6 (fun h => h)
                    have bA5 := blk_grown bA4 hg13 (own_ne ho4 bA4 (by decide))
                    have bB5 := blk_grown bB4 hg13 (own_ne ho4 bB4 (by decide))
                    refine HK.out _ _ (fun _ => by rw [hS2]; exact ⟨⟨hc5, bB5⟩, bA5⟩) ?_
                    clear HK K
                    simp only [Act.put, List.setIfInBounds_toArray, List.set_cons_zero, List.set_cons_succ]
                    have hS5w : S2 W5 := by rw [hS2]; exact ⟨⟨hc5, bB5⟩, bA5⟩
                    refine wpTill_v 21 (v := ?_) rfl hS5w (Or.inl ⟨by rfl, ?_⟩) ?_
                    rotate_left
                    · (intro _ _; go_simp; try with_reducible rfl)
                    simp only [Act.put, List.setIfInBounds_toArray, List.set_cons_zero, List.set_cons_succ]
                    refine wpTill_done (by kernel_rfl) ?_ _
                    go_wp2_with fail
                    go_meet
                    case rel =>
                      refine ⟨A13, _, c13, rfl, by show _ = _; rw [hDl1], ?_, hk5⟩
                      rw [u8s_append]
                      exact ho13
                  exact AllTill.nil
                exact AllTill.nil
              exact AllTill.nil
            refine AllTill.consL (i := 19) rfl (fun K hK => ?_) ?_
            · have HK := Lib.hid hK
              clear hK
              have bC2 := Blk.new W1 5 [.int .u8 (xb : Int)]
              have nk : Kept W1 (W1.alloc (.cells #[.int .u8 (xb : Int)] 5)) := (Keep.refl _ _).alloc _
              obtain ⟨nC, hnC⟩ : ∃ x, x = W1.heap.size := ⟨_, rfl⟩
              obtain ⟨W2, hW2⟩ : ∃ x, x = W1.alloc (.cells #[.int .u8 (xb : Int)] 5) := ⟨_, rfl⟩
              rw [← hnC] at bC2
              rw [← hW2] at bC2 nk
              have hk2 := hk1.trans nk
              have hc2 := hk2.cell hc6 (fun h => h)
              have bB2 := bB1.kept nk
              go_simp
              rw [← hnC, ← hW2]
              refine HK.out _ _ (fun _ => by rw [hS1]; exact ⟨hc2, bB2⟩) ?_
              clear HK K
              clear hnC hW2 nk
              simp only [List.setIfInBounds_toArray, List.set_cons_zero, List.set_cons_succ]
              refine wpTill_ready [1] (by kernel_rfl) (by simp) ?_
              refine AllTill.consL (i := 1) rfl (fun K hK => ?_) ?_
              · have HK := Lib.hid hK
                clear hK
                have bA3 := Blk.new W2 3 [.int .i64 3, .int .i64 4, .int .i64 4]
                have nk : Kept W2 (W2.alloc (.cells #[.int .i64 3, .int .i64 4, .int .i64 4] 3)) := (Keep.refl _ _).alloc _
                obtain ⟨nA, hnA⟩ : ∃ x, x = W2.heap.size := ⟨_, rfl⟩
                obtain ⟨W3, hW3⟩ : ∃ x, x = W2.alloc (.cells #[.int .i64 3, .int .i64 4, .int .i64 4] 3) := ⟨_, rfl⟩
                rw [← hnA] at bA3
                rw [← hW3] at bA3 nk
                have hk3 := hk2.trans nk
                have hc3 := hk3.cell hc6 (fun h => h)
                have bB3 := bB2.kept nk
                have bC3 := bC2.kept nk
                go_simp
                rw [← hnA, ← hW3]
                refine HK.out _ _ (fun _ => by rw [hS1]; exact ⟨hc3, bB3⟩) ?_
                clear HK K
                clear hnA hW3 nk
                simp only [List.setIfInBounds_toArray, List.set_cons_zero, List.set_cons_succ]
                obtain ⟨S3, hS3⟩ : ∃ S : World → Prop, S = fun w' => ((w'.cell? ⟨ga, oa, none⟩ = some (.int .u8 (xb : Int))) ∧ Blk w' nB 3 [.int .i64 0, .int .i64 1, .int .i64 3]) ∧ Blk w' nA 3 [.int .i64 3, .int .i64 4, .int .i64 4] := ⟨_, rfl⟩
                refine wpTill_strong (S' := S3) (fun w h => by rw [hS3] at h; rw [hS1]; exact h.1) _ _ _ _ ?_
                have hS3w : S3 W3 := by rw [hS3]; exact ⟨⟨hc3, bB3⟩, bA3⟩
                refine wpTill_v 3 (v := ?_) rfl hS3w (Or.inl ⟨by rfl, ?_⟩) ?_
                rotate_left
                · (intro _ _; go_simp; try with_reducible rfl)
                simp only [Act.put, List.setIfInBounds_toArray, List.set_cons_zero, List.set_cons_succ]
                refine wpTill_t 4 (v := ?_) rfl hS3w (Or.inl ⟨by rfl, ?_⟩) ?_
                rotate_left
                · (intro w9 hSw; rw [hS3] at hSw; have g0 := hgA _ _ hSw.2; have gl := hSw.2.lt; go_simp; try with_reducible rfl)
                simp only [Act.put, List.setIfInBounds_toArray, List.set_cons_zero, List.set_cons_succ]
                refine wpTill_v 5 (v := ?_) rfl hS3w (Or.inl ⟨by rfl, ?_⟩) ?_
                rotate_left
                · (intro _ _; go_simp; try with_reducible rfl)
                simp only [Act.put, List.setIfInBounds_toArray, List.set_cons_zero, List.set_cons_succ]
                refine wpTill_v 11 (v := ?_) rfl hS3w (Or.inl ⟨by rfl, ?_⟩) ?_
                rotate_left
                · (intro _ _; go_simp; try with_reducible rfl)
                simp only [Act.put, List.setIfInBounds_toArray, List.set_cons_zero, List.set_cons_succ]
                refine wpTill_v 12 (v := ?_) rfl hS3w (Or.inl ⟨by rfl, ?_⟩) ?_
                rotate_left
                · (intro _ _; go_simp; try with_reducible rfl)
                simp only [Act.put, List.setIfInBounds_toArray, List.set_cons_zero, List.set_cons_succ]
                refine wpTill_v 13 (v := ?_) rfl hS3w (Or.inl ⟨by rfl, ?_⟩) ?_
                rotate_left
                · (intro _ _; go_simp; try with_reducible rfl)
                simp only [Act.put, List.setIfInBounds_toArray, List.set_cons_zero, List.set_cons_succ]
                refine wpTill_ready [15] (by kernel_rfl) (by simp) ?_
                refine AllTill.consL (i := 15) rfl (fun K hK => ?_) ?_
                · have HK := Lib.hid hK
                  clear hK
                  go_simp
                  go_at_call 91
                  refine (Hlow1.out _).mono ?_
                  rintro e W4 ⟨A12, c12, rfl, ho12, nk⟩
                  have ho4 := own_mono ho12 hk3.size
                  have hk4 := hk3.trans nk
                  have hc4 := hk4.cell hc6 (fun h => h)
                  have bB4 := bB3.kept nk
                  have bC4 := bC3.kept nk
                  have bA4 := bA3.kept nk
                  refine HK.out _ _ (fun _ => by rw [hS3]; exact ⟨⟨hc4, bB4⟩, bA4⟩) ?_
                  clear HK K
                  clear nk
                  simp only [List.setIfInBounds_toArray, List.set_cons_zero, List.set_cons_succ]
                  refine wpTill_ready [20] (by kernel_rfl) (by simp) ?_
                  refine AllTill.consL (i := 20) rfl (fun K hK => ?_) ?_
                  · have HK := Lib.hid hK
                    clear hK
                    refine step_app rfl _ _ (by rfl) elByte w6.heap.size _ _ _ (by rfl) ho4 1 [.int .u8 (xb : Int)] (src_blk (size := 1) Tryd.underlying22 bC4 1 1 (by simp) (by simp [Value.oneCell'])) (by unfold maxLen; omega) (by omega) hk4.size ?_
                    intro A13 c13 W5 ho13 hg13 _
                    have hk5 : Kept w6 W5 := hk4.grown hg13 (fun j hj => .inr (ho4.lt j hj).1)
                    have hc5 := hk5.cell hc6 (fun h => h)
                    have bA5 := blk_grown bA4 hg13 (own_ne ho4 bA4 (by decide))
                    have bB5 := blk_grown bB4 hg13 (own_ne ho4 bB4 (by decide))
                    refine HK.out _ _ (fun _ => by rw [hS3]; exact ⟨⟨hc5, bB5⟩, bA5⟩) ?_
                    clear HK K
                    simp only [Act.put, List.setIfInBounds_toArray, List.set_cons_zero, List.set_cons_succ]
                    have hS5w : S3 W5 := by rw [hS3]; exact ⟨⟨hc5, bB5⟩, bA5⟩
                    refine wpTill_v 21 (v := ?_) rfl hS5w (Or.inl ⟨by rfl, ?_⟩) ?_
                    rotate_left
                    · (intro _ _; go_simp; try with_reducible rfl)
                    simp only [Act.put, List.setIfInBounds_toArray, List.set_cons_zero, List.set_cons_succ]
                    refine wpTill_done (by kernel_rfl) ?_ _
                    go_wp2_with fail
                    go_meet
                    case rel =>
                      refine ⟨A13, _, c13, rfl, by show _ = _; rw [hDl1], ?_, hk5⟩
                      rw [u8s_append]
                      exact ho13
                  exact AllTill.nil
                exact AllTill.nil
              exact AllTill.nil
            exact AllTill.nil
          refine AllTill.consL (i := 19) rfl (fun K hK => ?_) ?_
          · have HK := Lib.hid hK
            clear hK
            have bC1 := Blk.new W0 5 [.int .u8 (xb : Int)]
            have nk : Kept W0 (W0.alloc (.cells #[.int .u8 (xb : Int)] 5)) := (Keep.refl _ _).alloc _
            obtain ⟨nC, hnC⟩ : ∃ x, x = W0.heap.size := ⟨_, rfl⟩
            obtain ⟨W1, hW1⟩ : ∃ x, x = W0.alloc (.cells #[.int .u8 (xb : Int)] 5) := ⟨_, rfl⟩
            rw [← hnC] at bC1
            rw [← hW1] at bC1 nk
            have hk1 := hk0.trans nk
            have hc1 := hk1.cell hc6 (fun h => h)
            go_simp
            rw [← hnC, ← hW1]
            refine HK.out _ _ (fun _ => by rw [hS0]; exact hc1) ?_
            clear HK K
            clear hnC hW1 nk
            simp only [List.setIfInBounds_toArray, List.set_cons_zero, List.set_cons_succ]
            refine wpTill_ready [1, 6] (by kernel_rfl) (by simp) ?_
            refine AllTill.consL (i := 1) rfl (fun K hK => ?_) ?_
            · have HK := Lib.hid hK
              clear hK
              have bA2 := Blk.new W1 3 [.int .i64 3, .int .i64 4, .int .i64 4]
              have nk : Kept W1 (W1.alloc (.cells #[.int .i64 3, .int .i64 4, .int .i64 4] 3)) := (Keep.refl _ _).alloc _
              obtain ⟨nA, hnA⟩ : ∃ x, x = W1.heap.size := ⟨_, rfl⟩
              obtain ⟨W2, hW2⟩ : ∃ x, x = W1.alloc (.cells #[.int .i64 3, .int .i64 4, .int .i64 4] 3) := ⟨_, rfl⟩
              rw [← hnA] at bA2
              rw [← hW2] at bA2 nk
              have hk2 := hk1.trans nk
              have hc2 := hk2.cell hc6 (fun h => h)
              have bC2 := bC1.kept nk
              go_simp
              rw [← hnA, ← hW2]
              refine HK.out _ _ (fun _ => by rw [hS0]; exact hc2) ?_
              clear HK K
              clear hnA hW2 nk
              simp only [List.setIfInBounds_toArray, List.set_cons_zero, List.set_cons_succ]
              obtain ⟨S2, hS2⟩ : ∃ S : World → Prop, S = fun w' => (w'.cell? ⟨ga, oa, none⟩ = some (.int .u8 (xb : Int))) ∧ Blk w' nA 3 [.int .i64 3, .int .i64 4, .int .i64 4] := ⟨_, rfl⟩
              refine wpTill_strong (S' := S2) (fun w h => by rw [hS2] at h; rw [hS0]; exact h.1) _ _ _ _ ?_
              have hS2w : S2 W2 := by rw [hS2]; exact ⟨hc2, bA2⟩
              refine wpTill_v 3 (v := ?_) rfl hS2w (Or.inl ⟨by rfl, ?_⟩) ?_
              rotate_left
              · (intro _ _; go_simp; try with_reducible rfl)
              simp only [Act.put, List.setIfInBounds_toArray, List.set_cons_zero, List.set_cons_succ]
              refine wpTill_t 4 (v := ?_) rfl hS2w (Or.inl ⟨by rfl, ?_⟩) ?_
              rotate_left
              · (intro w9 hSw; rw [hS2] at hSw; have g0 := hgA _ _ hSw.2; have gl := hSw.2.lt; go_simp; try with_reducible rfl)
              simp only [Act.put, List.setIfInBounds_toArray, List.set_cons_zero, List.set_cons_succ]
              refine wpTill_v 5 (v := ?_) rfl hS2w (Or.inl ⟨by rfl, ?_⟩) ?_
              rotate_left
              · (intro _ _; go_simp; try with_reducible rfl)
              simp only [Act.put, List.setIfInBounds_toArray, List.set_cons_zero, List.set_cons_succ]
              refine wpTill_ready [6] (by kernel_rfl) (by simp) ?_
              refine AllTill.consL (i := 6) rfl (fun K hK => ?_) ?_
              · have HK := Lib.hid hK
                clear hK
                have bB3 := Blk.new W2 3 [.int .i64 0, .int .i64 1, .int .i64 3]
                have nk : Kept W2 (W2.alloc (.cells #[.int .i64 0, .int .i64 1, .int .i64 3] 3)) := (Keep.refl _ _).alloc _
                obtain ⟨nB, hnB⟩ : ∃ x, x = W2.heap.size := ⟨_, rfl⟩
                obtain ⟨W3, hW3⟩ : ∃ x, x = W2.alloc (.cells #[.int .i64 0, .int .i64 1, .int .i64 3] 3) := ⟨_, rfl⟩
                rw [← hnB] at bB3
                rw [← hW3] at bB3 nk
                have hk3 := hk2.trans nk
                have hc3 := hk3.cell hc6 (fun h => h)
                have bC3 := bC2.kept nk
                have bA3 := bA2.kept nk
                go_simp
                rw [← hnB, ← hW3]
                refine HK.out _ _ (fun _ => by rw [hS2]; exact ⟨hc3, bA3⟩) ?_
                clear HK K
                clear hnB hW3 nk
                simp only [List.setIfInBounds_toArray, List.set_cons_zero, List.set_cons_succ]
                obtain ⟨S3, hS3⟩ : ∃ S : World → Prop, S = fun w' => ((w'.cell? ⟨ga, oa, none⟩ = some (.int .u8 (xb : Int))) ∧ Blk w' nA 3 [.int .i64 3, .int .i64 4, .int .i64 4]) ∧ Blk w' nB 3 [.int .i64 0, .int .i64 1, .int .i64 3] := ⟨_, rfl⟩
                refine wpTill_strong (S' := S3) (fun w h => by rw [hS3] at h; rw [hS2]; exact h.1) _ _ _ _ ?_
                have hS3w : S3 W3 := by rw [hS3]; exact ⟨⟨hc3, bA3⟩, bB3⟩
                refine wpTill_v 8 (v := ?_) rfl hS3w (Or.inl ⟨by rfl, ?_⟩) ?_
                rotate_left
                · (intro _ _; go_simp; try with_reducible rfl)
                simp only [Act.put, List.setIfInBounds_toArray, List.set_cons_zero, List.set_cons_succ]
                refine wpTill_t 9 (v := ?_) rfl hS3w (Or.inl ⟨by rfl, ?_⟩) ?_
                rotate_left
                · (intro w9 hSw; rw [hS3] at hSw; have g0 := hgB _ _ hSw.2; have gl := hSw.2.lt; go_simp; try with_reducible rfl)
                simp only [Act.put, List.setIfInBounds_toArray, List.set_cons_zero, List.set_cons_succ]
                refine wpTill_v 10 (v := ?_) rfl hS3w (Or.inl ⟨by rfl, ?_⟩) ?_
                rotate_left
                · (intro _ _; go_simp; try with_reducible rfl)
                simp only [Act.put, List.setIfInBounds_toArray, List.set_cons_zero, List.set_cons_succ]
                refine wpTill_v 11 (v := ?_) rfl hS3w (Or.inl ⟨by rfl, ?_⟩) ?_
                rotate_left
                · (intro _ _; go_simp; try with_reducible rfl)
                simp only [Act.put, List.setIfInBounds_toArray, List.set_cons_zero, List.set_cons_succ]
                refine wpTill_v 12 (v := ?_) rfl hS3w (Or.inl ⟨by rfl, ?_⟩) ?_
                rotate_left
                · (intro _ _; go_simp; try with_reducible rfl)
                simp only [Act.put, List.setIfInBounds_toArray, List.set_cons_zero, List.set_cons_succ]
                refine wpTill_v 13 (v := ?_) rfl hS3w (Or.inl ⟨by rfl, ?_⟩) ?_
                rotate_left
                · (intro _ _; go_simp; try with_reducible rfl)
                simp only [Act.put, List.setIfInBounds_toArray, List.set_cons_zero, List.set_cons_succ]
                refine wpTill_ready [15] (by kernel_rfl) (by simp) ?_
                refine AllTill.consL (i := 15) rfl (fun K hK => ?_) ?_
                · have HK := Lib.hid hK
                  clear hK
                  go_simp
                  go_at_call 91
                  refine (Hlow1.out _).mono ?_
                  rintro e W4 ⟨A12, c12, rfl, ho12, nk⟩
                  have ho4 := own_mono ho12 hk3.size
                  have hk4 := hk3.trans nk
                  have hc4 := hk4.cell hc6 (fun h => h)
                  have bC4 := bC3.kept nk
                  have bA4 := bA3.kept nk
                  have bB4 := bB3.kept nk
                  refine HK.out _ _ (fun _ => by rw [hS3]; exact ⟨⟨hc4, bA4⟩, bB4⟩) ?_
                  clear HK K
                  clear nk
                  simp only [List.setIfInBounds_toArray, List.set_cons_zero, List.set_cons_succ]
                  refine wpTill_ready [20] (by kernel_rfl) (by simp) ?_
                  refine AllTill.consL (i := 20) rfl (fun K hK => ?_) ?_
                  · have HK := Lib.hid hK
                    clear hK
                    refine step_app rfl _ _ (by rfl) elByte w6.heap.size _ _ _ (by rfl) ho4 1 [.int .u8 (xb : Int)] (src_blk (size := 1) Tryd.underlying22 bC4 1 1 (by simp) (by simp [Value.oneCell'])) (by unfold maxLen; omega) (by omega) hk4.size ?_
                    intro A13 c13 W5 ho13 hg13 _
                    have hk5 : Kept w6 W5 := hk4.grown hg13 (fun j hj => .inr (ho4.lt j hj).1)
                    have hc5 := hk5.cell hc6 (fun h => h)
                    have bA5 := blk_grown bA4 hg13 (own_ne ho4 bA4 (by decide))
                    have bB5 := blk_grown bB4 hg13 (own_ne ho4 bB4 (by decide))
                    refine HK.out _ _ (fun _ => by rw [hS3]; exact ⟨⟨hc5, bA5⟩, bB5⟩) ?_
                    clear HK K
                    simp only [Act.put, List.setIfInBounds_toArray, List.set_cons_zero, List.set_cons_succ]
                    have hS5w : S3 W5 := by rw [hS3]; exact ⟨⟨hc5, bA5⟩, bB5⟩
                    refine wpTill_v 21 (v := ?_) rfl hS5w (Or.inl ⟨by rfl, ?_⟩) ?_
                    rotate_left
                    · (intro _ _; go_simp; try with_reducible rfl)
                    simp only [Act.put, List.setIfInBounds_toArray, List.set_cons_zero, List.set_cons_succ]
                    refine wpTill_done (by kernel_rfl) ?_ _
                    go_wp2_with fail
                    go_meet
                    case rel =>
                      refine ⟨A13, _, c13, rfl, by show _ = _; rw [hDl1], ?_, hk5⟩
                      rw [u8s_append]
                      exact ho13
                  exact AllTill.nil
                exact AllTill.nil
              exact AllTill.nil
            refine AllTill.consL (i := 6) rfl (fun K hK => ?_) ?_
            · have HK := Lib.hid hK
              clear hK
              have bB2 := Blk.new W1 3 [.int .i64 0, .int .i64 1, .int .i64 3]
              have nk : Kept W1 (W1.alloc (.cells #[.int .i64 0, .int .i64 1, .int .i64 3] 3)) := (Keep.refl _ _).alloc _
              obtain ⟨nB, hnB⟩ : ∃ x, x = W1.heap.size := ⟨_, rfl⟩
              obtain ⟨W2, hW2⟩ : ∃ x, x = W1.alloc (.cells #[.int .i64 0, .int .i64 1, .int .i64 3] 3) := ⟨_, rfl⟩
              rw [← hnB] at bB2
              rw [← hW2] at bB2 nk
              have hk2 := hk1.trans nk
              have hc2 := hk2.cell hc6 (fun h => h)
              have bC2 := bC1.kept nk
              go_simp
              rw [← hnB, ← hW2]
              refine HK.out _ _ (fun _ => by rw [hS0]; exact hc2) ?_
              clear HK K
              clear hnB hW2 nk
              simp only [List.setIfInBounds_toArray, List.set_cons_zero, List.set_cons_succ]
              obtain ⟨S2, hS2⟩ : ∃ S : World → Prop, S = fun w' => (w'.cell? ⟨ga, oa, none⟩ = some (.int .u8 (xb : Int))) ∧ Blk w' nB 3 [.int .i64 0, .int .i64 1, .int .i64 3] := ⟨_, rfl⟩
              refine wpTill_strong (S' := S2) (fun w h => by rw [hS2] at h; rw [hS0]; exact h.1) _ _ _ _ ?_
              have hS2w : S2 W2 := by rw [hS2]; exact ⟨hc2, bB2⟩
              refine wpTill_v 8 (v := ?_) rfl hS2w (Or.inl ⟨by rfl, ?_⟩) ?_
              rotate_left
              · (intro _ _; go_simp; try with_reducible rfl)
              simp only [Act.put, List.setIfInBounds_toArray, List.set_cons_zero, List.set_cons_succ]
              refine wpTill_t 9 (v := ?_) rfl hS2w (Or.inl ⟨by rfl, ?_⟩) ?_
              rotate_left
              · (intro w9 hSw; rw [hS2] at hSw; have g0 := hgB _ _ hSw.2; have gl := hSw.2.lt; go_simp; try with_reducible rfl)
              simp only [Act.put, List.setIfInBounds_toArray, List.set_cons_zero, List.set_cons_succ]
              refine wpTill_v 10 (v := ?_) rfl hS2w (Or.inl ⟨by rfl, ?_⟩) ?_
              rotate_left
              · (intro _ _; go_simp; try with_reducible rfl)
              simp only [Act.put, List.setIfInBounds_toArray, List.set_cons_zero, List.set_cons_succ]
              refine wpTill_ready [1] (by kernel_rfl) (by simp) ?_
              refine AllTill.consL (i := 1) rfl (fun K hK => ?_) ?_
              · have HK := Lib.hid hK
                clear hK
                have bA3 := Blk.new W2 3 [.int .i64 3, .int .i64 4, .int .i64 4]
                have nk : Kept W2 (W2.alloc (.cells #[.int .i64 3, .int .i64 4, .int .i64 4] 3)) := (Keep.refl _ _).alloc _
                obtain ⟨nA, hnA⟩ : ∃ x, x = W2.heap.size := ⟨_, rfl⟩
                obtain ⟨W3, hW3⟩ : ∃ x, x = W2.alloc (.cells #[.int .i64 3, .int .i64 4, .int .i64 4] 3) := ⟨_, rfl⟩
                rw [← hnA] at bA3
                rw [← hW3] at bA3 nk
                have hk3 := hk2.trans nk
                have hc3 := hk3.cell hc6 (fun h => h)
                have bC3 := bC2.kept nk
                have bB3 := bB2.kept nk
                go_simp
                rw [← hnA, ← hW3]
                refine HK.out _ _ (fun _ => by rw [hS2]; exact ⟨hc3, bB3⟩) ?_
                clear HK K
                clear hnA hW3 nk
                simp only [List.setIfInBounds_toArray, List.set_cons_zero, List.set_cons_succ]
                obtain ⟨S3, hS3⟩ : ∃ S : World → Prop, S = fun w' => ((w'.cell? ⟨ga, oa, none⟩ = some (.int .u8 (xb : Int))) ∧ Blk w' nB 3 [.int .i64 0, .int .i64 1, .int .i64 3]) ∧ Blk w' nA 3 [.int .i64 3, .int .i64 4, .int .i64 4] := ⟨_, rfl⟩
                refine wpTill_strong (S' := S3) (fun w h => by rw [hS3] at h; rw [hS2]; exact h.1) _ _ _ _ ?_
                have hS3w : S3 W3 := by rw [hS3]; exact ⟨⟨hc3, bB3⟩, bA3⟩
                refine wpTill_v 3 (v := ?_) rfl hS3w (Or.inl ⟨by rfl, ?_⟩) ?_
                rotate_left
                · (intro _ _; go_simp; try with_reducible rfl)
                simp only [Act.put, List.setIfInBounds_toArray, List.set_cons_zero, List.set_cons_succ]
                refine wpTill_t 4 (v := ?_) rfl hS3w (Or.inl ⟨by rfl, ?_⟩) ?_
                rotate_left
                · (intro w9 hSw; rw [hS3] at hSw; have g0 := hgA _ _ hSw.2; have gl := hSw.2.lt; go_simp; try with_reducible rfl)
                simp only [Act.put, List.setIfInBounds_toArray, List.set_cons_zero, List.set_cons_succ]
                refine wpTill_v 5 (v := ?_) rfl hS3w (Or.inl ⟨by rfl, ?_⟩) ?_
                rotate_left
                · (intro _ _; go_simp; try with_reducible rfl)
                simp only [Act.put, List.setIfInBounds_toArray, List.set_cons_zero, List.set_cons_succ]
                refine wpTill_v 11 (v := ?_) rfl hS3w (Or.inl ⟨by rfl, ?_⟩) ?_
                rotate_left
                · (intro _ _; go_simp; try with_reducible rfl)
                simp only [Act.put, List.setIfInBounds_toArray, List.set_cons_zero, List.set_cons_succ]
                refine wpTill_v 12 (v := ?_) rfl hS3w (Or.inl ⟨by rfl, ?_⟩) ?_
                rotate_left
                · (intro _ _; go_simp; try with_reducible rfl)
                simp only [Act.put, List.setIfInBounds_toArray, List.set_cons_zero, List.set_cons_succ]
                refine wpTill_v 13 (v := ?_) rfl hS3w (Or.inl ⟨by rfl, ?_⟩) ?_
                rotate_left
                · (intro _ _; go_simp; try with_reducible rfl)
                simp only [Act.put, List.setIfInBounds_toArray, List.set_cons_zero, List.set_cons_succ]
                refine wpTill_ready [15] (by kernel_rfl) (by simp) ?_
                refine AllTill.consL (i := 15) rfl (fun K hK => ?_) ?_
                · have HK := Lib.hid hK
                  clear hK
                  go_simp
                  go_at_call 91
                  refine (Hlow1.out _).mono ?_
                  rintro e W4 ⟨A12, c12, rfl, ho12, nk⟩
                  have ho4 := own_mono ho12 hk3.size
                  have hk4 := hk3.trans nk
                  have hc4 := hk4.cell hc6 (fun h => h)
                  have bC4 := bC3.kept nk
                  have bB4 := bB3.kept nk
                  have bA4 := bA3.kept nk
                  refine HK.out _ _ (fun _ => by rw [hS3]; exact ⟨⟨hc4, bB4⟩, bA4⟩) ?_
                  clear HK K
                  clear nk
                  simp only [List.setIfInBounds_toArray, List.set_cons_zero, List.set_cons_succ]
                  refine wpTill_ready [20] (by kernel_rfl) (by simp) ?_
                  refine AllTill.consL (i := 20) rfl (fun K hK => ?_) ?_
                  · have HK := Lib.hid hK
                    clear hK
                    refine step_app rfl _ _ (by rfl) elByte w6.heap.size _ _ _ (by rfl) ho4 1 [.int .u8 (xb : Int)] (src_blk (size := 1) Tryd.underlying22 bC4 1 1 (by simp) (by simp [Value.oneCell'])) (by unfold maxLen; omega) (by omega) hk4.size ?_
                    intro A13 c13 W5 ho13 hg13 _
                    have hk5 : Kept w6 W5 := hk4.grown hg13 (fun j hj => .inr (ho4.lt j hj).1)
                    have hc5 := hk5.cell hc6 (fun h => h)
                    have bA5 := blk_grown bA4 hg13 (own_ne ho4 bA4 (by decide))
                    have bB5 := blk_grown bB4 hg13 (own_ne ho4 bB4 (by decide))
                    refine HK.out _ _ (fun _ => by rw [hS3]; exact ⟨⟨hc5, bB5⟩, bA5⟩) ?_
                    clear HK K
                    simp only [Act.put, List.setIfInBounds_toArray, List.set_cons_zero, List.set_cons_succ]
                    have hS5w : S3 W5 := by rw [hS3]; exact ⟨⟨hc5, bB5⟩, bA5⟩
                    refine wpTill_v 21 (v := ?_) rfl hS5w (Or.inl ⟨by rfl, ?_⟩) ?_
                    rotate_left
                    · (intro _ _; go_simp; try with_reducible rfl)
                    simp only [Act.put, List.setIfInBounds_toArray, List.set_cons_zero, List.set_cons_succ]
                    refine wpTill_done (by kernel_rfl) ?_ _
                    go_wp2_with fail
                    go_meet
                    case rel =>
                      refine ⟨A13, _, c13, rfl, by show _ = _; rw [hDl1], ?_, hk5⟩
                      rw [u8s_append]
                      exact ho13
                  exact AllTill.nil
                exact AllTill.nil
              exact AllTill.nil
            exact AllTill.nil
          exact AllTill.nil
        case rest =>
        obtain ⟨A9, N9, c9, rfl, hN9, ho9, hk9⟩ := hcut
        have hN9b : N9 ≤ 4 := by rw [hN9.out, hDl1]; decide
        go_wp2
        go_ret
        refine ⟨Hkw6.out.kept hk9, A9, N9, c9, D1 ++ [xb], rfl, ?_, by omega, own_mono ho9 hsz6, HD1.out.1.append (fun y hy => by rw [List.mem_singleton.1 hy]; exact hx256), fun tl => ?_⟩
        · show _ = _
          rw [hN9.out, List.length_append]
          rfl
        · have h9 := HD1.out.2 xb tl
          rw [← Htx.out, ← hN9.out] at h9
          rw [List.append_assoc]
          exact h9
      · clear Hlow1 hw6' hDl1 HD1 ho2 hgA hgB
        go_cut [85] from 80 to 85 (fun s85 wx => s85 = .bool false ∧ W8 = wx)
        case first =>
          by_cases hk1 : kd = 1
          · have hu1 : ¬ u = 1 := fun h => hrun ⟨hk1, h⟩
            have hub : ((u : Int) == 1) = false := beq_eq_false_iff_ne.2 (by omega)
            subst hk1
            go_wp2
            go_meet
            case rel => exact ⟨rfl, rfl⟩
          · go_wp2
            go_meet
            case rel => exact ⟨rfl, rfl⟩
        case rest =>
        obtain ⟨rfl, rfl⟩ := hcut
        go_upto_region 24 with (fail)
        go_cut [4] from 107 to 123 (fun s4 wx => ∃ A9 N c9, s4 = .slice A9 N c9 ∧ Hid (N = D.length + i) ∧ wx.ownsRow w6.heap.size 5 1 (.slice A9 N c9) N (u8s (D ++ t)) ∧ Kept w6 wx)
        case first =>
          have hsz8 := hk8.size
          go_region_law (first
            | (go_simp; go_at_call 91; (with_reducible refine (Hlow.out _).mono ?_); rintro e w12 ⟨A12, c12, rfl, ho12, hk12⟩)
            | (refine step_app rfl _ _ (by rfl) elByte _ _ _ _ (by rfl) ho12 i (u8s t) (src_sl Tryd.underlying22 (Hs6.out.kept (((hk8.alloc _).alloc _).drew.trans hk12)) i c (by rw [u8s_length, ← Hnn.out, Nat.mul_one]) (u8s_one t)) (by unfold maxLen; omega) (by omega) hk12.size ?_; intro A13 c13 w13 ho13 hg13 hor13))
          all_goals
            go_wp2_with fail
            go_meet
            case rel =>
              refine ⟨A13, _, c13, rfl, by show _ = _; rw [hDl], ?_, ?_⟩
              · rw [u8s_append]
                exact own_mono ho13 (by simp only [World.size_drew, World.size_alloc]; omega)
              · exact ((((hk8.alloc _).alloc _).drew).trans hk12).grown hg13 (fun j hj => .inr (Nat.le_trans (by simp only [World.size_drew, World.size_alloc]; omega) (ho12.lt j hj).1))
        case rest =>
        obtain ⟨A9, N9, c9, rfl, hN9, ho9, hk9⟩ := hcut
        have hN9b : N9 ≤ 65540 := by rw [hN9.out, hDl]; omega
        go_wp2
        go_ret
        refine ⟨Hkw6.out.kept hk9, A9, N9, c9, D ++ t, rfl, ?_, by omega, own_mono ho9 hsz6, HD.out.1.append Hd.out, fun tl => ?_⟩
        · show _ = _
          rw [hN9.out, List.length_append, ← Hnn.out]
        · have h9 := HD.out.2 t tl Hnn.out
          rw [← hN9.out] at h9
          rw [List.append_assoc]
          exact h9
end Go.Proofs.YtabaholflahepaaDoor
