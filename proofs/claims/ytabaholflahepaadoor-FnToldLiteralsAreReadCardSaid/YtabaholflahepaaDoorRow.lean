/-
  append within the room, and copy, into a block that is known whole (Blk), as laws for the walk: what is put lies in a slice that is known (Sl), cut or not, nil or empty.
-/
import Derived.Laws.CopyOwn
import Derived.Laws.MakeOwn
import Derived.Test.YtabaholflahepaaDoorApp
namespace Go.Proofs.YtabaholflahepaaDoor
open Go.RowKit

theorem splice_nil {α : Type} (l : List α) (o : Nat) : splice l o [] = l := by simp [splice]
theorem u8s_splice (l : List Nat) (o : Nat) (xs : List Nat) : u8s (splice l o xs) = splice (u8s l) o (u8s xs) := by
  simp [u8s, splice, List.map_take, List.map_drop]

section
variable {P : Program} {t tx e : TypeId} {z : Value} {bytes : Nat} {w : World} {g : Nat} {ty : TypeId} {cs : List Value}

theorem blk_setCells (h : Blk w g ty cs) (o : Nat) (vs : List Value) (hl : o + vs.length ≤ cs.length) : Blk (w.setCells g o vs) g ty (splice cs o vs) := by
  have := heap_setCells g ty vs o w cs.toArray h (by simpa using hl)
  unfold Blk
  rw [this]
  simp [splice]
theorem keep_setCells (w : World) (g o : Nat) (vs : List Value) : Keep (· = g) w (w.setCells g o vs) := by
  have h := setCells_rest g vs o w
  exact ⟨h.2.1, h.2.2.1, h.2.2.2, Nat.le_of_eq h.1.symm, fun k _ hk => heap_setCells_other g k hk vs o w⟩
theorem keep_setRow (w : World) (g : Nat) (vs : Array Value) : Keep (· = g) w (w.setRow g vs) :=
  ⟨rfl, rfl, rfl, by simp [World.setRow], fun k _ hk => setRow_other w g k vs hk⟩

theorem wp_put {o : Oper} {a : Act} {K : Act → World → Prop} {Q : Exit → Act → World → Prop} (s x : Operand)
    (ho : o.op = .call { callee := .builtin .append, args := #[s, x], argTypes := #[t, tx] }) (hE : El P t e z 1 bytes)
    (n cap : Nat) (hv : a.eval s = .slice (some ⟨g, 0, none⟩) n cap) (hb : Blk w g ty cs) (m : Nat) (news : List Value) (y : Value) (hy : a.eval x = y) (hs : Src P 1 tx y m news w)
    (hroom : n + m ≤ cap) (hcap : n + m ≤ cs.length)
    (h : ∀ w', Blk w' g ty (splice cs n news) → Keep (· = g) w w' → K (a.put o.dst (.slice (some ⟨g, 0, none⟩) (n + m) cap)) w') : o.wp P a w K Q := by
  obtain ⟨i, hi, hrow⟩ := Option.map_eq_some_iff.1 hE.row
  simp only [Prod.mk.injEq] at hrow
  obtain ⟨hz, hsz, rfl⟩ := hrow
  have hnl : news.length = m := by simpa using hs.newsLen
  have hr := run_append_room_src (P := P) w t tx o.type e i hE.under hi g 0 n cap y m news (hsz ▸ hs) hroom
    (fun j hj => by
      rw [hb.cell, hsz, List.getElem?_eq_getElem (by omega)]; rfl)
    (fun j _ => hb.frozen _)
  rw [hsz, Nat.zero_add, Nat.mul_one] at hr
  subst hy
  unfold Oper.wp execOp
  simp only [ho, resolve, invoke, builtin, Sem.run_bind, Sem.run_pure, Result.andThen_ok, List.map_toArray, List.map_cons, List.map_nil, hv, hr]
  exact h _ (blk_setCells hb n news (by omega)) (keep_setCells w g n news)

theorem wpList_put {ops : Array Oper} {rest : List Oper} {o : Oper} {a : Act} {Q : Exit → Act → World → Prop} (hgd : o.guard = none) (s x : Operand)
    (ho : o.op = .call { callee := .builtin .append, args := #[s, x], argTypes := #[t, tx] }) (hE : El P t e z 1 bytes)
    (n cap : Nat) (hv : a.eval s = .slice (some ⟨g, 0, none⟩) n cap) (hb : Blk w g ty cs) (m : Nat) (news : List Value) (y : Value) (hy : a.eval x = y) (hs : Src P 1 tx y m news w)
    (hroom : n + m ≤ cap) (hcap : n + m ≤ cs.length)
    (h : ∀ w', Blk w' g ty (splice cs n news) → Keep (· = g) w w' → wpList P ops Q rest (a.put o.dst (.slice (some ⟨g, 0, none⟩) (n + m) cap)) w') : wpList P ops Q (o :: rest) a w :=
  wpList_plain hgd fun _ hK => wp_put s x ho hE n cap hv hb m news y hy hs hroom hcap fun w' h1 h2 => hK _ _ (h w' h1 h2)

theorem step_put {ops : Array Oper} {o : Oper} {a : Act} {K : Act → World → Prop} {Q : Exit → Act → World → Prop} {E : Prop} (hgd : o.guard = none) (s x : Operand)
    (ho : o.op = .call { callee := .builtin .append, args := #[s, x], argTypes := #[t, tx] }) (hE : El P t e z 1 bytes)
    (n cap : Nat) (hv : a.eval s = .slice (some ⟨g, 0, none⟩) n cap) (hb : Blk w g ty cs) (m : Nat) (news : List Value) (y : Value) (hy : a.eval x = y) (hs : Src P 1 tx y m news w)
    (hroom : n + m ≤ cap) (hcap : n + m ≤ cs.length)
    (h : ∀ w', Blk w' g ty (splice cs n news) → Keep (· = g) w w' → K (a.put o.dst (.slice (some ⟨g, 0, none⟩) (n + m) cap)) w') :
    if Region.wanted o (yielded ops a.tmps) = true then Oper.wp P o a w K Q else E := by
  have hw : Region.wanted o (yielded ops a.tmps) = true := by simp [Region.wanted, hgd]
  rw [if_pos hw]
  exact wp_put s x ho hE n cap hv hb m news y hy hs hroom hcap h

theorem wp_copy {R : Nat → Prop} {o : Oper} {a : Act} {K : Act → World → Prop} {Q : Exit → Act → World → Prop} (d s : Operand)
    (ho : o.op = .call { callee := .builtin .copy, args := #[d, s], argTypes := #[t, tx] }) (hE : El P t e z 1 bytes)
    (dp sp : Option Addr) (dLen dCap sLen sCap off k : Nat) (hd : a.eval d = .slice dp dLen dCap) (hs : a.eval s = .slice sp sLen sCap) (hb : Blk w g ty cs)
    (vs : List Value) (hsl : Sl w R sp vs) (hn : k = Nat.min sLen dLen) (hvl : vs.length = sLen) (hpos : 0 < k → dp = some ⟨g, off, none⟩) (hfit : off + k ≤ cs.length) (h1 : ∀ v ∈ vs, v.oneCell' = true)
    (h : ∀ w', Blk w' g ty (splice cs off (vs.take k)) → Keep (· = g) w w' → K (a.put o.dst (.int .i64 k)) w') : o.wp P a w K Q := by
  obtain ⟨i, hi, hrow⟩ := Option.map_eq_some_iff.1 hE.row
  simp only [Prod.mk.injEq] at hrow
  obtain ⟨hz, hsz, rfl⟩ := hrow
  have hsz' : (P.info? e).map (·.size) = some 1 := by rw [hi]; simp [hsz]
  by_cases h0 : k = 0
  · subst h0
    have hrun := run_copy_none (P := P) w t tx o.type e dp sp dLen dCap sLen sCap hE.under hsz' hn.symm
    unfold Oper.wp
    simp [execOp, ho, resolve, invoke, builtin, hd, hs, hrun, Result.andThen]
    exact h w (by simpa [splice_nil] using hb) (Keep.refl _ _)
  · have hk : k ≤ sLen := hn ▸ Nat.min_le_left ..
    have htl : (vs.take k).length = k := by simp; omega
    obtain ⟨g', o', _, rfl, hc⟩ := hsl.get (by omega)
    obtain rfl := hpos (by omega)
    have hrun := run_copy_row (P := P) w t tx o.type e g off dLen dCap ⟨g', o', none⟩ sLen sCap cs.toArray ty (vs.take k) hE.under hsz' hb (by omega)
      (fun j v hj => by
        rw [Addr.add_lit]
        rw [List.getElem?_take] at hj
        split at hj
        · exact hc j v hj
        · cases hj) (by rw [htl]; simpa using hfit) (fun v hv => h1 v (List.mem_of_mem_take hv))
    unfold Oper.wp
    simp only [execOp, ho, resolve, invoke, builtin, Sem.run_bind, Sem.run_pure, Result.andThen_ok, List.map_toArray, List.map_cons, List.map_nil, hd, hs, hrun, htl]
    refine h _ ?_ (keep_setRow _ _ _)
    show _ = _
    rw [setRow_heap w g _ _ ty _ hb]
    simp [splice, htl]

theorem step_copy {R : Nat → Prop} {ops : Array Oper} {o : Oper} {a : Act} {K : Act → World → Prop} {Q : Exit → Act → World → Prop} {E : Prop} (hgd : o.guard = none) (d s : Operand)
    (ho : o.op = .call { callee := .builtin .copy, args := #[d, s], argTypes := #[t, tx] }) (hE : El P t e z 1 bytes)
    (dp sp : Option Addr) (dLen dCap sLen sCap off k : Nat) (hd : a.eval d = .slice dp dLen dCap) (hs : a.eval s = .slice sp sLen sCap) (hb : Blk w g ty cs)
    (vs : List Value) (hsl : Sl w R sp vs) (hn : k = Nat.min sLen dLen) (hvl : vs.length = sLen) (hpos : 0 < k → dp = some ⟨g, off, none⟩) (hfit : off + k ≤ cs.length) (h1 : ∀ v ∈ vs, v.oneCell' = true)
    (h : ∀ w', Blk w' g ty (splice cs off (vs.take k)) → Keep (· = g) w w' → K (a.put o.dst (.int .i64 k)) w') :
    if Region.wanted o (yielded ops a.tmps) = true then Oper.wp P o a w K Q else E := by
  have hw : Region.wanted o (yielded ops a.tmps) = true := by simp [Region.wanted, hgd]
  rw [if_pos hw]
  exact wp_copy d s ho hE dp sp dLen dCap sLen sCap off k hd hs hb vs hsl hn hvl hpos hfit h1 h

theorem wpList_copy {R : Nat → Prop} {ops : Array Oper} {rest : List Oper} {o : Oper} {a : Act} {Q : Exit → Act → World → Prop} (hgd : o.guard = none) (d s : Operand)
    (ho : o.op = .call { callee := .builtin .copy, args := #[d, s], argTypes := #[t, tx] }) (hE : El P t e z 1 bytes)
    (dp sp : Option Addr) (dLen dCap sLen sCap off k : Nat) (hd : a.eval d = .slice dp dLen dCap) (hs : a.eval s = .slice sp sLen sCap) (hb : Blk w g ty cs)
    (vs : List Value) (hsl : Sl w R sp vs) (hn : k = Nat.min sLen dLen) (hvl : vs.length = sLen) (hpos : 0 < k → dp = some ⟨g, off, none⟩) (hfit : off + k ≤ cs.length) (h1 : ∀ v ∈ vs, v.oneCell' = true)
    (h : ∀ w', Blk w' g ty (splice cs off (vs.take k)) → Keep (· = g) w w' → wpList P ops Q rest (a.put o.dst (.int .i64 k)) w') : wpList P ops Q (o :: rest) a w :=
  wpList_plain hgd fun _ hK => wp_copy d s ho hE dp sp dLen dCap sLen sCap off k hd hs hb vs hsl hn hvl hpos hfit h1 fun w' h1 h2 => hK _ _ (h w' h1 h2)
end

section
variable {P : Program} {t e : TypeId} {z : Value} {size bytes : Nat} {w : World}
/-- make: n elements, room for c. -/
theorem wpList_make {ops : Array Oper} {rest : List Oper} {o : Oper} {a : Act} {Q : Exit → Act → World → Prop} (hgd : o.guard = none) (l c : Operand) (ho : o.op = .makeSlice t l c)
    (hE : El P t e z size bytes) (kl kc : IntKind) (n m : Nat) (hl : a.eval l = .int kl (n : Int)) (hc : a.eval c = .int kc (m : Int)) (hnm : n ≤ m) (hb : bytes * m ≤ 281474976710656)
    (h : ∀ w', Kept w w' → Blk w' w.heap.size e (madeCells z.cells (m * size)).toList → wpList P ops Q rest (a.put o.dst (.slice (some ⟨w.heap.size, 0, none⟩) n m)) w') : wpList P ops Q (o :: rest) a w := by
  obtain ⟨i, hi, hrow⟩ := Option.map_eq_some_iff.1 hE.row
  simp only [Prod.mk.injEq] at hrow
  obtain ⟨hz, hsz, hby⟩ := hrow
  have hm : m ≤ 281474976710656 := Nat.le_trans (Nat.le_mul_of_pos_left m hE.bpos) hb
  have hb2 : (bytes : Int) * (m : Int) ≤ 281474976710656 := by
    rw [← Int.natCast_mul]; omega
  have hr := run_make (P := P) w t e i z hE.under hi hz kl kc n m (by omega) (by omega) (hby ▸ hb2) (by omega)
  rw [hsz, Int.toNat_natCast, Int.toNat_natCast] at hr
  refine wpList_plain hgd fun K hK => ?_
  unfold Oper.wp execOp
  simp only [ho, hl, hc, hr, Sem.run_bind, Sem.run_pure, Result.andThen_ok]
  exact hK _ _ (h _ ((Keep.refl _ _).alloc _) (Blk.new w e _))
/-- Cells that make lays. -/
theorem made_list (z : Value) (hz : z.cells = #[z]) (n : Nat) : (madeCells z.cells n).toList = List.replicate n z := by
  apply List.ext_getElem?
  intro i
  simp only [madeCells, Array.toList_map, List.getElem?_map, Array.toList_range, hz]
  by_cases hi : i < n
  · simp [hi, Nat.mod_one]
  · simp [hi]
end

section
variable {w : World} {R : Nat → Prop} {A : Option Addr} {vs : List Value}
/-- A slice cut in front and behind. -/
theorem Sl.take (h : Sl w R A vs) (n : Nat) : Sl w R A (vs.take n) := by
  rcases h with rfl | ⟨g, o, h1, h2, h3⟩
  · exact .inl (by simp)
  · refine .inr ⟨g, o, h1, h2, fun j u hu => h3 j u ?_⟩
    rw [List.getElem?_take] at hu
    split at hu
    · exact hu
    · cases hu
theorem Sl.drop (h : Sl w R A vs) (n : Nat) (A' : Option Addr) (hA : n < vs.length → ∀ g o, A = some ⟨g, o, none⟩ → A' = some ⟨g, o + n, none⟩) : Sl w R A' (vs.drop n) := by
  by_cases hn : n < vs.length
  · obtain ⟨g, o, h1, h2, h3⟩ := h.get (by omega)
    refine .inr ⟨g, o + n, h1, hA hn g o h2, fun j u hu => ?_⟩
    rw [List.getElem?_drop] at hu
    rw [Nat.add_assoc]
    exact h3 _ u hu
  · exact .inl (List.drop_eq_nil_of_le (by omega))
theorem Blk.sl {b : Nat} {t : TypeId} {cs : List Value} (h : Blk w b t cs) : Sl w (· = b) (some ⟨b, 0, none⟩) cs :=
  .inr ⟨b, 0, rfl, rfl, fun j u hu => by rw [Nat.zero_add, h.cell]; exact hu⟩
end
end Go.Proofs.YtabaholflahepaaDoor
