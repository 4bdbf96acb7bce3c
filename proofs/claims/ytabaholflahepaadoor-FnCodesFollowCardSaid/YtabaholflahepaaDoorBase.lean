/-
  The tables of baselines as variables (Bases), io.EOF alone (Eof); contracts of makeLiteralBaselineFSE, makeOffsetBaselineFSE, makeMatchBaselineFSE.
-/
import Derived.Test.YtabaholflahepaaDoorCells
import Derived.Test.YtabaholflahepaaDoorCode
import Derived.Test.YtabaholflahepaaDoorErr
namespace Go.Proofs.YtabaholflahepaaDoor
open Go.RowKit

def litWords : List Nat := [16777232, 16777234, 16777236, 16777238, 33554456, 33554460, 50331680, 50331688, 67108912, 100663360, 117440640, 134217984, 150995456, 167773184, 184551424, 201330688, 218112000, 234897408, 251691008, 268500992]
def matWords : List Nat := [16777251, 16777253, 16777255, 16777257, 33554475, 33554479, 50331699, 50331707, 67108931, 67108947, 83886179, 117440643, 134217987, 150995459, 167773187, 184551427, 201330691, 218112003, 234897411, 251691011, 268500995]
theorem lit_words : ∀ d, d < 20 → litWords.getD d 0 % 16777216 = (codeOf 0 (16 + d)).1 ∧ litWords.getD d 0 / 16777216 = (codeOf 0 (16 + d)).2 ∧ litWords.getD d 0 < 4294967296 := by decide
theorem mat_words : ∀ d, d < 21 → matWords.getD d 0 % 16777216 = (codeOf 2 (32 + d)).1 ∧ matWords.getD d 0 / 16777216 = (codeOf 2 (32 + d)).2 ∧ matWords.getD d 0 < 4294967296 := by decide

/-- io.EOF is a pointer to a plain block, below B. -/
def Eof (B : Nat) (w : World) : Prop := ∃ q cq tq, w.cell? ⟨3, 0, none⟩ = some (.iface 235 (.pointer (some q))) ∧ w.heap[q.block]? = some (.cells cq tq (0, 0)) ∧ 4 ≤ B ∧ q.block < B ∧ B ≤ w.heap.size
theorem Eof.keep {B : Nat} {S : Nat → Prop} {w w' : World} (h : Eof B w) (hk : Keep S w w') (hs : ∀ k, S k → B ≤ k) : Eof B w' := by
  obtain ⟨q, cq, tq, h2, h5, h6, h8, h9⟩ := h
  refine ⟨q, cq, tq, hk.cell h2 fun h => ?_, ?_, h6, h8, Nat.le_trans h9 hk.size⟩
  · have := hs _ h; simp at this; omega
  · rw [hk.block _ (by omega) fun h => by have := hs _ h; omega]; exact h5
theorem Eof.kept {B : Nat} {w w' : World} (h : Eof B w) (hk : Kept w w') : Eof B w' := h.keep hk fun _ hf => hf.elim

/-- The tables of words. -/
def Bases (B : Nat) (w : World) : Prop := ∃ a o c a' o' c', w.cell? ⟨0, 0, none⟩ = some (.slice (some ⟨a, o, none⟩) 20 c) ∧ w.cell? ⟨1, 0, none⟩ = some (.slice (some ⟨a', o', none⟩) 21 c') ∧
  (∀ j u, (u32s litWords)[j]? = some u → w.cell? ⟨a, o + j, none⟩ = some u) ∧ (∀ j u, (u32s matWords)[j]? = some u → w.cell? ⟨a', o' + j, none⟩ = some u) ∧ 4 ≤ B ∧ a < B ∧ a' < B
theorem Bases.keep {B : Nat} {S : Nat → Prop} {w w' : World} (h : Bases B w) (hk : Keep S w w') (hs : ∀ k, S k → B ≤ k) : Bases B w' := by
  obtain ⟨a, o, c, a', o', c', h1, h2, h3, h4, h5, h6, h7⟩ := h
  refine ⟨a, o, c, a', o', c', hk.cell h1 fun h => ?_, hk.cell h2 fun h => ?_, fun j u hu => hk.cell (h3 j u hu) fun h => ?_, fun j u hu => hk.cell (h4 j u hu) fun h => ?_, h5, h6, h7⟩
  all_goals have := hs _ h; simp at this; omega
theorem Bases.kept {B : Nat} {w w' : World} (h : Bases B w) (hk : Kept w w') : Bases B w' := h.keep hk fun _ hf => hf.elim

theorem wrap_other1 {B : Nat} (rb : Nat) (off : Int) (p : Addr) (cp : Array Value) (tp : TypeId) (w : World) (he : Eof B w) (hr : RdOff w rb)
    (hp : w.heap[p.block]? = some (.cells cp tp (0, 0))) (hne : ∀ q, w.cell? ⟨3, 0, none⟩ = some (.iface 235 (.pointer (some q))) → p ≠ q) :
    Calls Tryd.prog 110 #[.pointer (some ⟨rb, 0, none⟩), .int .i64 off, .iface 235 (.pointer (some p))] w (ErrPost w) := by
  obtain ⟨q, cq, tq, h2, h5, _, _, _⟩ := he
  obtain ⟨x, hx⟩ := hr
  obtain ⟨i, hi, hc⟩ := Option.map_eq_some_iff.1 row235
  obtain ⟨j, hj, hsz⟩ := Option.map_eq_some_iff.1 row237
  have hpq := hne q h2
  clear hne
  have heq := run_eql_iface_ptr_other (P := Tryd.prog) w (ti := 163) Tryd.underlying163 Tryd.underlying235 hi hc hj (by rw [hsz]; decide) hpq hp h5
  clear hi hc hj hsz
  go_enter Tryd.func110, Tryd.ntmps110
  go_wp2
  go_ret
  exact ⟨_, ⟨_, _, rfl⟩, rfl, by repeat (first | exact Keep.refl _ _ | apply Keep.alloc | apply Keep.drew)⟩

theorem makeError1 {B : Nat} (rb : Nat) (off : Int) (s : ByteArray) (w : World) (he : Eof B w) (hr : RdOff w rb) :
    Calls Tryd.prog 93 #[.pointer (some ⟨rb, 0, none⟩), .int .i64 off, .string s] w (ErrPost w) := by
  have hk0 : Kept w (w.alloc (.cells #[.string s] 237)) := (Keep.refl _ _).alloc _
  have he' := he.kept hk0
  have hr' := hr.kept hk0
  have hB : B ≤ w.heap.size := by obtain ⟨_, _, _, _, _, _, _, h9⟩ := he; exact h9
  have hq : ∀ q, (w.alloc (.cells #[.string s] 237)).cell? ⟨3, 0, none⟩ = some (.iface 235 (.pointer (some q))) → (⟨w.heap.size, 0, none⟩ : Addr) ≠ q := by
    obtain ⟨q, cq, tq, h2, h5, h6, h8, h9⟩ := he'
    intro q' hq'
    rw [h2] at hq'
    simp only [Option.some.injEq, Value.iface.injEq, Value.pointer.injEq, true_and] at hq'
    subst hq'
    rintro rfl
    simp at h8
    omega
  go_enter Tryd.func93, Tryd.ntmps93
  go_wp2_with fail
  refine (errors_New s w).mono ?_
  rintro e w' ⟨rfl, rfl⟩
  go_wp2_with fail
  refine (wrap_other1 rb off ⟨w.heap.size, 0, none⟩ _ _ _ he' hr' (heap_alloc_new w _) hq).mono ?_
  rintro e w' ⟨v, hv, rfl, hk⟩
  go_wp2
  go_ret
  exact ⟨v, hv, rfl, hk0.trans hk⟩

theorem rowB_set {xs : List (Nat × Nat × Nat × Nat)} {i : Nat} {x : Nat × Nat × Nat × Nat} (h : xs[i]? = some x) (a b c d : Nat) :
    ((((flat rowB xs).set (i * 4) (.int .u32 a)).set (i * 4 + 1) (.int .u8 b)).set (i * 4 + 2) (.int .u8 c)).set (i * 4 + 3) (.int .u16 d) = flat rowB (xs.set i (a, b, c, d)) := by
  have hi := (List.getElem?_eq_some_iff.1 h).1
  have e1 : (flat rowB xs).set (i * 4) (.int .u32 a) = flat rowB (xs.set i (a, x.2)) := flat_set rowB_length 0 _ _ h (by decide) rfl
  have e2 : (flat rowB (xs.set i (a, x.2))).set (i * 4 + 1) (.int .u8 b) = flat rowB ((xs.set i (a, x.2)).set i (a, b, x.2.2)) :=
    flat_set rowB_length 1 _ _ (x := (a, x.2)) (by simp [hi]) (by decide) rfl
  have e3 : (flat rowB ((xs.set i (a, x.2)).set i (a, b, x.2.2))).set (i * 4 + 2) (.int .u8 c) = flat rowB (((xs.set i (a, x.2)).set i (a, b, x.2.2)).set i (a, b, c, x.2.2.2)) :=
    flat_set rowB_length 2 _ _ (x := (a, b, x.2.2)) (by simp [hi]) (by decide) rfl
  have e4 : (flat rowB (((xs.set i (a, x.2)).set i (a, b, x.2.2)).set i (a, b, c, x.2.2.2))).set (i * 4 + 3) (.int .u16 d) = flat rowB ((((xs.set i (a, x.2)).set i (a, b, x.2.2)).set i (a, b, c, x.2.2.2)).set i (a, b, c, d)) :=
    flat_set rowB_length 3 _ _ (x := (a, b, c, x.2.2.2)) (by simp [hi]) (by decide) rfl
  rw [e1, e2, e3, e4]
  simp

/-- Rows, of which the first j are made. -/
def madeRows (f : Nat × Nat × Nat → Nat × Nat × Nat × Nat) (xs : List (Nat × Nat × Nat)) (j : Nat) : List (Nat × Nat × Nat × Nat) := (xs.map f).take j ++ List.replicate (xs.length - j) (0, 0, 0, 0)
theorem madeRows_zero (f : Nat × Nat × Nat → Nat × Nat × Nat × Nat) (xs : List (Nat × Nat × Nat)) : madeRows f xs 0 = List.replicate xs.length (0, 0, 0, 0) := by simp [madeRows]
theorem madeRows_all (f : Nat × Nat × Nat → Nat × Nat × Nat × Nat) (xs : List (Nat × Nat × Nat)) : madeRows f xs xs.length = xs.map f := by
  unfold madeRows
  rw [List.take_of_length_le (by simp)]; simp
theorem madeRows_at {f : Nat × Nat × Nat → Nat × Nat × Nat × Nat} {xs : List (Nat × Nat × Nat)} {j : Nat} (hj : j < xs.length) : (madeRows f xs j)[j]? = some (0, 0, 0, 0) := by
  unfold madeRows
  rw [List.getElem?_append_right (by simp; omega)]
  simp [Nat.min_eq_left (Nat.le_of_lt hj), List.getElem?_replicate]
  omega
theorem madeRows_push {f : Nat × Nat × Nat → Nat × Nat × Nat × Nat} {xs : List (Nat × Nat × Nat)} {j : Nat} {x : Nat × Nat × Nat} (hx : xs[j]? = some x) : (madeRows f xs j).set j (f x) = madeRows f xs (j + 1) := by
  have hj := (List.getElem?_eq_some_iff.1 hx).1
  have hl : ((xs.map f).take j).length = j := by simp; omega
  unfold madeRows
  rw [List.set_append_right _ _ (by omega), hl, Nat.sub_self, take_push (x := f x) (by simp [hx]), List.append_assoc]
  congr 1
  obtain ⟨d, hd⟩ : ∃ d, xs.length - j = d + 1 := ⟨xs.length - j - 1, by omega⟩
  rw [hd, List.replicate_succ, show xs.length - (j + 1) = d by omega]
  rfl

set_option maxHeartbeats 2000000 in
set_option maxRecDepth 4000 in
theorem makeLit {B : Nat} {R : Nat → Prop} (rb : Nat) (off : Int) (A : Option Addr) (c n g cap : Nat) (xs : List (Nat × Nat × Nat)) (hn : n = xs.length) (w : World) (hs : Sl w R A (flat celE xs)) (hf : ∀ x ∈ xs, FitE x)
    (hg : Blk w g 214 (flat rowB (List.replicate n (0, 0, 0, 0)))) (hR : ¬ R g) (hb : Bases B w) (he : Eof B w) (hr : RdOff w rb) (hB : B ≤ g) (hrg : rb ≠ g) (hlen : n ≤ 2147483648) :
    Calls Tryd.prog 76 #[.pointer (some ⟨rb, 0, none⟩), .int .i64 off, .slice A n c, .slice (some ⟨g, 0, none⟩) n cap] w fun e w' => Keep (· = g) w w' ∧
      ((e = .returned .nilIface ∧ (∀ x ∈ xs, x.1 ≤ 35) ∧ Blk w' g 214 (flat rowB (xs.map (rowFor 0)))) ∨ (∃ v, IsErr v ∧ e = .returned v ∧ ¬ ∀ x ∈ xs, x.1 ≤ 35)) := by
  subst hn
  rw [← madeRows_zero (rowFor 0)] at hg
  go_enter Tryd.func76, Tryd.ntmps76
  go_wp2
  go_loopg [16] (xs.length + 1) (fun gg i wr => ∃ j : Nat, xs.length - j < gg ∧ j ≤ xs.length ∧ i = .int .i64 j ∧ Hid (∀ x ∈ xs.take j, x.1 ≤ 35) ∧ Blk wr g 214 (flat rowB (madeRows (rowFor 0) xs j)) ∧ Keep (· = g) w wr)
  case atStart => exact ⟨0, by omega, by omega, rfl, by simp [Hid], hg, Keep.refl _ _⟩
  case round =>
    obtain ⟨j, q1, q2, rfl, q3, qg, qk⟩ := hrel
    by_cases hlt : j < xs.length
    · obtain ⟨gx, o, x, hRx, rfl, hx, hc⟩ := (hs.keep qk (fun k _ hk => by rintro rfl; exact hR hk)).row celE_length (by decide) hlt
      have hfx := hf x (List.mem_of_getElem? hx.out)
      have hpush := madeRows_push (f := rowFor 0) hx.out
      obtain ⟨x0, x1, x2⟩ := x
      obtain ⟨h0, h1, h2⟩ := hfx
      have c0 : wr.cell? ⟨gx, o + j * 3, none⟩ = some (.int .u8 x0) := hc 0 _ rfl
      have c1 : wr.cell? ⟨gx, o + j * 3 + 1, none⟩ = some (.int .u8 x1) := hc 1 _ rfl
      have c2 : wr.cell? ⟨gx, o + j * 3 + 2, none⟩ = some (.int .u16 x2) := hc 2 _ rfl
      have hat := madeRows_at (f := rowFor 0) hlt
      have d0 : wr.cell? ⟨g, j * 4, none⟩ = some (.int .u32 0) := qg.row rowB_length (j := 0) hat rfl
      have d1 : wr.cell? ⟨g, j * 4 + 1, none⟩ = some (.int .u8 0) := qg.row rowB_length (j := 1) hat rfl
      have d2 : wr.cell? ⟨g, j * 4 + 2, none⟩ = some (.int .u8 0) := qg.row rowB_length (j := 2) hat rfl
      have d3 : wr.cell? ⟨g, j * 4 + 3, none⟩ = some (.int .u16 0) := qg.row rowB_length (j := 3) hat rfl
      have f0 := qg.frozen (j * 4)
      have f1 := qg.frozen (j * 4 + 1)
      have f2 := qg.frozen (j * 4 + 2)
      have f3 := qg.frozen (j * 4 + 3)
      simp only at h0 h1 h2
      have Hpush := Lib.hid hpush
      have hgl : g < wr.heap.size := qg.lt
      have hne1 : wr.heap.size ≠ g := by omega
      have hne2 : wr.heap.size + 1 ≠ g := by omega
      have Hat := Lib.hid hat
      clear hc hpush hat
      have hq3 : x0 ≤ 35 → ∀ x ∈ xs.take (j + 1), x.1 ≤ 35 := by
        intro hle x hxm
        rw [take_push hx.out] at hxm
        rcases List.mem_append.1 hxm with h | h
        · exact q3.out x h
        · rw [List.mem_singleton.1 h]; exact hle
      have Hq3 := Lib.hid hq3
      clear hq3
      by_cases hlow : x0 < 16
      · have hrow : rowFor 0 (x0, x1, x2) = (x0, 0, x1, x2) := by simp [rowFor, codeOf, firstFor, plusFor, hlow]
        rw [hrow] at Hpush
        clear hrow
        go_wp2
        go_roundg (xs.length - j)
        case measure => exact q1
        case rel =>
          refine ⟨j + 1, by omega, by omega, rfl, Hq3.out (by omega), ?_, ?_⟩
          · refine Blk.cast ((((((qg.set _ _).set _ _).set _ _).set _ _).alloc _).alloc _) ?_
            rw [← Hpush.out]
            exact rowB_set Hat.out x0 0 x1 x2
          · exact (((((qk.set (p := ⟨g, j * 4, none⟩) (.inl rfl) _).set (p := ⟨g, j * 4 + 1, none⟩) (.inl rfl) _).set (p := ⟨g, j * 4 + 2, none⟩) (.inl rfl) _).set (p := ⟨g, j * 4 + 3, none⟩) (.inl rfl) _).alloc _).alloc _
      · by_cases hhi : 35 < x0
        · have he2 := he.keep qk (fun k hk => by omega)
          have hr2 := hr.keep qk hrg
          have hk2 : Kept wr ((wr.alloc (.cells #[.int .u8 x0, .int .u8 x1, .int .u16 x2] 181)).alloc (.cells #[.int .u32 0, .int .u8 0, .int .u8 x1, .int .u16 x2] 214)) := ((Keep.refl _ _).alloc _).alloc _
          have he3 := he2.kept hk2
          have hr3 := hr2.kept hk2
          have qk3 := qk.kept hk2
          go_wp2_with fail
          refine (makeError1 rb off _ _ he3 hr3).mono ?_
          rintro e w' ⟨v, hv, rfl, hk⟩
          go_wp2
          go_ret
          refine ⟨qk3.kept hk, .inr ⟨v, hv, rfl, fun h => ?_⟩⟩
          have := h _ (List.mem_of_getElem? hx.out)
          simp only at this
          omega
        · obtain ⟨d, rfl⟩ : ∃ d, x0 = 16 + d := ⟨x0 - 16, by omega⟩
          have hd : d < 20 := by omega
          obtain ⟨a, oa, ca, _, _, _, b1, _, b3, _, _, ha, _⟩ := hb.keep qk (fun k hk => by omega)
          obtain ⟨w1, w2, w3⟩ := lit_words d hd
          have b4 := b3 d _ (u32s_at (l := litWords) hd)
          have hrow : rowFor 0 (16 + d, x1, x2) = ((codeOf 0 (16 + d)).1, (codeOf 0 (16 + d)).2, x1, x2) := rfl
          rw [hrow, ← w1, ← w2] at Hpush
          generalize litWords.getD d 0 = W at b4 w3 Hpush
          have hand : bits .and .u32 (W : Int) 16777215 = ((W % 16777216 : Nat) : Int) := by
            rw [show (16777215 : Int) = ((2 ^ 24 - 1 : Nat) : Int) by decide, u32_and_nat W _ w3 (by decide), and_mask]
          have hdiv : (W : Int) / 16777216 = ((W / 16777216 : Nat) : Int) := by omega
          have hm : W / 16777216 < 256 := by omega
          generalize W / 16777216 = m at hdiv hm Hpush
          generalize W % 16777216 = bse at hand Hpush
          have hx16 : (16 : Int) + (d : Int) - 16 = (d : Int) := by omega
          have ha0 : a < wr.heap.size := by omega
          have ha1 : wr.heap.size ≠ a := by omega
          have ha2 : wr.heap.size + 1 ≠ a := by omega
          have hz0 : 0 < wr.heap.size := by omega
          have hz1 : wr.heap.size ≠ 0 := by omega
          have hz2 : wr.heap.size + 1 ≠ 0 := by omega
          clear b3 w1 w2 hrow
          go_wp2
          go_roundg (xs.length - j)
          case measure => exact q1
          case rel =>
            refine ⟨j + 1, by omega, by omega, rfl, Hq3.out (by omega), ?_, ?_⟩
            · refine Blk.cast ((((((qg.set _ _).set _ _).set _ _).set _ _).alloc _).alloc _) ?_
              rw [← Hpush.out]
              exact rowB_set Hat.out bse m x1 x2
            · exact (((((qk.set (p := ⟨g, j * 4, none⟩) (.inl rfl) _).set (p := ⟨g, j * 4 + 1, none⟩) (.inl rfl) _).set (p := ⟨g, j * 4 + 2, none⟩) (.inl rfl) _).set (p := ⟨g, j * 4 + 3, none⟩) (.inl rfl) _).alloc _).alloc _
    · obtain rfl : j = xs.length := by omega
      rw [List.take_length] at q3
      rw [madeRows_all] at qg
      go_wp2
      go_ret
      exact ⟨qk, .inl ⟨rfl, q3.out, qg⟩⟩
set_option maxHeartbeats 2000000 in
set_option maxRecDepth 4000 in
theorem makeMatch {B : Nat} {R : Nat → Prop} (rb : Nat) (off : Int) (A : Option Addr) (c n g cap : Nat) (xs : List (Nat × Nat × Nat)) (hn : n = xs.length) (w : World) (hs : Sl w R A (flat celE xs)) (hf : ∀ x ∈ xs, FitE x)
    (hg : Blk w g 214 (flat rowB (List.replicate n (0, 0, 0, 0)))) (hR : ¬ R g) (hb : Bases B w) (he : Eof B w) (hr : RdOff w rb) (hB : B ≤ g) (hrg : rb ≠ g) (hlen : n ≤ 2147483648) :
    Calls Tryd.prog 78 #[.pointer (some ⟨rb, 0, none⟩), .int .i64 off, .slice A n c, .slice (some ⟨g, 0, none⟩) n cap] w fun e w' => Keep (· = g) w w' ∧
      ((e = .returned .nilIface ∧ (∀ x ∈ xs, x.1 ≤ 52) ∧ Blk w' g 214 (flat rowB (xs.map (rowFor 2)))) ∨ (∃ v, IsErr v ∧ e = .returned v ∧ ¬ ∀ x ∈ xs, x.1 ≤ 52)) := by
  subst hn
  rw [← madeRows_zero (rowFor 2)] at hg
  go_enter Tryd.func78, Tryd.ntmps78
  go_wp2
  go_loopg [16] (xs.length + 1) (fun gg i wr => ∃ j : Nat, xs.length - j < gg ∧ j ≤ xs.length ∧ i = .int .i64 j ∧ Hid (∀ x ∈ xs.take j, x.1 ≤ 52) ∧ Blk wr g 214 (flat rowB (madeRows (rowFor 2) xs j)) ∧ Keep (· = g) w wr)
  case atStart => exact ⟨0, by omega, by omega, rfl, by simp [Hid], hg, Keep.refl _ _⟩
  case round =>
    obtain ⟨j, q1, q2, rfl, q3, qg, qk⟩ := hrel
    by_cases hlt : j < xs.length
    · obtain ⟨gx, o, x, hRx, rfl, hx, hc⟩ := (hs.keep qk (fun k _ hk => by rintro rfl; exact hR hk)).row celE_length (by decide) hlt
      have hfx := hf x (List.mem_of_getElem? hx.out)
      have hpush := madeRows_push (f := rowFor 2) hx.out
      obtain ⟨x0, x1, x2⟩ := x
      obtain ⟨h0, h1, h2⟩ := hfx
      have c0 : wr.cell? ⟨gx, o + j * 3, none⟩ = some (.int .u8 x0) := hc 0 _ rfl
      have c1 : wr.cell? ⟨gx, o + j * 3 + 1, none⟩ = some (.int .u8 x1) := hc 1 _ rfl
      have c2 : wr.cell? ⟨gx, o + j * 3 + 2, none⟩ = some (.int .u16 x2) := hc 2 _ rfl
      have hat := madeRows_at (f := rowFor 2) hlt
      have d0 : wr.cell? ⟨g, j * 4, none⟩ = some (.int .u32 0) := qg.row rowB_length (j := 0) hat rfl
      have d1 : wr.cell? ⟨g, j * 4 + 1, none⟩ = some (.int .u8 0) := qg.row rowB_length (j := 1) hat rfl
      have d2 : wr.cell? ⟨g, j * 4 + 2, none⟩ = some (.int .u8 0) := qg.row rowB_length (j := 2) hat rfl
      have d3 : wr.cell? ⟨g, j * 4 + 3, none⟩ = some (.int .u16 0) := qg.row rowB_length (j := 3) hat rfl
      have f0 := qg.frozen (j * 4)
      have f1 := qg.frozen (j * 4 + 1)
      have f2 := qg.frozen (j * 4 + 2)
      have f3 := qg.frozen (j * 4 + 3)
      simp only at h0 h1 h2
      have Hpush := Lib.hid hpush
      have hgl : g < wr.heap.size := qg.lt
      have hne1 : wr.heap.size ≠ g := by omega
      have hne2 : wr.heap.size + 1 ≠ g := by omega
      have Hat := Lib.hid hat
      clear hc hpush hat
      have hq3 : x0 ≤ 52 → ∀ x ∈ xs.take (j + 1), x.1 ≤ 52 := by
        intro hle x hxm
        rw [take_push hx.out] at hxm
        rcases List.mem_append.1 hxm with h | h
        · exact q3.out x h
        · rw [List.mem_singleton.1 h]; exact hle
      have Hq3 := Lib.hid hq3
      clear hq3
      by_cases hlow : x0 < 32
      · have hrow : rowFor 2 (x0, x1, x2) = (x0 + 3, 0, x1, x2) := by simp [rowFor, codeOf, firstFor, plusFor, hlow]
        rw [hrow] at Hpush
        clear hrow
        go_wp2
        go_roundg (xs.length - j)
        case measure => exact q1
        case rel =>
          refine ⟨j + 1, by omega, by omega, rfl, Hq3.out (by omega), ?_, ?_⟩
          · refine Blk.cast ((((((qg.set _ _).set _ _).set _ _).set _ _).alloc _).alloc _) ?_
            rw [← Hpush.out]
            exact rowB_set Hat.out (x0 + 3) 0 x1 x2
          · exact (((((qk.set (p := ⟨g, j * 4, none⟩) (.inl rfl) _).set (p := ⟨g, j * 4 + 1, none⟩) (.inl rfl) _).set (p := ⟨g, j * 4 + 2, none⟩) (.inl rfl) _).set (p := ⟨g, j * 4 + 3, none⟩) (.inl rfl) _).alloc _).alloc _
      · by_cases hhi : 52 < x0
        · have he2 := he.keep qk (fun k hk => by omega)
          have hr2 := hr.keep qk hrg
          have hk2 : Kept wr ((wr.alloc (.cells #[.int .u8 x0, .int .u8 x1, .int .u16 x2] 181)).alloc (.cells #[.int .u32 0, .int .u8 0, .int .u8 x1, .int .u16 x2] 214)) := ((Keep.refl _ _).alloc _).alloc _
          have he3 := he2.kept hk2
          have hr3 := hr2.kept hk2
          have qk3 := qk.kept hk2
          go_wp2_with fail
          refine (makeError1 rb off _ _ he3 hr3).mono ?_
          rintro e w' ⟨v, hv, rfl, hk⟩
          go_wp2
          go_ret
          refine ⟨qk3.kept hk, .inr ⟨v, hv, rfl, fun h => ?_⟩⟩
          have := h _ (List.mem_of_getElem? hx.out)
          simp only at this
          omega
        · obtain ⟨d, rfl⟩ : ∃ d, x0 = 32 + d := ⟨x0 - 32, by omega⟩
          have hd : d < 21 := by omega
          obtain ⟨_, _, _, a, oa, ca, _, b1, _, b3, _, _, ha⟩ := hb.keep qk (fun k hk => by omega)
          obtain ⟨w1, w2, w3⟩ := mat_words d hd
          have b4 := b3 d _ (u32s_at (l := matWords) hd)
          have hrow : rowFor 2 (32 + d, x1, x2) = ((codeOf 2 (32 + d)).1, (codeOf 2 (32 + d)).2, x1, x2) := rfl
          rw [hrow, ← w1, ← w2] at Hpush
          generalize matWords.getD d 0 = W at b4 w3 Hpush
          have hand : bits .and .u32 (W : Int) 16777215 = ((W % 16777216 : Nat) : Int) := by
            rw [show (16777215 : Int) = ((2 ^ 24 - 1 : Nat) : Int) by decide, u32_and_nat W _ w3 (by decide), and_mask]
          have hdiv : (W : Int) / 16777216 = ((W / 16777216 : Nat) : Int) := by omega
          have hm : W / 16777216 < 256 := by omega
          generalize W / 16777216 = m at hdiv hm Hpush
          generalize W % 16777216 = bse at hand Hpush
          have hx16 : (32 : Int) + (d : Int) - 32 = (d : Int) := by omega
          have ha0 : a < wr.heap.size := by omega
          have ha1 : wr.heap.size ≠ a := by omega
          have ha2 : wr.heap.size + 1 ≠ a := by omega
          have hz0 : 1 < wr.heap.size := by omega
          have hz1 : wr.heap.size ≠ 1 := by omega
          have hz2 : wr.heap.size ≠ 0 := by omega
          have hz4 : 0 < wr.heap.size := by omega
          clear b3 w1 w2 hrow
          go_wp2
          go_roundg (xs.length - j)
          case measure => exact q1
          case rel =>
            refine ⟨j + 1, by omega, by omega, rfl, Hq3.out (by omega), ?_, ?_⟩
            · refine Blk.cast ((((((qg.set _ _).set _ _).set _ _).set _ _).alloc _).alloc _) ?_
              rw [← Hpush.out]
              exact rowB_set Hat.out bse m x1 x2
            · exact (((((qk.set (p := ⟨g, j * 4, none⟩) (.inl rfl) _).set (p := ⟨g, j * 4 + 1, none⟩) (.inl rfl) _).set (p := ⟨g, j * 4 + 2, none⟩) (.inl rfl) _).set (p := ⟨g, j * 4 + 3, none⟩) (.inl rfl) _).alloc _).alloc _
    · obtain rfl : j = xs.length := by omega
      rw [List.take_length] at q3
      rw [madeRows_all] at qg
      go_wp2
      go_ret
      exact ⟨qk, .inl ⟨rfl, q3.out, qg⟩⟩

/-- An offset's row. -/
def offRow (x : Nat × Nat × Nat) : Nat × Nat × Nat × Nat := (if 2 ≤ x.1 then 2 ^ x.1 - 3 else 2 ^ x.1, x.1, x.2.1, x.2.2)

set_option maxHeartbeats 2000000 in
set_option maxRecDepth 4000 in
theorem makeOff {B : Nat} {R : Nat → Prop} (rb : Nat) (off : Int) (A : Option Addr) (c n g cap : Nat) (xs : List (Nat × Nat × Nat)) (hn : n = xs.length) (w : World) (hs : Sl w R A (flat celE xs)) (hf : ∀ x ∈ xs, FitE x)
    (hg : Blk w g 214 (flat rowB (List.replicate n (0, 0, 0, 0)))) (hR : ¬ R g) (he : Eof B w) (hr : RdOff w rb) (hB : B ≤ g) (hrg : rb ≠ g) (hlen : n ≤ 2147483648) :
    Calls Tryd.prog 77 #[.pointer (some ⟨rb, 0, none⟩), .int .i64 off, .slice A n c, .slice (some ⟨g, 0, none⟩) n cap] w fun e w' => Keep (· = g) w w' ∧
      ((e = .returned .nilIface ∧ (∀ x ∈ xs, x.1 ≤ 31) ∧ Blk w' g 214 (flat rowB (xs.map (offRow)))) ∨ (∃ v, IsErr v ∧ e = .returned v ∧ ¬ ∀ x ∈ xs, x.1 ≤ 31)) := by
  subst hn
  rw [← madeRows_zero (offRow)] at hg
  go_enter Tryd.func77, Tryd.ntmps77
  go_wp2
  go_loopg [14] (xs.length + 1) (fun gg i wr => ∃ j : Nat, xs.length - j < gg ∧ j ≤ xs.length ∧ i = .int .i64 j ∧ Hid (∀ x ∈ xs.take j, x.1 ≤ 31) ∧ Blk wr g 214 (flat rowB (madeRows (offRow) xs j)) ∧ Keep (· = g) w wr)
  case atStart => exact ⟨0, by omega, by omega, rfl, by simp [Hid], hg, Keep.refl _ _⟩
  case round =>
    obtain ⟨j, q1, q2, rfl, q3, qg, qk⟩ := hrel
    by_cases hlt : j < xs.length
    · obtain ⟨gx, o, x, hRx, rfl, hx, hc⟩ := (hs.keep qk (fun k _ hk => by rintro rfl; exact hR hk)).row celE_length (by decide) hlt
      have hfx := hf x (List.mem_of_getElem? hx.out)
      have hpush := madeRows_push (f := offRow) hx.out
      obtain ⟨x0, x1, x2⟩ := x
      obtain ⟨h0, h1, h2⟩ := hfx
      have c0 : wr.cell? ⟨gx, o + j * 3, none⟩ = some (.int .u8 x0) := hc 0 _ rfl
      have c1 : wr.cell? ⟨gx, o + j * 3 + 1, none⟩ = some (.int .u8 x1) := hc 1 _ rfl
      have c2 : wr.cell? ⟨gx, o + j * 3 + 2, none⟩ = some (.int .u16 x2) := hc 2 _ rfl
      have hat := madeRows_at (f := offRow) hlt
      have d0 : wr.cell? ⟨g, j * 4, none⟩ = some (.int .u32 0) := qg.row rowB_length (j := 0) hat rfl
      have d1 : wr.cell? ⟨g, j * 4 + 1, none⟩ = some (.int .u8 0) := qg.row rowB_length (j := 1) hat rfl
      have d2 : wr.cell? ⟨g, j * 4 + 2, none⟩ = some (.int .u8 0) := qg.row rowB_length (j := 2) hat rfl
      have d3 : wr.cell? ⟨g, j * 4 + 3, none⟩ = some (.int .u16 0) := qg.row rowB_length (j := 3) hat rfl
      have f0 := qg.frozen (j * 4)
      have f1 := qg.frozen (j * 4 + 1)
      have f2 := qg.frozen (j * 4 + 2)
      have f3 := qg.frozen (j * 4 + 3)
      simp only at h0 h1 h2
      have Hpush := Lib.hid hpush
      have hgl : g < wr.heap.size := qg.lt
      have hne1 : wr.heap.size ≠ g := by omega
      have hne2 : wr.heap.size + 1 ≠ g := by omega
      have Hat := Lib.hid hat
      clear hc hpush hat
      have hq3 : x0 ≤ 31 → ∀ x ∈ xs.take (j + 1), x.1 ≤ 31 := by
        intro hle x hxm
        rw [take_push hx.out] at hxm
        rcases List.mem_append.1 hxm with h | h
        · exact q3.out x h
        · rw [List.mem_singleton.1 h]; exact hle
      have Hq3 := Lib.hid hq3
      clear hq3
      by_cases hhi : 31 < x0
      · have he2 := he.keep qk (fun k hk => by omega)
        have hr2 := hr.keep qk hrg
        have hk2 : Kept wr ((wr.alloc (.cells #[.int .u8 x0, .int .u8 x1, .int .u16 x2] 181)).alloc (.cells #[.int .u32 0, .int .u8 0, .int .u8 x1, .int .u16 x2] 214)) := ((Keep.refl _ _).alloc _).alloc _
        have he3 := he2.kept hk2
        have hr3 := hr2.kept hk2
        have qk3 := qk.kept hk2
        go_wp2_with fail
        refine (makeError1 rb off _ _ he3 hr3).mono ?_
        rintro e w' ⟨v, hv, rfl, hk⟩
        go_wp2
        go_ret
        refine ⟨qk3.kept hk, .inr ⟨v, hv, rfl, fun h => ?_⟩⟩
        have := h _ (List.mem_of_getElem? hx.out)
        simp only at this
        omega
      · obtain ⟨X, hX⟩ : ∃ X, X = 2 ^ x0 := ⟨_, rfl⟩
        have hXi : (2 : Int) ^ x0 = (X : Int) := by rw [two_pow_int, hX]
        have hX1 : X ≤ 2147483648 := by rw [hX]; exact pow_le_31 (by omega)
        by_cases h2x : 2 ≤ x0
        · have hX4 : 4 ≤ X := by rw [hX]; exact Nat.pow_le_pow_right (n := 2) (by decide) h2x
          have hrow : offRow (x0, x1, x2) = (X - 3, x0, x1, x2) := by simp only [offRow, if_pos h2x, hX]
          rw [hrow] at Hpush
          obtain ⟨Y, hY⟩ : ∃ Y, Y = X - 3 := ⟨_, rfl⟩
          have hYi : (X : Int) - 3 = (Y : Int) := by omega
          rw [← hY] at Hpush
          clear hrow hX hY
          go_wp2
          go_roundg (xs.length - j)
          case measure => exact q1
          case rel =>
            refine ⟨j + 1, by omega, by omega, rfl, Hq3.out (by omega), ?_, ?_⟩
            · refine Blk.cast ((((((qg.set _ _).set _ _).set _ _).set _ _).alloc _).alloc _) ?_
              rw [← Hpush.out]
              exact rowB_set Hat.out Y x0 x1 x2
            · exact (((((qk.set (p := ⟨g, j * 4, none⟩) (.inl rfl) _).set (p := ⟨g, j * 4 + 1, none⟩) (.inl rfl) _).set (p := ⟨g, j * 4 + 2, none⟩) (.inl rfl) _).set (p := ⟨g, j * 4 + 3, none⟩) (.inl rfl) _).alloc _).alloc _
        · have hrow : offRow (x0, x1, x2) = (X, x0, x1, x2) := by simp only [offRow, if_neg h2x, hX]
          rw [hrow] at Hpush
          clear hrow hX
          go_wp2
          go_roundg (xs.length - j)
          case measure => exact q1
          case rel =>
            refine ⟨j + 1, by omega, by omega, rfl, Hq3.out (by omega), ?_, ?_⟩
            · refine Blk.cast ((((((qg.set _ _).set _ _).set _ _).set _ _).alloc _).alloc _) ?_
              rw [← Hpush.out]
              exact rowB_set Hat.out X x0 x1 x2
            · exact (((((qk.set (p := ⟨g, j * 4, none⟩) (.inl rfl) _).set (p := ⟨g, j * 4 + 1, none⟩) (.inl rfl) _).set (p := ⟨g, j * 4 + 2, none⟩) (.inl rfl) _).set (p := ⟨g, j * 4 + 3, none⟩) (.inl rfl) _).alloc _).alloc _
    · obtain rfl : j = xs.length := by omega
      rw [List.take_length] at q3
      rw [madeRows_all] at qg
      go_wp2
      go_ret
      exact ⟨qk, .inl ⟨rfl, q3.out, qg⟩⟩
end Go.Proofs.YtabaholflahepaaDoor
