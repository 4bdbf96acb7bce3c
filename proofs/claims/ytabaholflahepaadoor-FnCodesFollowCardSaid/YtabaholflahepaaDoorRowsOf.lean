/-
  Contracts of ZZRows and impl.Rows, for every kind.
-/
import Derived.Test.YtabaholflahepaaDoorBase
namespace Go.Proofs.YtabaholflahepaaDoor
open Go.RowKit

theorem elBase : El Tryd.prog 147 214 (.agg #[.int .u32 0, .int .u8 0, .int .u8 0, .int .u16 0]) 4 8 := ⟨Tryd.underlying147, by kernel_rfl, rfl, by decide, by decide⟩

theorem rd_fresh (w : World) : RdOff (w.alloc (.cells Tryd.zeroCells157 157)) w.heap.size :=
  ⟨0, (cell_of_row _ _ 6 _ _ _ (heap_alloc_new w _)).trans (by kernel_rfl)⟩

/-- A kind's greatest code, its rows. -/
def topK (k : Nat) : Nat := if k = 0 then 35 else if k = 1 then 31 else 52
def rowK (k : Nat) (x : Nat × Nat × Nat) : Nat × Nat × Nat × Nat := if k = 1 then offRow x else rowFor k x
theorem code_fit0 : ∀ c, c < 36 → (codeOf 0 c).1 < 4294967296 ∧ (codeOf 0 c).2 < 256 := by decide
theorem code_fit2 : ∀ c, c < 53 → (codeOf 2 c).1 < 4294967296 ∧ (codeOf 2 c).2 < 256 := by decide
theorem rowK_fit {k : Nat} (hk : k = 0 ∨ k = 1 ∨ k = 2) {x : Nat × Nat × Nat} (hf : FitE x) (hx : x.1 ≤ topK k) : FitB (rowK k x) := by
  obtain ⟨_, h1, h2⟩ := hf
  rcases hk with rfl | rfl | rfl
  · have := code_fit0 x.1 (by simp [topK] at hx; omega)
    exact ⟨this.1, this.2, h1, h2⟩
  · have h31 : x.1 ≤ 31 := hx
    have := pow_le_31 h31
    refine ⟨?_, ?_, h1, h2⟩
    · simp only [rowK, if_true, offRow]
      split <;> omega
    · simp only [rowK, if_true, offRow]
      omega
  · have := code_fit2 x.1 (by simp [topK] at hx; omega)
    exact ⟨this.1, this.2, h1, h2⟩

set_option maxHeartbeats 2000000 in
set_option maxRecDepth 4000 in
theorem zzRowsOf {R : Nat → Prop} (k : Nat) (hk : k = 0 ∨ k = 1 ∨ k = 2) (A : Option Addr) (c n : Nat) (xs : List (Nat × Nat × Nat)) (hn : n = xs.length) (w : World) (hs : Sl w R A (flat cel3 xs)) (hf : ∀ x ∈ xs, FitE x)
    (hb : Bases w.heap.size w) (he : Eof w.heap.size w) (hlen : n ≤ 2147483648) :
    Calls Tryd.prog 53 #[.int .i64 k, .slice A n c] w fun e w' => Kept w w' ∧
      ((∃ A' c', e = .returned (.tuple #[.slice A' n c', .bool true]) ∧ (∀ x ∈ xs, x.1 ≤ topK k) ∧ w'.ownsRow w.heap.size 184 4 (.slice A' n c') n (flat row4 (xs.map (rowK k)))) ∨
        (e = .returned (.tuple #[.slice none 0 0, .bool false]) ∧ ¬ ∀ x ∈ xs, x.1 ≤ topK k)) := by
  subst hn
  have Hk := Lib.hid hk
  go_enter Tryd.func53, Tryd.ntmps53
  go_wp2
  go_loopg [6, 14] (xs.length + 1) (fun g v i wr => ∃ (j : Nat) (A' : Option Addr) (c' : Nat), xs.length - j < g ∧ j ≤ xs.length ∧ i = .int .i64 j ∧ v = .slice A' j c' ∧ wr.ownsRow w.heap.size 181 3 (.slice A' j c') j (flat celE (xs.take j)) ∧ Kept w wr)
  case atStart => exact ⟨0, none, 0, by omega, by omega, rfl, rfl, World.ownsRow_nil _ _ _ _, Keep.refl _ _⟩
  case round =>
    obtain ⟨j, A', c', q1, q2, rfl, rfl, qo, qk⟩ := hrel
    by_cases hlt : j < xs.length
    · obtain ⟨g, o, x, hR, rfl, hx, hc⟩ := (hs.kept qk).row cel3_length (by decide) hlt
      have hfx := hf x (List.mem_of_getElem? hx.out)
      obtain ⟨x0, x1, x2⟩ := x
      obtain ⟨h0, h1, h2⟩ := hfx
      simp only at h0 h1 h2
      have c0 : wr.cell? ⟨g, o + j * 3, none⟩ = some (.int .i64 x0) := hc 0 _ rfl
      have c1 : wr.cell? ⟨g, o + j * 3 + 1, none⟩ = some (.int .i64 x1) := hc 1 _ rfl
      have c2 : wr.cell? ⟨g, o + j * 3 + 2, none⟩ = some (.int .i64 x2) := hc 2 _ rfl
      have m0 : max (x0 : Int) 0 = x0 := by omega
      have m1 : max (x1 : Int) 0 = x1 := by omega
      have m2 : max (x2 : Int) 0 = x2 := by omega
      have n0 : min (x0 : Int) 255 = x0 := by omega
      have n1 : min (x1 : Int) 255 = x1 := by omega
      have n2 : min (x2 : Int) 65535 = x2 := by omega
      clear hc hk
      go_wp2_with (at_builtin; refine wpList_push rfl _ _ rfl elEntry (qk.alloc _) A' j c' _ rfl (qo.alloc _) (celE (x0, x1, x2)) (by simp [Act.eval]) rfl (by simp [celE, Value.oneCell']) (by omega) ?_; intro A3 c3 w3 hown3 hk3 _)
      go_roundg (xs.length - j)
      case measure => exact q1
      case rel => exact ⟨j + 1, A3, c3, by omega, by omega, rfl, rfl, by rw [flat_push hx.out]; exact hown3, hk3⟩
    · obtain rfl : j = xs.length := by omega
      rw [List.take_length] at qo
      rcases hk with rfl | rfl | rfl
      · go_wp2_with (at_make; refine wpList_make rfl _ _ rfl elBase .i64 .i64 xs.length xs.length rfl rfl (Nat.le_refl _) (by omega) ?_; intro w1 hk1 hg1)
        obtain ⟨g, hg⟩ : ∃ g, g = wr.heap.size := ⟨_, rfl⟩
        obtain ⟨rb, hrb⟩ : ∃ rb, rb = w1.heap.size := ⟨_, rfl⟩
        obtain ⟨W, hW⟩ : ∃ W, W = w1.alloc (.cells Tryd.zeroCells157 157) := ⟨_, rfl⟩
        have hgl := hg1.lt
        have hg2 : Blk W g 214 (flat rowB (List.replicate xs.length (0, 0, 0, 0))) := by
          rw [hW, hg]
          exact (Blk.cast hg1 (made_flat (f := rowB) (K := 4) _ (0, 0, 0, 0) rfl rfl (by decide) xs.length)).alloc _
        have hrd : RdOff W rb := by rw [hW, hrb]; exact rd_fresh w1
        have hkW : Kept w1 W := by rw [hW]; exact (Keep.refl _ _).alloc _
        have hk2 : Kept w W := (qk.trans hk1).trans hkW
        have hwg : w.heap.size ≤ g := by have := qk.size; omega
        have hrg : rb ≠ g := by omega
        have hso : Sl W (fun k => w.heap.size ≤ k ∧ k < g) A' (flat celE xs) := by rw [hg]; exact ((Sl.of_own qo).kept hk1).kept hkW
        have hb3 := hb.kept hk2
        have he3 := he.kept hk2
        rw [← hg, ← hrb, ← hW]
        clear hg hrb hW hg1 hgl
        refine (makeLit rb 0 A' c' xs.length g xs.length xs rfl W hso hf hg2 (fun h => by omega) hb3 he3 hrd hwg hrg hlen).mono ?_
        rintro e w2 ⟨hk3, ⟨rfl, hall, hgr⟩ | ⟨v, ⟨t, x, rfl⟩, rfl, hno⟩⟩
        · have hk4 : Kept w w2 := hk2.then hk3 (fun k hk e => by omega)
          have hl : xs.length = (xs.map (rowK 0)).length := by simp
          have hgr2 : Blk w2 g 214 (flat rowB (xs.map (rowK 0))) := hgr
          have hfit : ∀ x ∈ xs.map (rowK 0), FitB x := by
            intro x hx
            obtain ⟨y, hy, rfl⟩ := List.mem_map.1 hx
            exact rowK_fit (by decide) (hf y hy) (hall y hy)
          have hz := zzRows_any (some ⟨g, 0, none⟩) xs.length (xs.map (rowK 0)) w2 hgr2.sl hfit (by rw [← hl]; exact hlen)
          rw [← hl] at hz
          have Hz := Lib.hid hz
          clear hz hl hgr hgr2 hfit
          go_wp2_with (go_at_call 79; refine Hz.out.mono ?_; rintro e w3 ⟨A3, c3, rfl, ho3, hk5⟩)
          go_ret2
          exact ⟨hk4.trans hk5, .inl ⟨A3, c3, rfl, hall, own_mono ho3 hk4.size⟩⟩
        · have hk4 : Kept w w2 := hk2.then hk3 (fun k hk e => by omega)
          go_wp2
          go_ret2
          exact ⟨hk4, .inr ⟨rfl, hno⟩⟩
      · go_wp2_with (at_make; refine wpList_make rfl _ _ rfl elBase .i64 .i64 xs.length xs.length rfl rfl (Nat.le_refl _) (by omega) ?_; intro w1 hk1 hg1)
        obtain ⟨g, hg⟩ : ∃ g, g = wr.heap.size := ⟨_, rfl⟩
        obtain ⟨rb, hrb⟩ : ∃ rb, rb = w1.heap.size := ⟨_, rfl⟩
        obtain ⟨W, hW⟩ : ∃ W, W = w1.alloc (.cells Tryd.zeroCells157 157) := ⟨_, rfl⟩
        have hgl := hg1.lt
        have hg2 : Blk W g 214 (flat rowB (List.replicate xs.length (0, 0, 0, 0))) := by
          rw [hW, hg]
          exact (Blk.cast hg1 (made_flat (f := rowB) (K := 4) _ (0, 0, 0, 0) rfl rfl (by decide) xs.length)).alloc _
        have hrd : RdOff W rb := by rw [hW, hrb]; exact rd_fresh w1
        have hkW : Kept w1 W := by rw [hW]; exact (Keep.refl _ _).alloc _
        have hk2 : Kept w W := (qk.trans hk1).trans hkW
        have hwg : w.heap.size ≤ g := by have := qk.size; omega
        have hrg : rb ≠ g := by omega
        have hso : Sl W (fun k => w.heap.size ≤ k ∧ k < g) A' (flat celE xs) := by rw [hg]; exact ((Sl.of_own qo).kept hk1).kept hkW
        have hb3 := hb.kept hk2
        have he3 := he.kept hk2
        rw [← hg, ← hrb, ← hW]
        clear hg hrb hW hg1 hgl
        refine (makeOff rb 0 A' c' xs.length g xs.length xs rfl W hso hf hg2 (fun h => by omega) he3 hrd hwg hrg hlen).mono ?_
        rintro e w2 ⟨hk3, ⟨rfl, hall, hgr⟩ | ⟨v, ⟨t, x, rfl⟩, rfl, hno⟩⟩
        · have hk4 : Kept w w2 := hk2.then hk3 (fun k hk e => by omega)
          have hl : xs.length = (xs.map (rowK 1)).length := by simp
          have hgr2 : Blk w2 g 214 (flat rowB (xs.map (rowK 1))) := hgr
          have hfit : ∀ x ∈ xs.map (rowK 1), FitB x := by
            intro x hx
            obtain ⟨y, hy, rfl⟩ := List.mem_map.1 hx
            exact rowK_fit (by decide) (hf y hy) (hall y hy)
          have hz := zzRows_any (some ⟨g, 0, none⟩) xs.length (xs.map (rowK 1)) w2 hgr2.sl hfit (by rw [← hl]; exact hlen)
          rw [← hl] at hz
          have Hz := Lib.hid hz
          clear hz hl hgr hgr2 hfit
          go_wp2_with (go_at_call 79; refine Hz.out.mono ?_; rintro e w3 ⟨A3, c3, rfl, ho3, hk5⟩)
          go_ret2
          exact ⟨hk4.trans hk5, .inl ⟨A3, c3, rfl, hall, own_mono ho3 hk4.size⟩⟩
        · have hk4 : Kept w w2 := hk2.then hk3 (fun k hk e => by omega)
          go_wp2
          go_ret2
          exact ⟨hk4, .inr ⟨rfl, hno⟩⟩
      · go_wp2_with (at_make; refine wpList_make rfl _ _ rfl elBase .i64 .i64 xs.length xs.length rfl rfl (Nat.le_refl _) (by omega) ?_; intro w1 hk1 hg1)
        obtain ⟨g, hg⟩ : ∃ g, g = wr.heap.size := ⟨_, rfl⟩
        obtain ⟨rb, hrb⟩ : ∃ rb, rb = w1.heap.size := ⟨_, rfl⟩
        obtain ⟨W, hW⟩ : ∃ W, W = w1.alloc (.cells Tryd.zeroCells157 157) := ⟨_, rfl⟩
        have hgl := hg1.lt
        have hg2 : Blk W g 214 (flat rowB (List.replicate xs.length (0, 0, 0, 0))) := by
          rw [hW, hg]
          exact (Blk.cast hg1 (made_flat (f := rowB) (K := 4) _ (0, 0, 0, 0) rfl rfl (by decide) xs.length)).alloc _
        have hrd : RdOff W rb := by rw [hW, hrb]; exact rd_fresh w1
        have hkW : Kept w1 W := by rw [hW]; exact (Keep.refl _ _).alloc _
        have hk2 : Kept w W := (qk.trans hk1).trans hkW
        have hwg : w.heap.size ≤ g := by have := qk.size; omega
        have hrg : rb ≠ g := by omega
        have hso : Sl W (fun k => w.heap.size ≤ k ∧ k < g) A' (flat celE xs) := by rw [hg]; exact ((Sl.of_own qo).kept hk1).kept hkW
        have hb3 := hb.kept hk2
        have he3 := he.kept hk2
        rw [← hg, ← hrb, ← hW]
        clear hg hrb hW hg1 hgl
        refine (makeMatch rb 0 A' c' xs.length g xs.length xs rfl W hso hf hg2 (fun h => by omega) hb3 he3 hrd hwg hrg hlen).mono ?_
        rintro e w2 ⟨hk3, ⟨rfl, hall, hgr⟩ | ⟨v, ⟨t, x, rfl⟩, rfl, hno⟩⟩
        · have hk4 : Kept w w2 := hk2.then hk3 (fun k hk e => by omega)
          have hl : xs.length = (xs.map (rowK 2)).length := by simp
          have hgr2 : Blk w2 g 214 (flat rowB (xs.map (rowK 2))) := hgr
          have hfit : ∀ x ∈ xs.map (rowK 2), FitB x := by
            intro x hx
            obtain ⟨y, hy, rfl⟩ := List.mem_map.1 hx
            exact rowK_fit (by decide) (hf y hy) (hall y hy)
          have hz := zzRows_any (some ⟨g, 0, none⟩) xs.length (xs.map (rowK 2)) w2 hgr2.sl hfit (by rw [← hl]; exact hlen)
          rw [← hl] at hz
          have Hz := Lib.hid hz
          clear hz hl hgr hgr2 hfit
          go_wp2_with (go_at_call 79; refine Hz.out.mono ?_; rintro e w3 ⟨A3, c3, rfl, ho3, hk5⟩)
          go_ret2
          exact ⟨hk4.trans hk5, .inl ⟨A3, c3, rfl, hall, own_mono ho3 hk4.size⟩⟩
        · have hk4 : Kept w w2 := hk2.then hk3 (fun k hk e => by omega)
          go_wp2
          go_ret2
          exact ⟨hk4, .inr ⟨rfl, hno⟩⟩

set_option maxHeartbeats 1000000 in
theorem implRows {R : Nat → Prop} (k : Nat) (hk : k = 0 ∨ k = 1 ∨ k = 2) (A : Option Addr) (c n : Nat) (xs : List (Nat × Nat × Nat)) (hn : n = xs.length) (w : World) (hs : Sl w R A (flat cel3 xs)) (hf : ∀ x ∈ xs, FitE x)
    (hb : Bases w.heap.size w) (he : Eof w.heap.size w) (hlen : n ≤ 2147483648) :
    Calls Tryd.prog 28 #[.int .i64 k, .slice A n c] w fun e w' => Kept w w' ∧
      ((∃ A' c', e = .returned (.tuple #[.slice A' n c', .bool true]) ∧ (∀ x ∈ xs, x.1 ≤ topK k) ∧ w'.ownsRow w.heap.size 53 4 (.slice A' n c') n (flat row4 (xs.map (rowK k)))) ∨
        ((∃ A' m c', e = .returned (.tuple #[.slice A' m c', .bool false])) ∧ ¬ ∀ x ∈ xs, x.1 ≤ topK k)) := by
  subst hn
  have Hk := Lib.hid hk
  have Hf := Lib.hid hf
  clear hk hf
  go_enter Tryd.func28, Tryd.ntmps28
  go_wp2
  go_loopg [6, 13] (xs.length + 1) (fun g v i wr => ∃ (j : Nat) (A' : Option Addr) (c' : Nat), xs.length - j < g ∧ j ≤ xs.length ∧ i = .int .i64 j ∧ v = .slice A' j c' ∧ wr.ownsRow w.heap.size 106 3 (.slice A' j c') j (flat cel3 (xs.take j)) ∧ Kept w wr)
  case atStart => exact ⟨0, none, 0, by omega, by omega, rfl, rfl, World.ownsRow_nil _ _ _ _, Keep.refl _ _⟩
  case round =>
    obtain ⟨j, A', c', q1, q2, rfl, rfl, qo, qk⟩ := hrel
    by_cases hlt : j < xs.length
    · obtain ⟨g, o, x, hR, rfl, hx, hc⟩ := (hs.kept qk).row cel3_length (by decide) hlt
      obtain ⟨x0, x1, x2⟩ := x
      have c0 : wr.cell? ⟨g, o + j * 3, none⟩ = some (.int .i64 x0) := hc 0 _ rfl
      have c1 : wr.cell? ⟨g, o + j * 3 + 1, none⟩ = some (.int .i64 x1) := hc 1 _ rfl
      have c2 : wr.cell? ⟨g, o + j * 3 + 2, none⟩ = some (.int .i64 x2) := hc 2 _ rfl
      clear hc
      go_wp2_with (at_builtin; refine wpList_push rfl _ _ rfl elCellZ (qk.alloc _) A' j c' _ rfl (qo.alloc _) (cel3 (x0, x1, x2)) (by simp [Act.eval]) rfl (by simp [cel3, Value.oneCell']) (by omega) ?_; intro A3 c3 w3 hown3 hk3 _)
      go_roundg (xs.length - j)
      case measure => exact q1
      case rel => exact ⟨j + 1, A3, c3, by omega, by omega, rfl, rfl, by rw [flat_push hx.out]; exact hown3, hk3⟩
    · obtain rfl : j = xs.length := by omega
      rw [List.take_length] at qo
      have hb2 : Bases wr.heap.size wr := by
        have h := hb.kept qk
        obtain ⟨a, o, c, a', o', c', h1, h2, h3, h4, h5, h6, h7⟩ := h
        have := qk.size
        exact ⟨a, o, c, a', o', c', h1, h2, h3, h4, by omega, by omega, by omega⟩
      have he2 : Eof wr.heap.size wr := by
        have h := he.kept qk
        obtain ⟨q, cq, tq, h2, h5, h6, h8, h9⟩ := h
        exact ⟨q, cq, tq, h2, h5, by omega, by omega, Nat.le_refl _⟩
      go_wp2_with fail
      refine (zzRowsOf k Hk.out A' c' xs.length xs rfl wr (Sl.of_own qo) Hf.out hb2 he2 hlen).mono ?_
      rintro e w1 ⟨hk1, ⟨A1, c1, rfl, hall, ho1⟩ | ⟨rfl, hno⟩⟩
      · have hl : xs.length = (xs.map (rowK k)).length := by simp
        have hz := rowsOf_any A1 c1 (xs.map (rowK k)) w1 (Sl.of_own ho1) (by rw [← hl]; exact hlen)
        rw [← hl] at hz
        have Hz := Lib.hid hz
        clear hz hl
        go_wp2_with (go_at_call 54; refine Hz.out.mono ?_; rintro e w2 ⟨A2, c2, rfl, ho2, hk2⟩)
        go_ret2
        exact ⟨(qk.trans hk1).trans hk2, .inl ⟨A2, c2, rfl, hall, own_mono ho2 (qk.trans hk1).size⟩⟩
      · have hz := rowsOf_any (R := fun _ => True) none 0 [] w1 (Sl.nil _ _ _) (by decide)
        have Hz := Lib.hid hz
        clear hz
        go_wp2_with (go_at_call 54; refine Hz.out.mono ?_; rintro e w2 ⟨A2, c2, rfl, ho2, hk2⟩)
        go_ret2
        exact ⟨(qk.trans hk1).trans hk2, .inr ⟨⟨A2, _, c2, rfl⟩, hno⟩⟩
end Go.Proofs.YtabaholflahepaaDoor
