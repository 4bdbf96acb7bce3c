/-
  Contracts of zstd.ZZBack and impl.Back.
-/
import Derived.Test.YtabaholflahepaaDoorSpecBack
import Derived.Test.YtabaholflahepaaDoorImplLow
namespace Go.Proofs.YtabaholflahepaaDoor
open Go.RowKit

section
variable {R : Nat → Prop}

theorem zzBack_none (A : Option Addr) (c : Nat) (v : Value) (w : World) :
    Calls Tryd.prog 47 #[.slice A 0 c, v] w fun e w' => e = .returned (.tuple #[.slice none 0 0, .bool false]) ∧ w = w' := by
  go_enter Tryd.func47, Tryd.ntmps47
  go_wp2
  go_ret2
  exact ⟨rfl, rfl⟩

set_option maxHeartbeats 400000 in
theorem zzBack_zero {B : Nat} (A : Option Addr) (c : Nat) (v : Value) (ds : List Nat) (w : World) (hs : Sl w R A (u8s ds)) (hx : ds[ds.length - 1]? = some 0) (hlen : ds.length < 2 ^ 27) (he : Errs B w) :
    Calls Tryd.prog 47 #[.slice A ds.length c, v] w fun e w' => e = .returned (.tuple #[.slice none 0 0, .bool false]) ∧ Kept w w' := by
  have ho := (List.getElem?_eq_some_iff.1 hx).1
  have hk0 : Kept w (w.alloc (.cells Tryd.zeroCells157 157)) := (Keep.refl _ _).alloc _
  have hs0 := hs.kept hk0
  have he0 := he.kept hk0
  have hr0 := rd_new w
  have Hx := Lib.hid hx
  clear hx
  obtain ⟨l, hl⟩ : ∃ l, l + 1 = ds.length := ⟨ds.length - 1, by omega⟩
  have hl2 : l = ds.length - 1 := by omega
  have Hl2 := Lib.hid hl2
  have Hl := Lib.hid hl
  clear hl2
  have hl0 : ((ds.length : Int) == 0) = false := by rw [beq_eq_false_iff_ne]; omega
  have hl1 : (ds.length : Int) - 1 = (l : Int) := by omega
  clear hl
  go_enter Tryd.func47, Tryd.ntmps47
  go_wp2_with (first
    | (at_builtin; refine wpList_append rfl _ _ rfl el158 hk0 none 0 0 [] rfl (World.ownsRow_nil _ _ _ _) ds.length (u8s ds) _ rfl (src_sl Tryd.underlying22 hs0 ds.length c (by simp) (u8s_one ds)) (by omega) ?_; intro A2 c2 w2 hown2 hk2 hg2; simp only [Nat.zero_add, List.nil_append] at hown2)
    | (go_at_call 72; have hs2 := Sl.of_own hown2; refine (makeRev_bad (B := B) w.heap.size A2 c2 ds l 0 w2 hs2 (by rw [Hl2.out]; exact Hx.out) (he.kept hk2) ⟨_, hg2.cell hr0.choose_spec (by simp [Value.ownBlock])⟩).mono ?_; rintro e w3 ⟨_, ⟨ti, tv, rfl⟩, rfl, hk3⟩))
  go_ret2
  exact ⟨rfl, (hk2.trans hk3).alloc _⟩

set_option maxHeartbeats 1000000 in
theorem zzBack_ok {R' : Nat → Prop} (A A' : Option Addr) (c c' : Nat) (ds ns : List Nat) (x m : Nat) (w : World) (hs : Sl w R A (u8s ds)) (hs' : Sl w R' A' (nats ns)) (hmk : Mark ds x m)
    (hd : Bytes ds) (hn : ∀ n ∈ ns, n ≤ 16) (hlen : ds.length < 2 ^ 27) (hlen' : ns.length < 2 ^ 31) (hgo : ns.sum ≤ 8 * (ds.length - 1) + m) :
    Calls Tryd.prog 47 #[.slice A ds.length c, .slice A' ns.length c'] w fun e w' => ∃ A2 c2, e = .returned (.tuple #[.slice A2 ns.length c2, .bool true]) ∧
      w'.ownsRow w.heap.size 91 1 (.slice A2 ns.length c2) ns.length (u32s (backs (num ds) ((8 * (ds.length - 1 : Nat) + m : Nat) : Int) ns)) ∧ Kept w w' := by
  obtain ⟨h1, h2, h3, h4⟩ := hmk
  have hm := (byte_top h2 h3 h4).2
  have ho := (List.getElem?_eq_some_iff.1 h1).1
  have hk0 : Kept w (w.alloc (.cells Tryd.zeroCells157 157)) := (Keep.refl _ _).alloc _
  have hs0 := hs.kept hk0
  have Hx := Lib.hid h1
  clear h1
  have Hm2 := Lib.hid h2
  have Hm3 := Lib.hid h3
  clear h2 h3
  obtain ⟨l, hl⟩ : ∃ l, l + 1 = ds.length := ⟨ds.length - 1, by omega⟩
  obtain ⟨L, hL⟩ : ∃ L : Nat, L = 8 * (ds.length - 1 : Nat) + m := ⟨_, rfl⟩
  rw [← hL] at hgo ⊢
  have hl2 : l = ds.length - 1 := by omega
  have HL : Hid (L = 8 * l + m) := hl2 ▸ hL
  have Hl2 := Lib.hid hl2
  have Hl := Lib.hid hl
  clear hl2 hL
  have hl0 : ((ds.length : Int) == 0) = false := by rw [beq_eq_false_iff_ne]; omega
  have hl1 : (ds.length : Int) - 1 = (l : Int) := by omega
  clear hl
  have hsum : ∀ k, (ns.take k).sum ≤ L := fun k => Nat.le_trans (sum_take_le ns k) hgo
  have Hsum := Lib.hid hsum
  clear hsum
  go_enter Tryd.func47, Tryd.ntmps47
  go_wp2_with (first
    | (at_builtin; refine wpList_append rfl _ _ rfl el158 hk0 none 0 0 [] rfl (World.ownsRow_nil _ _ _ _) ds.length (u8s ds) _ rfl (src_sl Tryd.underlying22 hs0 ds.length c (by simp) (u8s_one ds)) (by omega) ?_; intro A2 c2 w2 hown2 hk2 hg2; simp only [Nat.zero_add, List.nil_append] at hown2)
    | (go_at_call 72; have hs2 := Sl.of_own hown2; refine (makeRev_ok w.heap.size A2 c2 ds l 0 m x w2 hs2 hd hlen (by rw [Hl2.out]; exact Hx.out) Hm2.out Hm3.out (by omega)).mono ?_; rintro e w3 ⟨rfl, ha0, hk3⟩))
  obtain ⟨b, hbe⟩ : ∃ b, b = w3.heap.size := ⟨_, rfl⟩
  obtain ⟨W, hW⟩ : ∃ W, W = w3.alloc (.cells #[.pointer (some ⟨w.heap.size, 0, none⟩), .slice A2 ds.length c2, .int .u32 l, .int .u32 0, .int .u32 x, .int .u32 m] 167) := ⟨_, rfl⟩
  have hb0 : Rev W b w.heap.size A2 c2 ds 0 L := by
    rw [HL.out]
    refine ⟨l, x, m, ?_, ha0⟩
    rw [hbe, hW]; exact Blk.new w3 167 _
  have hk4 : Kept w2 W := hW ▸ hk3.alloc _
  have hsd : Sl W (· < w2.heap.size) A2 (u8s ds) := (hs2.mono fun k hk => hk.2).kept hk4
  have hb2 : w2.heap.size ≤ b := hbe ▸ hk3.size
  have hbw : w.heap.size ≤ b := Nat.le_trans hk2.size hb2
  rw [← hW, ← hbe]
  have Hbe := Lib.hid hbe
  have HW := Lib.hid hW
  clear hbe hW ha0
  go_loopg [4, 31] (ns.length + 1) (fun g v i wr => ∃ k A3 c3, ns.length - k < g ∧ k ≤ ns.length ∧ i = .int .i64 k ∧ v = .slice A3 k c3 ∧ wr.ownsRow w2.heap.size 91 1 (.slice A3 k c3) k (u32s (backs (num ds) L (ns.take k))) ∧
    Rev wr b w.heap.size A2 c2 ds 0 (L - (ns.take k).sum) ∧ Sl wr (· < w2.heap.size) A2 (u8s ds) ∧ Kept w2 wr)
  case atStart => exact ⟨0, _, _, by omega, by omega, rfl, rfl, by simpa [u32s, backs] using World.ownsRow_nil _ _ _ _, by simpa using hb0, hsd, hk4⟩
  case round =>
    obtain ⟨k, A3, c3, q1, q2, rfl, rfl, qo, qb, qs, qk⟩ := hrel
    by_cases hlt : k < ns.length
    · obtain ⟨g, o, n, hR, rfl, hcx, hxk⟩ := (hs'.kept (hk2.trans qk)).nat hlt
      have hn1 := hn n (List.mem_of_getElem? hxk.out)
      have hsum := Hsum.out (k + 1)
      rw [sum_push hxk.out] at hsum
      have hne : (Value.slice A3 k c3).ownBlock ≠ some b := by obtain ⟨_, _, _, h, _⟩ := qb; exact own_ne qo h (by decide)
      have hval := backVal_in (num ds) (L - (ns.take k).sum) n (by omega)
      have hcall := rval_ok b w.heap.size A2 c2 ds 0 _ n _ qb qs (by omega) hd hlen hn1 (by omega)
      obtain ⟨v, hv⟩ : ∃ v, v = num ds / 2 ^ (L - (ns.take k).sum - n) % 2 ^ n := ⟨_, rfl⟩
      rw [← hv] at hval hcall
      have Hval := Lib.hid hval
      have Hcall := Lib.hid hcall
      have hmin : min (n : Int) 16 = n := by omega
      clear hval hcall hv
      go_wp2_with (first
        | (go_at_call 73; refine Hcall.out.mono ?_; rintro e w5 ⟨rfl, hb1, hk1⟩; have qk1 := qk.then hk1 (fun k hk h => by subst h; omega); have qo1 := own_keep qo hk1 (fun g hg h => hne (h ▸ hg)); have qs1 := qs.keep hk1 (fun k _ h h' => by subst h'; omega))
        | (at_builtin; refine wpList_push rfl _ _ rfl el27 qk1 A3 k c3 _ rfl qo1 [.int .u32 (v : Nat)] rfl rfl (by simp [Value.oneCell']) (by omega) ?_; intro A4 c4 w7 hown4 hk5 hg5))
      go_roundg (ns.length - k)
      case measure => exact q1
      case rel =>
        refine ⟨k + 1, A4, c4, by omega, by omega, rfl, rfl, ?_, ?_, sl_grown qs1 hg5 (fun j hj => by have := (qo1.lt j hj).1; omega), hk5⟩
        · rw [backs_push hxk.out, u32s, List.map_append, show (L : Int) - ((ns.take k).sum : Nat) = ((L - (ns.take k).sum : Nat) : Int) by omega, Hval.out]; exact hown4
        · rw [sum_push hxk.out, ← Nat.sub_sub]
          obtain ⟨o', y, n', h1, h2⟩ := hb1
          exact ⟨o', y, n', blk_grown h1 hg5 (own_ne qo1 h1 (by decide)), h2⟩
    · obtain rfl : k = ns.length := by omega
      rw [List.take_length] at qo
      go_wp2
      go_ret2
      exact ⟨A3, c3, rfl, own_mono qo hk2.size, hk2.trans qk⟩

set_option maxHeartbeats 1000000 in
theorem zzBack_bad {R' : Nat → Prop} {B : Nat} (A A' : Option Addr) (c c' : Nat) (ds ns : List Nat) (x m : Nat) (w : World) (hs : Sl w R A (u8s ds)) (hs' : Sl w R' A' (nats ns)) (hmk : Mark ds x m)
    (hd : Bytes ds) (hn : ∀ n ∈ ns, n ≤ 16) (hlen : ds.length < 2 ^ 27) (hlen' : ns.length < 2 ^ 31) (hgo : 8 * (ds.length - 1) + m < ns.sum) (he : Errs B w) :
    Calls Tryd.prog 47 #[.slice A ds.length c, .slice A' ns.length c'] w fun e w' => ∃ A2 n2 c2, e = .returned (.tuple #[.slice A2 n2 c2, .bool false]) ∧ Kept w w' := by
  obtain ⟨h1, h2, h3, h4⟩ := hmk
  have hm := (byte_top h2 h3 h4).2
  have ho := (List.getElem?_eq_some_iff.1 h1).1
  have hk0 : Kept w (w.alloc (.cells Tryd.zeroCells157 157)) := (Keep.refl _ _).alloc _
  have hs0 := hs.kept hk0
  have Hx := Lib.hid h1
  clear h1
  have Hm2 := Lib.hid h2
  have Hm3 := Lib.hid h3
  clear h2 h3
  obtain ⟨l, hl⟩ : ∃ l, l + 1 = ds.length := ⟨ds.length - 1, by omega⟩
  obtain ⟨L, hL⟩ : ∃ L : Nat, L = 8 * (ds.length - 1 : Nat) + m := ⟨_, rfl⟩
  rw [← hL] at hgo
  have hl2 : l = ds.length - 1 := by omega
  have HL : Hid (L = 8 * l + m) := hl2 ▸ hL
  have Hl2 := Lib.hid hl2
  have Hl := Lib.hid hl
  clear hl2 hL
  have hl0 : ((ds.length : Int) == 0) = false := by rw [beq_eq_false_iff_ne]; omega
  have hl1 : (ds.length : Int) - 1 = (l : Int) := by omega
  clear hl
  have hr0 := rd_new w
  go_enter Tryd.func47, Tryd.ntmps47
  go_wp2_with (first
    | (at_builtin; refine wpList_append rfl _ _ rfl el158 hk0 none 0 0 [] rfl (World.ownsRow_nil _ _ _ _) ds.length (u8s ds) _ rfl (src_sl Tryd.underlying22 hs0 ds.length c (by simp) (u8s_one ds)) (by omega) ?_; intro A2 c2 w2 hown2 hk2 hg2; simp only [Nat.zero_add, List.nil_append] at hown2)
    | (go_at_call 72; have hs2 := Sl.of_own hown2; refine (makeRev_ok w.heap.size A2 c2 ds l 0 m x w2 hs2 hd hlen (by rw [Hl2.out]; exact Hx.out) Hm2.out Hm3.out (by omega)).mono ?_; rintro e w3 ⟨rfl, ha0, hk3⟩))
  have hr2 : RdOff w2 w.heap.size := by
    obtain ⟨x, hx⟩ := hr0
    exact ⟨x, hg2.cell hx (by simp [Value.ownBlock])⟩
  obtain ⟨b, hbe⟩ : ∃ b, b = w3.heap.size := ⟨_, rfl⟩
  obtain ⟨W, hW⟩ : ∃ W, W = w3.alloc (.cells #[.pointer (some ⟨w.heap.size, 0, none⟩), .slice A2 ds.length c2, .int .u32 l, .int .u32 0, .int .u32 x, .int .u32 m] 167) := ⟨_, rfl⟩
  have hb0 : Rev W b w.heap.size A2 c2 ds 0 L := by
    rw [HL.out]
    refine ⟨l, x, m, ?_, ha0⟩
    rw [hbe, hW]; exact Blk.new w3 167 _
  have hk4 : Kept w2 W := hW ▸ hk3.alloc _
  have hsd : Sl W (· < w2.heap.size) A2 (u8s ds) := (hs2.mono fun k hk => hk.2).kept hk4
  have hb2 : w2.heap.size ≤ b := hbe ▸ hk3.size
  have hbw : w.heap.size ≤ b := Nat.le_trans hk2.size hb2
  rw [← hW, ← hbe]
  have Hbe := Lib.hid hbe
  have HW := Lib.hid hW
  clear hbe hW ha0
  go_loopg [4, 31] (ns.length + 1) (fun g v i wr => ∃ k A3 c3, ns.length - k < g ∧ k ≤ ns.length ∧ i = .int .i64 k ∧ v = .slice A3 k c3 ∧ wr.ownsRow w2.heap.size 91 1 (.slice A3 k c3) k (u32s (backs (num ds) L (ns.take k))) ∧
    (ns.take k).sum ≤ L ∧ Rev wr b w.heap.size A2 c2 ds 0 (L - (ns.take k).sum) ∧ Sl wr (· < w2.heap.size) A2 (u8s ds) ∧ Kept w2 wr)
  case atStart => exact ⟨0, _, _, by omega, by omega, rfl, rfl, by simpa [u32s, backs] using World.ownsRow_nil _ _ _ _, by simp, by simpa using hb0, hsd, hk4⟩
  case round =>
    obtain ⟨k, A3, c3, q1, q2, rfl, rfl, qo, qL, qb, qs, qk⟩ := hrel
    by_cases hlt : k < ns.length
    · obtain ⟨g, o, n, hR, rfl, hcx, hxk⟩ := (hs'.kept (hk2.trans qk)).nat hlt
      have hn1 := hn n (List.mem_of_getElem? hxk.out)
      have hne : (Value.slice A3 k c3).ownBlock ≠ some b := by obtain ⟨_, _, _, h, _⟩ := qb; exact own_ne qo h (by decide)
      by_cases hin : (ns.take k).sum + n ≤ L
      · have hval := backVal_in (num ds) (L - (ns.take k).sum) n (by omega)
        have hcall := rval_ok b w.heap.size A2 c2 ds 0 _ n _ qb qs (by omega) hd hlen hn1 (by omega)
        obtain ⟨v, hv⟩ : ∃ v, v = num ds / 2 ^ (L - (ns.take k).sum - n) % 2 ^ n := ⟨_, rfl⟩
        rw [← hv] at hval hcall
        have Hval := Lib.hid hval
        have Hcall := Lib.hid hcall
        have hmin : min (n : Int) 16 = n := by omega
        clear hval hcall hv
        go_wp2_with (first
          | (go_at_call 73; refine Hcall.out.mono ?_; rintro e w5 ⟨rfl, hb1, hk1⟩; have qk1 := qk.then hk1 (fun k hk h => by subst h; omega); have qo1 := own_keep qo hk1 (fun g hg h => hne (h ▸ hg)); have qs1 := qs.keep hk1 (fun k _ h h' => by subst h'; omega))
          | (at_builtin; refine wpList_push rfl _ _ rfl el27 qk1 A3 k c3 _ rfl qo1 [.int .u32 (v : Nat)] rfl rfl (by simp [Value.oneCell']) (by omega) ?_; intro A4 c4 w7 hown4 hk5 hg5))
        go_roundg (ns.length - k)
        case measure => exact q1
        case rel =>
          refine ⟨k + 1, A4, c4, by omega, by omega, rfl, rfl, ?_, by rw [sum_push hxk.out]; exact hin, ?_, sl_grown qs1 hg5 (fun j hj => by have := (qo1.lt j hj).1; omega), hk5⟩
          · rw [backs_push hxk.out, u32s, List.map_append, show (L : Int) - ((ns.take k).sum : Nat) = ((L - (ns.take k).sum : Nat) : Int) by omega, Hval.out]; exact hown4
          · rw [sum_push hxk.out, ← Nat.sub_sub]
            obtain ⟨o', y, n', h1, h2⟩ := hb1
            exact ⟨o', y, n', blk_grown h1 hg5 (own_ne qo1 h1 (by decide)), h2⟩
      · have hBw : B ≤ w.heap.size := by obtain ⟨_, _, _, _, _, _, _, _, _, _, _, _, _, _, h9⟩ := he; exact h9
        have hrb : w.heap.size ≠ b := by
          obtain ⟨x, hx⟩ := hr2
          have := World.block_lt_of_cell? _ _ hx
          simp at this
          omega
        have hk9 := hk2.trans qk
        have hcall := rval_bad (B := B) b w.heap.size A2 c2 ds 0 _ n _ qb qs (by omega) (he.kept hk9) (by omega) (hr2.kept qk) hrb hd hlen hn1 (by omega) (by omega)
        have Hcall := Lib.hid hcall
        have hmin : min (n : Int) 16 = n := by omega
        clear hcall
        go_wp2_with (go_at_call 73; refine Hcall.out.mono ?_; rintro e w5 ⟨_, ⟨ti, tv, rfl⟩, rfl, hk1⟩; have qk1 := qk.then hk1 (fun k hk h => by subst h; omega))
        go_ret2
        exact ⟨A3, k, c3, rfl, hk2.trans qk1⟩
    · obtain rfl : k = ns.length := by omega
      rw [List.take_length] at qL
      omega

/-- impl.Back hands on. -/
theorem implBack {w : World} {a b : Value} {Q : Ending → World → Prop} (h : Calls Tryd.prog 47 #[a, b] w Q) (hQ : ∀ e w', Q e w' → ∃ x y, e = .returned (.tuple #[x, y])) :
    Calls Tryd.prog 22 #[a, b] w Q := by
  have H := Lib.hid h
  have HQ := Lib.hid hQ
  clear h hQ
  go_enter Tryd.func22, Tryd.ntmps22
  go_wp2_with fail
  refine H.out.mono ?_
  rintro e w' hq
  obtain ⟨x, y, rfl⟩ := HQ.out _ _ hq
  have Hq := Lib.hid hq
  clear hq
  go_wp2
  exact Hq.out
end
end Go.Proofs.YtabaholflahepaaDoor
