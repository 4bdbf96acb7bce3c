/-
  Contracts of zstd.ZZLow and impl.Low.
-/
import Derived.Test.YtabaholflahepaaDoorSpecLow
namespace Go.Proofs.YtabaholflahepaaDoor
open Go.RowKit

theorem makeBitReader_any (rb : Nat) (A : Option Addr) (c : Nat) (n off : Nat) (w : World) (h : off < 2 ^ 32) :
    Calls Tryd.prog 68 #[.pointer (some ⟨rb, 0, none⟩), .slice A n c, .int .i64 (off : Int)] w fun e w' =>
      e = .returned (.agg #[.pointer (some ⟨rb, 0, none⟩), .slice A n c, .int .u32 (off : Int), .int .u32 0, .int .u32 0]) ∧ Kept w w' := by
  go_enter Tryd.func68, Tryd.ntmps68
  go_wp2
  go_returns
  exact ⟨rfl, (Keep.refl _ _).alloc _⟩

theorem br_zero {rb : Nat} {A : Option Addr} {c : Nat} {ds : List Nat} : brCells rb A c ds 0 0 = [.pointer (some ⟨rb, 0, none⟩), .slice A ds.length c, .int .u32 0, .int .u32 0, .int .u32 0] := by
  simp [brCells, Nat.mod_one]

/-- A new Reader. -/
theorem rd_new (w : World) : RdOff (w.alloc (.cells Tryd.zeroCells157 157)) w.heap.size :=
  ⟨0, (cell_of_row _ _ 6 _ _ _ (heap_alloc_new w _)).trans (by kernel_rfl)⟩

set_option maxHeartbeats 400000 in
theorem zzLow_ok {R : Nat → Prop} (A A' : Option Addr) (c c' : Nat) (ds ns : List Nat) (w : World) (hs : Sl w R A (u8s ds)) (hs' : Sl w R A' (nats ns))
    (hd : Bytes ds) (hn : ∀ n ∈ ns, n ≤ 16) (hlen : ds.length < 2 ^ 27) (hlen' : ns.length < 2 ^ 31) (h1 : ∀ k, k < ns.length → (ns.take k).sum + 16 ≤ 8 * ds.length) :
    Calls Tryd.prog 44 #[.slice A ds.length c, .slice A' ns.length c'] w fun e w' => ∃ A2 c2, e = .returned (.tuple #[.slice A2 ns.length c2, .int .i64 ((ns.sum + 7) / 8 : Nat), .bool true]) ∧
      w'.ownsRow w.heap.size 91 1 (.slice A2 ns.length c2) ns.length (u32s (takes (num ds) 0 ns)) ∧ Kept w w' := by
  have H1 := Lib.hid h1
  clear h1
  have hk0 : Kept w (w.alloc (.cells Tryd.zeroCells157 157)) := (Keep.refl _ _).alloc _
  have hs0 := hs.kept hk0
  go_enter Tryd.func44, Tryd.ntmps44
  go_wp2_with (first
    | (at_builtin; refine wpList_append rfl _ _ rfl el158 hk0 none 0 0 [] rfl (World.ownsRow_nil _ _ _ _) ds.length (u8s ds) _ rfl (src_sl Tryd.underlying22 hs0 ds.length c (by simp) (u8s_one ds)) (by omega) ?_; intro A2 c2 w2 hown2 hk2 hg2; simp only [Nat.zero_add, List.nil_append] at hown2)
    | (go_at_call 68; refine (makeBitReader_any _ _ _ _ 0 _ (by decide)).mono ?_; rintro e w3 ⟨rfl, hk3⟩))
  obtain ⟨b, hbe⟩ : ∃ b, b = w3.heap.size := ⟨_, rfl⟩
  have hb0 : Blk (w3.alloc (.cells #[.pointer (some ⟨w.heap.size, 0, none⟩), .slice A2 ds.length c2, .int .u32 0, .int .u32 0, .int .u32 0] 160)) b 160 (brCells w.heap.size A2 c2 ds 0 0) := by
    rw [hbe, br_zero]; exact Blk.new w3 160 _
  have hk4 : Kept w2 (w3.alloc (.cells #[.pointer (some ⟨w.heap.size, 0, none⟩), .slice A2 ds.length c2, .int .u32 0, .int .u32 0, .int .u32 0] 160)) := hk3.alloc _
  have hsd : Sl (w3.alloc (.cells #[.pointer (some ⟨w.heap.size, 0, none⟩), .slice A2 ds.length c2, .int .u32 0, .int .u32 0, .int .u32 0] 160)) (· < w2.heap.size) A2 (u8s ds) :=
    ((Sl.of_own hown2).mono fun k hk => hk.2).kept (hk3.alloc _)
  have hb2 : w2.heap.size ≤ b := hbe ▸ hk3.size
  have hbw : w.heap.size ≤ b := Nat.le_trans hk2.size hb2
  rw [← hbe]
  have Hbe := Lib.hid hbe
  clear hbe
  go_loopg [4, 18] (ns.length + 1) (fun g v i wr => ∃ k A3 c3 off, ns.length - k < g ∧ k ≤ ns.length ∧ i = .int .i64 k ∧ v = .slice A3 k c3 ∧ wr.ownsRow w2.heap.size 91 1 (.slice A3 k c3) k (u32s (takes (num ds) 0 (ns.take k))) ∧
    Blk wr b 160 (brCells w.heap.size A2 c2 ds (ns.take k).sum off) ∧ (ns.take k).sum ≤ 8 * off ∧ off ≤ ds.length ∧ 8 * off ≤ (ns.take k).sum + 24 ∧ Sl wr (· < w2.heap.size) A2 (u8s ds) ∧ Kept w2 wr)
  case atStart => exact ⟨0, _, _, 0, by omega, by omega, rfl, rfl, by simpa [u32s, takes] using World.ownsRow_nil _ _ _ _, hb0, by simp, by omega, by omega, hsd, hk4⟩
  case round =>
    obtain ⟨k, A3, c3, off, q1, q2, rfl, rfl, qo, qb, q3, q4, q5, qs, qk⟩ := hrel
    by_cases hlt : k < ns.length
    · obtain ⟨g, o, n, hR, rfl, hcx, hxk⟩ := (hs'.kept (hk2.trans qk)).nat hlt
      have hn1 := hn n (List.mem_of_getElem? hxk.out)
      have hsum := H1.out k hlt
      have hne := own_ne qo qb (by decide)
      go_wp2_with (first
        | (go_at_call 69; refine (moreBits_ok b w.heap.size A2 c2 ds _ off _ qb qs (by omega) hd hlen q3 q4 q5 (by omega)).mono ?_; rintro e w5 ⟨rfl, off', p1, p2, p3, p4, hb1, hk1⟩; have qk1 := qk.then hk1 (fun k hk h => by subst h; omega); have qo1 := own_keep qo hk1 (fun g hg h => hne (h ▸ hg)); have qs1 := qs.keep hk1 (fun k _ h h' => by subst h'; omega))
        | (go_at_call 70; refine (val_any b w.heap.size A2 c2 ds _ off' n _ hb1 hn1 (by omega) p3).mono ?_; rintro e w6 ⟨rfl, hb3, hk3⟩; have qk2 := qk1.then hk3 (fun k hk h => by subst h; omega); have qo2 := own_keep qo1 hk3 (fun g hg h => hne (h ▸ hg)); have qs2 := qs1.keep hk3 (fun k _ h h' => by subst h'; omega))
        | (at_builtin; refine wpList_push rfl _ _ rfl el27 qk2 A3 k c3 _ rfl qo2 [.int .u32 (num ds / 2 ^ (ns.take k).sum % 2 ^ n : Nat)] rfl rfl (by simp [Value.oneCell']) (by omega) ?_; intro A4 c4 w7 hown4 hk5 hg5))
      go_roundg (ns.length - k)
      case measure => exact q1
      case rel =>
        refine ⟨k + 1, A4, c4, off', by omega, by omega, rfl, rfl, ?_, ?_, ?_, p2, ?_, sl_grown qs2 hg5 (fun j hj => by have := (qo2.lt j hj).1; omega), hk5⟩
        · rw [takes_push hxk.out, u32s, List.map_append]; exact hown4
        · rw [sum_push hxk.out]
          exact blk_grown hb3 hg5 (own_ne qo2 hb3 (by decide))
        · rw [sum_push hxk.out]; omega
        · rw [sum_push hxk.out]; omega
    · obtain rfl : k = ns.length := by omega
      rw [List.take_length] at qo qb q3 q5
      have hne := own_ne qo qb (by decide)
      go_wp2_with (go_at_call 71; refine (backup_any b w.heap.size A2 c2 ds _ off _ qb (by omega) q3 q5).mono ?_; rintro e w5 ⟨rfl, ⟨v3, v4, hb1⟩, hk1⟩; have qk1 := qk.then hk1 (fun k hk h => by subst h; omega); have qo1 := own_keep qo hk1 (fun g hg h => hne (h ▸ hg)); have e2 : w5.cell? ⟨b, 2, none⟩ = some (.int .u32 ((ns.sum + 7) / 8 : Nat)) := hb1.cell 2)
      go_quiet (fail)
      go_wp2
      go_ret3
      have := Hbe.out
      refine ⟨A3, c3, ?_, own_drewN (own_mono qo1 hk2.size) _, (hk2.trans qk1).drewN _⟩
      simp
set_option maxHeartbeats 400000 in
theorem zzLow_err {R : Nat → Prop} {B : Nat} (A A' : Option Addr) (c c' : Nat) (ds ns : List Nat) (w : World) (hs : Sl w R A (u8s ds)) (hs' : Sl w R A' (nats ns))
    (hd : Bytes ds) (hn : ∀ n ∈ ns, n ≤ 16) (hlen : ds.length < 2 ^ 27) (hlen' : ns.length < 2 ^ 31) (he : Errs B w) (h1 : ∃ k, k < ns.length ∧ 8 * ds.length < (ns.take k).sum + 16) :
    Calls Tryd.prog 44 #[.slice A ds.length c, .slice A' ns.length c'] w fun e w' => ∃ A2 n2 c2, e = .returned (.tuple #[.slice A2 n2 c2, .int .i64 0, .bool false]) ∧ Kept w w' := by
  obtain ⟨K, hK1, hK2⟩ := h1
  have H1 : Hid (8 * ds.length < (ns.take K).sum + 16) := hK2
  clear hK2
  have hk0 : Kept w (w.alloc (.cells Tryd.zeroCells157 157)) := (Keep.refl _ _).alloc _
  have hs0 := hs.kept hk0
  go_enter Tryd.func44, Tryd.ntmps44
  go_wp2_with (first
    | (at_builtin; refine wpList_append rfl _ _ rfl el158 hk0 none 0 0 [] rfl (World.ownsRow_nil _ _ _ _) ds.length (u8s ds) _ rfl (src_sl Tryd.underlying22 hs0 ds.length c (by simp) (u8s_one ds)) (by omega) ?_; intro A2 c2 w2 hown2 hk2 hg2; simp only [Nat.zero_add, List.nil_append] at hown2)
    | (go_at_call 68; refine (makeBitReader_any _ _ _ _ 0 _ (by decide)).mono ?_; rintro e w3 ⟨rfl, hk3⟩))
  have hr2 : RdOff w2 w.heap.size := by
    obtain ⟨x, hx⟩ := rd_new w
    exact ⟨x, hg2.cell hx (by simp [Value.ownBlock])⟩
  obtain ⟨b, hbe⟩ : ∃ b, b = w3.heap.size := ⟨_, rfl⟩
  have hb0 : Blk (w3.alloc (.cells #[.pointer (some ⟨w.heap.size, 0, none⟩), .slice A2 ds.length c2, .int .u32 0, .int .u32 0, .int .u32 0] 160)) b 160 (brCells w.heap.size A2 c2 ds 0 0) := by
    rw [hbe, br_zero]; exact Blk.new w3 160 _
  have hk4 : Kept w2 (w3.alloc (.cells #[.pointer (some ⟨w.heap.size, 0, none⟩), .slice A2 ds.length c2, .int .u32 0, .int .u32 0, .int .u32 0] 160)) := hk3.alloc _
  have hsd : Sl (w3.alloc (.cells #[.pointer (some ⟨w.heap.size, 0, none⟩), .slice A2 ds.length c2, .int .u32 0, .int .u32 0, .int .u32 0] 160)) (· < w2.heap.size) A2 (u8s ds) :=
    ((Sl.of_own hown2).mono fun k hk => hk.2).kept (hk3.alloc _)
  have hb2 : w2.heap.size ≤ b := hbe ▸ hk3.size
  have hbw : w.heap.size ≤ b := Nat.le_trans hk2.size hb2
  rw [← hbe]
  have Hbe := Lib.hid hbe
  clear hbe
  go_loopg [4, 18] (ns.length + 1) (fun g v i wr => ∃ k A3 c3 off, ns.length - k < g ∧ k ≤ K ∧ i = .int .i64 k ∧ v = .slice A3 k c3 ∧ wr.ownsRow w2.heap.size 91 1 (.slice A3 k c3) k (u32s (takes (num ds) 0 (ns.take k))) ∧
    Blk wr b 160 (brCells w.heap.size A2 c2 ds (ns.take k).sum off) ∧ (ns.take k).sum ≤ 8 * off ∧ off ≤ ds.length ∧ 8 * off ≤ (ns.take k).sum + 24 ∧ Sl wr (· < w2.heap.size) A2 (u8s ds) ∧ Kept w2 wr)
  case atStart => exact ⟨0, _, _, 0, by omega, by omega, rfl, rfl, by simpa [u32s, takes] using World.ownsRow_nil _ _ _ _, hb0, by simp, by omega, by omega, hsd, hk4⟩
  case round =>
    obtain ⟨k, A3, c3, off, q1, q2, rfl, rfl, qo, qb, q3, q4, q5, qs, qk⟩ := hrel
    have hk9 := hk2.trans qk
    have he9 := he.kept hk9
    have hr9 := hr2.kept qk
    by_cases hlt : k < ns.length
    · obtain ⟨g, o, n, hR, rfl, hcx, hxk⟩ := (hs'.kept hk9).nat hlt
      have hn1 := hn n (List.mem_of_getElem? hxk.out)
      have hne := own_ne qo qb (by decide)
      by_cases hin : (ns.take k).sum + 16 ≤ 8 * ds.length
      · have hkK : k < K := by
          rcases Nat.lt_or_ge k K with h | h
          · exact h
          · have := H1.out
            obtain rfl : k = K := by omega
            omega
        go_wp2_with (first
          | (go_at_call 69; refine (moreBits_ok b w.heap.size A2 c2 ds _ off _ qb qs (by omega) hd hlen q3 q4 q5 (by omega)).mono ?_; rintro e w5 ⟨rfl, off', p1, p2, p3, p4, hb1, hk1⟩; have qk1 := qk.then hk1 (fun k hk h => by subst h; omega); have qo1 := own_keep qo hk1 (fun g hg h => hne (h ▸ hg)); have qs1 := qs.keep hk1 (fun k _ h h' => by subst h'; omega))
          | (go_at_call 70; refine (val_any b w.heap.size A2 c2 ds _ off' n _ hb1 hn1 (by omega) p3).mono ?_; rintro e w6 ⟨rfl, hb3, hk3⟩; have qk2 := qk1.then hk3 (fun k hk h => by subst h; omega); have qo2 := own_keep qo1 hk3 (fun g hg h => hne (h ▸ hg)); have qs2 := qs1.keep hk3 (fun k _ h h' => by subst h'; omega))
          | (at_builtin; refine wpList_push rfl _ _ rfl el27 qk2 A3 k c3 _ rfl qo2 [.int .u32 (num ds / 2 ^ (ns.take k).sum % 2 ^ n : Nat)] rfl rfl (by simp [Value.oneCell']) (by omega) ?_; intro A4 c4 w7 hown4 hk5 hg5))
        go_roundg (ns.length - k)
        case measure => exact q1
        case rel =>
          refine ⟨k + 1, A4, c4, off', by omega, by omega, rfl, rfl, ?_, ?_, ?_, p2, ?_, sl_grown qs2 hg5 (fun j hj => by have := (qo2.lt j hj).1; omega), hk5⟩
          · rw [takes_push hxk.out, u32s, List.map_append]; exact hown4
          · rw [sum_push hxk.out]
            exact blk_grown hb3 hg5 (own_ne qo2 hb3 (by decide))
          · rw [sum_push hxk.out]; omega
          · rw [sum_push hxk.out]; omega
      · have hBw : B ≤ w.heap.size := by obtain ⟨_, _, _, _, _, _, _, _, _, _, _, _, _, _, h9⟩ := he; exact h9
        have hrb : w.heap.size ≠ b := by
          have := Hbe.out
          have h8 := hr2
          obtain ⟨x, hx⟩ := h8
          have := World.block_lt_of_cell? _ _ hx
          simp at this
          omega
        go_wp2_with (go_at_call 69; refine (moreBits_err b w.heap.size A2 c2 ds _ off _ qb qs (by omega) he9 (by omega) hr9 hrb hd hlen q3 q4 q5 (by omega)).mono ?_; rintro e w5 ⟨_, ⟨ti, tv, rfl⟩, rfl, hk1⟩; have qk1 := qk.then hk1 (fun k hk h => by subst h; omega))
        go_ret3
        exact ⟨A3, k, c3, rfl, hk2.trans qk1⟩
    · omega

/-- impl.Low hands on. -/
theorem implLow {w : World} {a b : Value} {Q : Ending → World → Prop} (h : Calls Tryd.prog 44 #[a, b] w Q) (hQ : ∀ e w', Q e w' → ∃ x y z, e = .returned (.tuple #[x, y, z])) :
    Calls Tryd.prog 18 #[a, b] w Q := by
  have H := Lib.hid h
  have HQ := Lib.hid hQ
  clear h hQ
  go_enter Tryd.func18, Tryd.ntmps18
  go_wp2_with fail
  refine H.out.mono ?_
  rintro e w' hq
  obtain ⟨x, y, z, rfl⟩ := HQ.out _ _ hq
  have Hq := Lib.hid hq
  clear hq
  go_wp2
  exact Hq.out
end Go.Proofs.YtabaholflahepaaDoor
