/-
  Contracts of ZZFSE, impl.Table, spec.Table.
-/
import Derived.Test.YtabaholflahepaaDoorRdFse
import Derived.Test.YtabaholflahepaaDoorProbS
namespace Go.Proofs.YtabaholflahepaaDoor
open Go.RowKit

/-- A description is told, with so many bits behind it as readFSE asks for. -/
def Refused (ds : List Nat) (Y M : Nat) : Prop := ∀ L ps q, desc (num ds) (8 * ds.length) (Y + 1) M 0 = some (L, ps, q) → 8 * ds.length < q + 16

/-- What reading a table from plain data leaves; t: the type of the states. -/
def TabPost (w : World) (t : TypeId) (ds : List Nat) (Y M : Nat) (e : Ending) (w' : World) : Prop :=
  Kept w w' ∧ ((∃ L ps q A' c', desc (num ds) (8 * ds.length) (Y + 1) M 0 = some (L, ps, q) ∧ e = .returned (.tuple #[.slice A' (2 ^ L) c', .int .i64 (L : Nat), .int .i64 ((q + 7) / 8 : Nat), .bool true]) ∧
      w'.ownsRow w.heap.size t 3 (.slice A' (2 ^ L) c') (2 ^ L) (flat cel3 (tab L ps))) ∨
    (∃ A' c', e = .returned (.tuple #[.slice A' 0 c', .int .i64 0, .int .i64 0, .bool false]) ∧ Refused ds Y M))

set_option maxHeartbeats 2000000 in
set_option maxRecDepth 4000 in
theorem zzFSE_any {R : Nat → Prop} {B : Nat} (A : Option Addr) (n c Y M : Nat) (ds : List Nat) (hn : n = ds.length) (w : World) (hs : Sl w R A (u8s ds)) (hd : Bytes ds) (hlen : ds.length < 2 ^ 24) (he : Errs B w) (hY : Y ≤ 255) (hM5 : 5 ≤ M) (hM : M ≤ 9) :
    Calls Tryd.prog 58 #[.slice A n c, .int .i64 Y, .int .i64 M] w (TabPost w 106 ds Y M) := by
  subst hn
  obtain ⟨m, hm⟩ : ∃ m, m = 2 ^ M := ⟨_, rfl⟩
  have hmi : (2 : Int) ^ M = (m : Int) := by rw [two_pow_int, hm]
  have hm9 : m ≤ 512 := by rw [hm]; exact Nat.pow_le_pow_right (by decide) hM
  have hBw : B ≤ w.heap.size := by obtain ⟨_, _, _, _, _, _, _, _, _, _, _, _, _, _, h9⟩ := he; exact h9
  have hx1 : max (Y : Int) 0 = Y := by omega
  have hx2 : min (Y : Int) 255 = Y := by omega
  have hx3 : max (M : Int) 5 = M := by omega
  have hx4 : min (M : Int) 9 = M := by omega
  have Hm := Lib.hid hm
  have Hd := Lib.hid hd
  clear hm hd
  go_enter Tryd.func58, Tryd.ntmps58
  go_wp2_with (first
    | (at_make; refine wpList_make rfl _ _ rfl elEntry .i64 .i64 m m rfl rfl (Nat.le_refl _) (by omega) ?_; intro w1 hk1 hg1; have hs2 := (hs.kept hk1).kept ((Keep.refl (fun _ => False) w1).alloc (.cells Tryd.zeroCells157 157)))
    | (at_builtin; refine wpList_append rfl _ _ rfl el158 (Keep.refl (fun _ => False) _) none 0 0 [] rfl (World.ownsRow_nil _ _ _ _) ds.length (u8s ds) _ rfl (src_sl Tryd.underlying22 hs2 ds.length c (by simp) (u8s_one ds)) (by omega) ?_; intro A2 c2 w2 hown2 hk4 hg5; simp only [Nat.zero_add, List.nil_append] at hown2))
  obtain ⟨g, hg⟩ : ∃ g, g = w.heap.size := ⟨_, rfl⟩
  rw [← hg] at hg1 ⊢
  have hg3 : Blk w1 g 181 (flat celE (List.replicate m (0, 0, 0))) := Blk.cast hg1 (made_flat (f := celE) (K := 3) _ (0, 0, 0) rfl rfl (by decide) m)
  have hgw := hg3.lt
  obtain ⟨rb, hrb⟩ : ∃ rb, rb = w1.heap.size := ⟨_, rfl⟩
  have hk2 : Kept w1 (w1.alloc (.cells Tryd.zeroCells157 157)) := (Keep.refl _ _).alloc _
  have hrd : RdOff (w1.alloc (.cells Tryd.zeroCells157 157)) rb := by rw [hrb]; exact rd_new w1
  have hsz : (w1.alloc (.cells Tryd.zeroCells157 157)).heap.size = rb + 1 := by simp [hrb]
  have hg4 := hg3.kept hk2
  have he4 := (he.kept hk1).kept hk2
  have hk3 := hk1.trans hk2
  rw [← hrb]
  clear hg1 hk2 hs hg3 he
  have Hrb := Lib.hid hrb
  have Hg := Lib.hid hg
  clear hrb hg
  have hread := readFSE_any rb A2 c2 0 Y M g m m ds _ w2 (Sl.of_own hown2) (hg4.kept hk4) (fun h => by have := h.1; have := Hrb.out; omega) (fun k h => h.2) (he4.kept hk4) (hrd.kept hk4) (by have := Hrb.out; omega) (by have := hk4.size; omega)
    (by have := Hg.out; omega) Hd.out hlen (Nat.zero_le _) hY hM (List.length_replicate ..) (by rw [← Hm.out]; exact Nat.le_refl _)
  have Hread := Lib.hid hread
  have hk5 := hk3.trans hk4
  have hw2 := hk4.size
  clear hread hown2 hg4 he4 hrd hs2 hk4 hg5
  refine Hread.out.mono ?_
  rintro e w3 ⟨hk6, h6⟩
  have hk7 : Kept w w3 := hk5.then hk6 (fun k hk h => by subst h; have := Hg.out; omega)
  rcases h6 with ⟨L, ps, q, hde, rfl, hb6⟩ | ⟨v, ⟨vt, vx, rfl⟩, rfl, hno⟩
  · have hds := desc_some hde hM
    have hL2 := hds.2.2.1
    have hsh := hds.2.2.2.2.2.1
    have hpl := hds.2.2.2.2.2.2.1
    have hq := hds.2.2.2.2.2.2.2.2
    clear hds
    obtain ⟨N, hN⟩ : ∃ N, N = 2 ^ L := ⟨_, rfl⟩
    have hNi : (2 : Int) ^ L = (N : Int) := by rw [two_pow_int, hN]
    have hNm : N ≤ m := by rw [hN, Hm.out]; exact Nat.pow_le_pow_right (by decide) hL2
    have hNmi : (N : Int) ≤ (m : Int) := by omega
    have hL9 : L ≤ 9 := by omega
    have htl : N = (tab L ps).length := by rw [tab_length, hN]
    have hfit := tab_fit hsh (by omega)
    have hsl : Sl w3 (· = g) (some ⟨g, 0, none⟩) (flat celE (tab L ps)) := by
      have := (hb6.sl).take (N * 3)
      rw [take_flat celE_length, htl, List.take_left] at this
      exact this
    have Hde := Lib.hid hde
    have Htl := Lib.hid htl
    have Hfit := Lib.hid hfit
    have HN := Lib.hid hN
    have hN512 : N ≤ 512 := by omega
    have hm0 : ¬ m = 0 := by have := Hm.out; have := pow_pos' M; omega
    clear hde htl hfit hN hb6 Hread
    obtain ⟨qq, hqq⟩ : ∃ qq, qq = (q + 7) / 8 := ⟨_, rfl⟩
    rw [← hqq]
    have Hqq := Lib.hid hqq
    clear hqq
    go_wp2_with (go_at_call 75; refine (zzCells_any (some ⟨g, 0, none⟩) m N (tab L ps) Htl.out w3 hsl Hfit.out (by rw [← Htl.out]; omega)).mono ?_; rw [← Htl.out]; rintro e w4 ⟨A4, c4, rfl, ho4, hk8⟩)
    refine bodyPost_ret (results4 rfl _ _ _) rfl ?_
    refine ⟨hk7.trans hk8, .inl ⟨L, ps, q, A4, c4, Hde.out, ?_, ?_⟩⟩
    · rw [← HN.out, ← Hqq.out]; rfl
    · rw [← HN.out]; exact own_mono ho4 hk7.size
  · have Hno := Lib.hid hno
    clear hno Hread
    go_wp2
    refine bodyPost_ret (results4 rfl _ _ _) rfl ?_
    exact ⟨hk7, .inr ⟨_, _, rfl, fun L ps q hq => Hno.out L ps q hq⟩⟩

set_option maxHeartbeats 400000 in
theorem implTable_any {R : Nat → Prop} {B : Nat} (A : Option Addr) (n c Y M : Nat) (ds : List Nat) (hn : n = ds.length) (w : World) (hs : Sl w R A (u8s ds)) (hd : Bytes ds) (hlen : ds.length < 2 ^ 24) (he : Errs B w) (hY : Y ≤ 255) (hM5 : 5 ≤ M) (hM : M ≤ 9) :
    Calls Tryd.prog 32 #[.slice A n c, .int .i64 Y, .int .i64 M] w (TabPost w 48 ds Y M) := by
  have hz := zzFSE_any A n c Y M ds hn w hs hd hlen he hY hM5 hM
  have Hz := Lib.hid hz
  clear hz hd hn hs he
  go_enter Tryd.func32, Tryd.ntmps32
  go_wp2_with fail
  refine Hz.out.mono ?_
  rintro e w1 ⟨hk1, ⟨L, ps, q, A1, c1, hde, rfl, ho⟩ | ⟨A1, c1, rfl, hno⟩⟩
  · have hL9 : L ≤ 9 := by have := (desc_some hde hM).2.2.1; omega
    obtain ⟨N, hN⟩ : ∃ N, N = 2 ^ L := ⟨_, rfl⟩
    have h512 : N ≤ 512 := by rw [hN]; exact Nat.pow_le_pow_right (by decide) hL9
    have hl : (tab L ps).length = N := by rw [tab_length, hN]
    obtain ⟨qq, hqq⟩ : ∃ qq, qq = (q + 7) / 8 := ⟨_, rfl⟩
    rw [← hN] at ho
    rw [← hqq, ← hN]
    have Hqq := Lib.hid hqq
    have HN := Lib.hid hN
    have Hl := Lib.hid hl
    have Hde := Lib.hid hde
    clear hqq hN hl hde Hz
    go_wp2_with (go_at_call 50; refine (cellsOf_any A1 c1 N (tab L ps) Hl.out.symm w1 (Sl.of_own ho) (by rw [Hl.out]; omega)).mono ?_; rw [Hl.out]; rintro e w2 ⟨A2, c2, rfl, ho2, hk2⟩)
    refine bodyPost_ret (results4 rfl _ _ _) rfl ?_
    refine ⟨hk1.trans hk2, .inl ⟨L, ps, q, A2, c2, Hde.out, ?_, ?_⟩⟩
    · rw [← HN.out, ← Hqq.out]; rfl
    · rw [← HN.out]; exact own_mono ho2 hk1.size
  · have Hno := Lib.hid hno
    have hcn := cellsOf_any (R := fun _ => True) A1 c1 0 [] rfl w1 (Sl.nil _ _ _) (by decide)
    have Hcn := Lib.hid hcn
    clear hno Hz hcn
    go_wp2_with (go_at_call 50; refine Hcn.out.mono ?_; rintro e w2 ⟨A2, c2, rfl, ho2, hk2⟩)
    refine bodyPost_ret (results4 rfl _ _ _) rfl ?_
    exact ⟨hk1.trans hk2, .inr ⟨_, _, rfl, Hno.out⟩⟩

theorem specTable_any {R : Nat → Prop} (A : Option Addr) (n c Y M : Nat) (ds : List Nat) (hn : n = ds.length) (w : World) (hs : Sl w R A (u8s ds)) (hR : ∀ k, R k → k < w.heap.size) (hd : Bytes ds) (hlen : ds.length < 2 ^ 24) (hY : Y ≤ 255) (hM5 : 5 ≤ M) (hM : M ≤ 9) :
    Calls Tryd.prog 31 #[.slice A n c, .int .i64 ((Y : Int) + 1), .int .i64 M] w fun e w' => Kept w w' ∧ ((∃ L ps q A' c', desc (num ds) (8 * ds.length) (Y + 1) M 0 = some (L, ps, q) ∧ e = .returned (.tuple #[.slice A' (2 ^ L) c', .int .i64 (L : Nat), .int .i64 ((q + 7) / 8 : Nat), .bool true]) ∧
      w'.ownsRow w.heap.size 57 3 (.slice A' (2 ^ L) c') (2 ^ L) (flat cel3 (tab L ps))) ∨
    (e = .returned (.tuple #[.slice none 0 0, .int .i64 0, .int .i64 0, .bool false]) ∧ desc (num ds) (8 * ds.length) (Y + 1) M 0 = none)) := by
  have hp := probs_any A n c ds M (Y + 1) hn w hs hR hd (by omega) hM (by omega)
  have Hp := Lib.hid hp
  clear hp hd hn
  go_enter Tryd.func31, Tryd.ntmps31
  go_wp2_with fail
  refine Hp.out.mono ?_
  rintro e w1 ⟨hk1, ⟨L, ps, q, A1, c1, hde, rfl, ho⟩ | ⟨hno, rfl⟩⟩
  · have hds := desc_some hde hM
    have hL9 : L ≤ 9 := by have := hds.2.2.1; omega
    have hsh := hds.2.2.2.2.2.1
    have hpl := hds.2.2.2.2.2.2.1
    clear hds
    have hsc := fun w' (hk : Kept w1 w') => specCells A1 ps.length c1 L ps rfl w' ((Sl.of_own ho).kept hk) hsh (by omega)
    obtain ⟨N, hN⟩ : ∃ N, N = 2 ^ L := ⟨_, rfl⟩
    obtain ⟨qq, hqq⟩ : ∃ qq, qq = (q + 7) / 8 := ⟨_, rfl⟩
    rw [← hN] at hsc
    rw [← hqq]
    have Hqq := Lib.hid hqq
    have HN := Lib.hid hN
    have Hsc := Lib.hid hsc
    have Hde := Lib.hid hde
    clear hqq hN hsc hde Hp
    go_wp2_with (go_at_call 27; refine (Hsc.out _ (Keep.refl _ _)).mono ?_; rintro e w2 ⟨A2, c2, rfl, ho2, hk2⟩)
    refine bodyPost_ret (results4 rfl _ _ _) rfl ?_
    refine ⟨hk1.trans hk2, .inl ⟨L, ps, q, A2, c2, Hde.out, ?_, ?_⟩⟩
    · rw [← HN.out, ← Hqq.out]; rfl
    · rw [← HN.out]; exact own_mono ho2 hk1.size
  · have Hno := Lib.hid hno
    clear hno Hp
    go_wp2
    refine bodyPost_ret (results4 rfl _ _ _) rfl ?_
    exact ⟨hk1, .inr ⟨rfl, Hno.out⟩⟩
end Go.Proofs.YtabaholflahepaaDoor
