/-
  Contracts of spec.numberLow and (spec.tree).decode. And more of its kind (LitN, LitQ, TreeK, LitS).
-/
import Derived.Test.YtabaholflahepaaDoorLitP
import Derived.Test.YtabaholflahepaaDoorTreeO
import Derived.Deep.CutRange
import Derived.Test.YtabaholflahepaaDoorTreeA
namespace Go.Proofs.YtabaholflahepaaDoor
open Go.RowKit

section
theorem num_push {l : List Nat} {k x : Nat} (h : l[k]? = some x) : num (l.take (k + 1)) = num (l.take k) + x * 2 ^ (8 * k) := by
  have hk := (List.getElem?_eq_some_iff.1 h).1
  rw [take_push h, num_append, List.length_take, Nat.min_eq_left (Nat.le_of_lt hk)]
  simp [num]

/-- The number of at most five bytes. -/
theorem numberLow_any {R : Nat → Prop} (A : Option Addr) (n c : Nat) (ds : List Nat) (hn : n = ds.length) (w : World) (hs : Sl w R A (u8s ds)) (hd : Bytes ds) (hlen : n ≤ 5) :
    Calls Tryd.prog 87 #[.slice A n c] w fun e w' => e = .returned (.int .i64 (num ds : Nat)) ∧ w = w' := by
  have Hn := Lib.hid hn
  clear hn
  go_enter Tryd.func87, Tryd.ntmps87
  go_wp2
  go_loopg [3, 8] (n + 1) (fun f s3 s8 wr => ∃ k v : Nat, n - k < f ∧ k ≤ n ∧ s3 = .int .i64 v ∧ s8 = .int .i64 k ∧ Hid (v = num (ds.take k)) ∧ w = wr)
  case atStart => exact ⟨0, 0, by omega, by omega, rfl, rfl, rfl, rfl⟩
  case round =>
    obtain ⟨k, v, q1, q2, rfl, rfl, q3, rfl⟩ := hrel
    by_cases hk : k < n
    · obtain ⟨g, o, x, _, rfl, hcx, hxk⟩ := hs.u8 (k := k) (by rw [← Hn.out]; exact hk)
      have hx256 := hd x (List.mem_of_getElem? hxk.out)
      have hv : v < 2 ^ (8 * k) := by
        rw [q3.out]
        have := num_lt (l := ds.take k) (fun x hx => hd x (List.mem_of_mem_take hx))
        rwa [List.length_take, Nat.min_eq_left (by rw [← Hn.out]; omega)] at this
      have hv32 : v < 4294967296 := Nat.lt_of_lt_of_le hv (by
        have := Nat.pow_le_pow_right (n := 2) (by decide) (show 8 * k ≤ 32 by omega)
        have e : (2 : Nat) ^ 32 = 4294967296 := by decide
        omega)
      obtain ⟨p, hp⟩ : ∃ p, p = 2 ^ (8 * k) := ⟨_, rfl⟩
      have hpi : (2 : Int) ^ (8 * k) = (p : Int) := by rw [two_pow_int, hp]
      have hp32 : p ≤ 4294967296 := by
        rw [hp]
        have := Nat.pow_le_pow_right (n := 2) (by decide) (show 8 * k ≤ 32 by omega)
        have e : (2 : Nat) ^ 32 = 4294967296 := by decide
        omega
      obtain ⟨y, hy⟩ : ∃ y, y = x * p := ⟨_, rfl⟩
      have hyi : (x : Int) * (p : Int) = (y : Int) := by rw [hy]; rfl
      have hy40 : y ≤ 1099511627776 := by
        rw [hy]
        calc x * p ≤ 256 * 4294967296 := Nat.mul_le_mul (by omega) hp32
          _ = _ := by decide
      have hor : bits .or .i64 (v : Int) (y : Int) = ((v + y : Nat) : Int) := by
        rw [i64_or_nat _ _ (by omega) (by omega), hy, hp, or_shift hv]
      have hwr : RowKit.wrap64 (y : Int) = (y : Int) := wrap64_nat (by omega)
      have hpush := num_push hxk.out
      rw [← q3.out, ← hp, ← hy] at hpush
      have Hpush := Lib.hid hpush
      clear hpush hy hp hv
      go_wp2
      go_roundg (n - k)
      case measure => exact q1
      case rel => exact ⟨k + 1, v + y, by omega, by omega, rfl, rfl, by show _ = _; rw [Hpush.out], rfl⟩
    · obtain rfl : k = n := by omega
      have hfull : ds.take k = ds := List.take_of_length_le (by rw [← Hn.out]; exact Nat.le_refl _)
      rw [hfull] at q3
      go_wp2
      go_ret
      exact ⟨by rw [← q3.out]; rfl, rfl⟩

/-- What decode hands back. -/
def DecPost (w : World) (ds : List Nat) (m : Nat) (rs : List (Nat × Nat)) (many : Nat) (e : Ending) (w' : World) : Prop :=
  Kept w w' ∧ ((ds = [] ∧ e = .returned (.tuple #[.slice none 0 0, .int .i64 0])) ∨ (ds ≠ [] ∧ NoMark ds ∧ e = .returned (.tuple #[.slice none 0 0, .int .i64 2])) ∨
    (∃ x n, Mark ds x n ∧ (((decS (num ds) m rs many ((8 * (ds.length - 1) + n : Nat) : Int) []).2 ≠ 0 ∧ e = .returned (.tuple #[.slice none 0 0, .int .i64 0])) ∨
      ((decS (num ds) m rs many ((8 * (ds.length - 1) + n : Nat) : Int) []).2 = 0 ∧ ∃ A' c', e = .returned (.tuple #[.slice A' many c', .int .i64 1]) ∧ w'.ownsRow w.heap.size 5 1 (.slice A' many c') many (u8s (decS (num ds) m rs many ((8 * (ds.length - 1) + n : Nat) : Int) []).1)))))

theorem decS_len (N m : Nat) (rs : List (Nat × Nat)) : ∀ (f : Nat) (L : Int) (out : List Nat), (decS N m rs f L out).1.length = out.length + f
  | 0, L, out => by simp [decS]
  | f + 1, L, out => by rw [decS, decS_len N m rs f]; simp; omega

set_option maxHeartbeats 4000000 in
set_option maxRecDepth 4000 in
theorem decode_any {R : Nat → Prop} {base m nn : Nat} (b : Nat) (rs : List (Nat × Nat)) (A : Option Addr) (c many : Nat) (ds : List Nat) (w : World) (ht : TreeAt w b base m nn rs) (hs : Sl w R A (u8s ds)) (hR : ∀ k, R k → k < w.heap.size) (hd : Bytes ds) (hlen : ds.length ≤ 1048576) (hmany : many ≤ 1048576)
    (hm : m ≤ 11) (hrl : nn = 2 ^ m) (hrow : ∀ x ∈ rs, x.1 < 256 ∧ x.2 ≤ 11) :
    Calls Tryd.prog 105 #[.pointer (some ⟨b, 0, none⟩), .slice A ds.length c, .int .i64 many] w (DecPost w ds m rs many) := by
  by_cases h0 : ds = []
  · subst h0
    go_enter Tryd.func105, Tryd.ntmps105
    go_wp2
    go_ret2
    exact ⟨Keep.refl _ _, .inl ⟨rfl, rfl⟩⟩
  have hl0 : ds.length ≠ 0 := fun h => h0 (List.eq_nil_of_length_eq_zero h)
  have hl0b : ((ds.length : Int) == 0) = false := beq_eq_false_iff_ne.2 (by omega)
  rcases mark_or hd with hno | ⟨x, n, hmk⟩
  · have hbk := backward_no A c ds w hs hno (by omega)
    have Hbk := Lib.hid hbk
    clear hbk
    go_enter Tryd.func105, Tryd.ntmps105
    go_wp2_with (go_at_call 45; (with_reducible refine Hbk.out.mono ?_); rintro e w1 ⟨rfl, rfl⟩)
    go_ret2
    exact ⟨Keep.refl _ _, .inr (.inl ⟨h0, hno, rfl⟩)⟩
  · have hbk := backward_ok A c ds x n w hs hmk.last (by omega) hmk.low hmk.high hmk.byte
    have hn7 := (byte_top hmk.low hmk.high hmk.byte).2
    obtain ⟨L0, hL0⟩ : ∃ L0, L0 = 8 * (ds.length - 1) + n := ⟨_, rfl⟩
    rw [← hL0] at hbk
    obtain ⟨A1, c1, A2, c2, htb, hnn, ho1, ho2, hap⟩ := ht
    obtain ⟨bb, hbb⟩ : ∃ x, x = w.heap.size := ⟨_, rfl⟩
    rw [← hbb] at hbk
    have Hbk := Lib.hid hbk
    have Hmk := Lib.hid hmk
    have HL0 := Lib.hid hL0
    have hL0b : L0 ≤ 8388608 := by omega
    have hL0c : L0 ≤ 8 * ds.length := by omega
    have hbw : w.heap.size ≤ bb := by omega
    have hwb : bb ≤ w.heap.size := by omega
    have hbl := htb.lt
    obtain ⟨D, hD⟩ : ∃ D, D = decS (num ds) m rs many (L0 : Int) [] := ⟨_, rfl⟩
    have HD := Lib.hid hD
    have Hd := Lib.hid hd
    have Hnn := Lib.hid hnn
    have Hrl := Lib.hid hrl
    have Hrow := Lib.hid hrow
    clear hbk hmk hL0 hbb hD hd hnn hrl hrow
    go_enter Tryd.func105, Tryd.ntmps105
    go_wp2_with (go_at_call 45; (with_reducible refine Hbk.out.mono ?_); rintro e w1 ⟨rfl, hb1, hk1⟩)
    go_loopg [10, 24] (many + 1) (fun f s10 s24 wr => ∃ (k : Nat) (L : Int) (out : List Nat) (A' : Option Addr) (c' : Nat), many - k < f ∧ k ≤ many ∧ s10 = .slice A' k c' ∧ s24 = .int .i64 k ∧ L ≤ L0 ∧ (-16 * (k : Int)) ≤ L ∧ Hid (D = decS (num ds) m rs (many - k) L out) ∧ Hid (k = out.length) ∧
      wr.ownsRow w.heap.size 5 1 (.slice A' k c') k (u8s out) ∧ Blk wr bb 96 (bkCells A c ds.length L) ∧ Kept w wr)
    case atStart => exact ⟨0, (L0 : Int), [], none, 0, by omega, by omega, rfl, rfl, by omega, by omega, HD.out, rfl, World.ownsRow_nil _ _ _ _, hb1, hk1⟩
    case round =>
      clear hb1 hk1
      obtain ⟨k, L, out, A', c', q1, q2, rfl, rfl, q3, q4, qD, qo, qr, qb, qk⟩ := hrel
      by_cases hk : k < many
      · obtain ⟨ki, hki⟩ : ∃ x, x = backVal (num ds) L m := ⟨_, rfl⟩
        have hkl : ki < nn := by rw [hki, Hrl.out]; exact backVal_lt _ _ _
        obtain ⟨⟨s, bt⟩, hx⟩ : ∃ x, rs[ki]? = some x := ⟨_, List.getElem?_eq_getElem (by rw [← Hnn.out]; exact hkl)⟩
        have hsb := Hrow.out _ (List.mem_of_getElem? hx)
        have hs256 : s < 256 := hsb.1
        have hbt11 : bt ≤ 11 := hsb.2
        have hgd : rs.getD (backVal (num ds) L m) (0, 0) = (s, bt) := by rw [← hki, List.getD_eq_getElem?_getD, hx]; rfl
        have hDn : D = decS (num ds) m rs (many - (k + 1)) (L - (bt : Int)) (out ++ [s]) := by
          rw [qD.out, show many - k = (many - (k + 1)) + 1 by omega, decS, hgd]
        have tb' := htb.kept qk
        have d0 : wr.cell? ⟨b, 0, none⟩ = some (.slice A1 nn c1) := tb'.cell 0
        have d1 : wr.cell? ⟨b, 1, none⟩ = some (.slice A2 nn c2) := tb'.cell 1
        have d2 : wr.cell? ⟨b, 2, none⟩ = some (.int .i64 (m : Int)) := tb'.cell 2
        obtain ⟨g1, p1, y1, _, hA1, hcy1, hyk1⟩ := ((Sl.of_own ho1).kept qk).nat (k := ki) (by rw [List.length_map, ← Hnn.out]; exact hkl)
        obtain ⟨g2, p2, y2, _, hA2, hcy2, hyk2⟩ := ((Sl.of_own ho2).kept qk).nat (k := ki) (by rw [List.length_map, ← Hnn.out]; exact hkl)
        obtain rfl : s = y1 := by have := hyk1.out; rw [List.getElem?_map, hx] at this; simpa using this
        obtain rfl : bt = y2 := by have := hyk2.out; rw [List.getElem?_map, hx] at this; simpa using this
        have e0 : wr.cell? ⟨bb, 0, none⟩ = some (.slice A ds.length c) := qb.cell 0
        have e1 : wr.cell? ⟨bb, 1, none⟩ = some (.int .i64 L) := qb.cell 1
        have hg1w := World.block_lt_of_cell? wr _ hcy1
        have hg2w := World.block_lt_of_cell? wr _ hcy2
        simp only at hg1w hg2w
        have hg1w2 : ¬ g1 = bb := fun h => by
          have h1 := (own_kept ho1 qk).lt g1 (by rw [hA1]; rfl)
          have h2 := (ho1.lt g1 (by rw [hA1]; rfl)).2
          omega
        have hL50 : -16777216 ≤ L := by omega
        have hbl2 := qb.lt
        have HDn := Lib.hid hDn
        have Hki := Lib.hid hki
        clear hDn hki hx hgd hyk1 hyk2 hsb
        go_upto_region 10 with (fail)
        obtain ⟨a, ha⟩ : ∃ x, x = wr.heap.size := ⟨_, rfl⟩
        obtain ⟨Wa, hWa⟩ : ∃ x, x = wr.alloc (.cells #[.slice A ds.length c, .int .i64 L] 96) := ⟨_, rfl⟩
        have haa : Blk Wa a 96 (bkCells A c ds.length L) := by rw [hWa, ha]; exact Blk.new wr 96 _
        have hka : Kept wr Wa := by rw [hWa]; exact (Keep.refl _ _).alloc _
        have hqs := qk.size
        have hrd := bkRead_any a A c ds L m Wa haa (hs.kept (qk.trans hka)) (fun h => by have := hR a h; omega) Hd.out (by omega) (by omega) (by omega) (by omega)
        rw [← Hki.out] at hrd
        have Hrd := Lib.hid hrd
        have haw : wr.heap.size ≤ a := by omega
        rw [← ha, ← hWa]
        have f2 : Wa.cell? ⟨b, 2, none⟩ = some (.int .i64 (m : Int)) := hka.cell d2 (fun h => h)
        clear hrd ha hWa
        go_upto_region 11 with (go_at_call 46; (with_reducible refine Hrd.out.mono ?_); rintro e w2 ⟨rfl, ha2, hk2⟩)
        have hab : b ≠ a := by omega
        have habb : bb ≠ a := by omega
        have hag1 : g1 ≠ a := by omega
        have hag2 : g2 ≠ a := by omega
        have hk3 : Kept wr w2 := hka.then hk2 (fun k hk h => by omega)
        have hk4 : Kept wr w2.drew := hk3.drew
        have j0 : w2.drew.cell? ⟨b, 0, none⟩ = some (.slice A1 nn c1) := hk4.cell d0 (fun h => h)
        have j1 : w2.drew.cell? ⟨b, 1, none⟩ = some (.slice A2 nn c2) := hk4.cell d1 (fun h => h)
        have j2 : w2.drew.cell? ⟨g2, p2 + ki, none⟩ = some (.int .i64 (bt : Int)) := hk4.cell hcy2 (fun h => h)
        have hb4 := qb.kept hk4
        have j4 : w2.drew.cell? ⟨bb, 1, none⟩ = some (.int .i64 L) := hb4.cell 1
        have j5 := hb4.frozen 1
        have hki2 : (ki : Int) < (nn : Int) := by omega
        have hbb2 : b ≠ bb := fun h => by have := (htb.kept (qk.trans hk4)).ne hb4 (by decide); exact this h
        have hg1bb : ¬ g1 = bb := hg1w2
        subst hA1 hA2
        go_region
        all_goals
          obtain ⟨W5, hW5⟩ : ∃ x, x = (w2.setCell ⟨bb, 1, none⟩ (.int .i64 (L - (bt : Int)))).drew := ⟨_, rfl⟩
          have vb : Blk W5 bb 96 (bkCells A c ds.length (L - (bt : Int))) := by rw [hW5]; exact ((qb.kept hk3).set 1 _).drew
          have vk : Kept w W5 := by rw [hW5]; exact ((qk.trans hk3).set (p := ⟨bb, 1, none⟩) (.inr hbw) _).drew
          have vr : W5.ownsRow w.heap.size 5 1 (.slice A' k c') k (u8s out) := by
            rw [hW5]
            have m1 := own_ne qr qb (by decide)
            exact own_keep (own_kept qr hk3) ((Keep.refl (· = bb) w2).set (p := ⟨bb, 1, none⟩) (.inl rfl) _).drew (fun j hj h => m1 (h ▸ hj))
          have v0 : W5.cell? ⟨b, 0, none⟩ = some (.slice (some ⟨g1, p1, none⟩) nn c1) := (htb.kept vk).cell 0
          have v3 : W5.cell? ⟨g1, p1 + ki, none⟩ = some (.int .i64 (s : Int)) := by
            rw [hW5]
            exact ((Keep.refl (· = bb) w2).set (p := ⟨bb, 1, none⟩) (.inl rfl) _).drew.cell (hk3.cell hcy1 (fun h => h)) hg1bb
          rw [← hW5]
          clear hW5
          go_wp2_with (at_builtin; refine wpList_push rfl _ _ rfl elByte vk A' k c' (u8s out) rfl vr [.int .u8 (s : Int)] rfl rfl (by simp [Value.oneCell']) (by omega) ?_; intro A6 c6 w6 o6 k6 g6)
          go_roundg (many - k)
          case measure => exact q1
          case rel => exact ⟨k + 1, L - (bt : Int), out ++ [s], A6, c6, by omega, by omega, rfl, rfl, by omega, by omega, HDn.out, by show _ = _; rw [List.length_append, ← qo.out]; rfl, by simpa [u8s] using o6, blk_grown vb g6 (own_ne vr vb (by decide)), k6⟩
      · obtain rfl : k = many := by omega
        have hfin : D = (out, L) := by rw [qD.out, Nat.sub_self]; rfl
        have Hfin := Lib.hid hfin
        have e1 : wr.cell? ⟨bb, 1, none⟩ = some (.int .i64 L) := qb.cell 1
        have hbl2 := qb.lt
        clear hfin qD
        by_cases hL : L = 0
        · subst hL
          go_wp2
          go_ret2
          refine ⟨qk, .inr (.inr ⟨x, n, Hmk.out, .inr ⟨?_, A', c', rfl, ?_⟩⟩)⟩
          · rw [← HL0.out, ← HD.out, Hfin.out]
          · rw [← HL0.out, ← HD.out, Hfin.out]; exact qr
        · have hLb : (L != 0) = true := by rw [bne_iff_ne]; exact hL
          go_wp2
          go_ret2
          refine ⟨qk, .inr (.inr ⟨x, n, Hmk.out, .inl ⟨?_, rfl⟩⟩)⟩
          rw [← HL0.out, ← HD.out, Hfin.out]; exact hL
end

section
/-- One stream: a verdict (0: open, 1: right, 2: wrong), and the text. -/
def decV (ds : List Nat) (m : Nat) (rs : List (Nat × Nat)) (many : Nat) : Nat × List Nat :=
  if ds = [] then (0, [])
  else if ds.getD (ds.length - 1) 0 = 0 then (2, [])
  else if (decS (num ds) m rs many ((8 * (ds.length - 1) + Nat.log2 (ds.getD (ds.length - 1) 0) : Nat) : Int) []).2 = 0 then (1, (decS (num ds) m rs many ((8 * (ds.length - 1) + Nat.log2 (ds.getD (ds.length - 1) 0) : Nat) : Int) []).1)
  else (0, [])
theorem log2_of {x n : Nat} (h1 : 2 ^ n ≤ x) (h2 : x < 2 ^ (n + 1)) : Nat.log2 x = n := by
  have h0 : x ≠ 0 := by have := pow_pos' n; omega
  have h3 := (Nat.pow_lt_pow_iff_right (a := 2) (by decide)).1 (Nat.lt_of_le_of_lt (Nat.log2_self_le h0) h2)
  have h4 := (Nat.pow_lt_pow_iff_right (a := 2) (by decide)).1 (Nat.lt_of_le_of_lt h1 (Nat.lt_log2_self (n := x)))
  omega
theorem decV_mark {ds : List Nat} {m many x n : Nat} {rs : List (Nat × Nat)} (h : Mark ds x n) :
    decV ds m rs many = if (decS (num ds) m rs many ((8 * (ds.length - 1) + n : Nat) : Int) []).2 = 0 then (1, (decS (num ds) m rs many ((8 * (ds.length - 1) + n : Nat) : Int) []).1) else (0, []) := by
  have h0 : ds ≠ [] := by rintro rfl; have := h.last; simp at this
  have hx : ds.getD (ds.length - 1) 0 = x := by rw [List.getD_eq_getElem?_getD, h.last]; rfl
  have hx0 : x ≠ 0 := by have := h.low; have := pow_pos' n; omega
  rw [decV, if_neg h0, hx, if_neg hx0, log2_of h.low h.high]
theorem decV_no {ds : List Nat} {m many : Nat} {rs : List (Nat × Nat)} (h0 : ds ≠ []) (h : NoMark ds) : decV ds m rs many = (2, []) := by
  have hx : ds.getD (ds.length - 1) 0 = 0 := by
    rcases h with h | h
    · exact absurd h h0
    · rw [List.getD_eq_getElem?_getD, h]; rfl
  rw [decV, if_neg h0, if_pos hx]
theorem decV_len {ds : List Nat} {m many : Nat} {rs : List (Nat × Nat)} (h : (decV ds m rs many).1 = 1) : (decV ds m rs many).2.length = many := by
  unfold decV at h ⊢
  split
  · rename_i h1; rw [if_pos h1] at h; cases h
  · rename_i h1
    rw [if_neg h1] at h
    split
    · rename_i h2; rw [if_pos h2] at h; cases h
    · rename_i h2
      rw [if_neg h2] at h
      split
      · rw [decS_len]; simp
      · rename_i h3; rw [if_neg h3] at h; cases h

/-- What decode hands back, in these words. -/
def DecV (w : World) (v : Nat × List Nat) (e : Ending) (w' : World) : Prop :=
  Kept w w' ∧ ((v.1 = 1 ∧ ∃ A' c', e = .returned (.tuple #[.slice A' v.2.length c', .int .i64 1]) ∧ w'.ownsRow w.heap.size 5 1 (.slice A' v.2.length c') v.2.length (u8s v.2)) ∨
    (v.1 ≠ 1 ∧ v.2 = [] ∧ v.1 ≤ 2 ∧ e = .returned (.tuple #[.slice none 0 0, .int .i64 (v.1 : Nat)])))
theorem decV_any {w : World} {ds : List Nat} {m many : Nat} {rs : List (Nat × Nat)} {e : Ending} {w' : World} (h : DecPost w ds m rs many e w') : DecV w (decV ds m rs many) e w' := by
  obtain ⟨hk, h⟩ := h
  refine ⟨hk, ?_⟩
  rcases h with ⟨rfl, rfl⟩ | ⟨h0, h1, rfl⟩ | ⟨x, n, hm, ⟨h1, rfl⟩ | ⟨h1, A', c', rfl, ho⟩⟩
  · have e : decV [] m rs many = (0, []) := by unfold decV; rw [if_pos rfl]
    rw [e]
    exact .inr ⟨by decide, rfl, by decide, rfl⟩
  · rw [decV_no h0 h1]
    exact .inr ⟨by decide, rfl, by decide, rfl⟩
  · rw [decV_mark hm, if_neg h1]
    exact .inr ⟨by decide, rfl, by decide, rfl⟩
  · have hl := decS_len (num ds) m rs many ((8 * (ds.length - 1) + n : Nat) : Int) []
    rw [decV_mark hm, if_pos h1]
    simp only [List.length_nil, Nat.zero_add] at hl
    refine .inl ⟨rfl, A', c', ?_, ?_⟩
    · simp only [hl]
    · simp only [hl]; exact ho

/-- Streams one behind the other: how many bytes each has (none: what is left), and how many symbols. -/
def fourV (m : Nat) (rs : List (Nat × Nat)) : List (Option Nat × Nat) → List Nat → List Nat → Nat × List Nat
  | [], _, out => (1, out)
  | (sz, n) :: r, d, out =>
    if d.length < sz.getD d.length then (2, [])
    else if n = 0 then (0, [])
    else if (decV (d.take (sz.getD d.length)) m rs n).1 = 1 then fourV m rs r (d.drop (sz.getD d.length)) (out ++ (decV (d.take (sz.getD d.length)) m rs n).2)
    else ((decV (d.take (sz.getD d.length)) m rs n).1, [])
/-- One stream, or four. -/
def strV (ds : List Nat) (m : Nat) (rs : List (Nat × Nat)) (many : Nat) (four : Bool) : Nat × List Nat :=
  if four = false then decV ds m rs many
  else if many < 6 then (0, [])
  else if ds.length < 6 then (2, [])
  else fourV m rs [(some (num (ds.take 2)), (many + 3) / 4), (some (num ((ds.drop 2).take 2)), (many + 3) / 4), (some (num ((ds.drop 4).take 2)), (many + 3) / 4), (none, many - 3 * ((many + 3) / 4))] (ds.drop 6) []
end

section
theorem take_getD {ds : List Nat} {k i : Nat} (h : i < k) : (ds.take k).getD i 0 = ds.getD i 0 := by
  rw [List.getD_eq_getElem?_getD, List.getD_eq_getElem?_getD, List.getElem?_take, if_pos h]
theorem nibs_take {ds : List Nat} {k n : Nat} (h : ∀ i, i < n → 1 + i / 2 < k) : nibs (ds.take k) n = nibs ds n := by
  unfold nibs
  refine List.map_congr_left fun i hi => ?_
  unfold nibAt
  rw [take_getD (h i (List.mem_range.1 hi))]
theorem wtsIn_take {ds : List Nat} {k : Nat} (h : 1 + bodyOf (ds.getD 0 0) ≤ k) : wtsIn (ds.take k) = wtsIn ds := by
  have h0 : (ds.take k).getD 0 0 = ds.getD 0 0 := take_getD (by omega)
  unfold wtsIn
  rw [h0]
  by_cases hb : 128 ≤ ds.getD 0 0
  · have e : bodyOf (ds.getD 0 0) = (ds.getD 0 0 - 126) / 2 := by unfold bodyOf; rw [if_pos hb]
    rw [if_pos hb, if_pos hb, nibs_take (fun i hi => by omega)]
  · have e : bodyOf (ds.getD 0 0) = ds.getD 0 0 := by unfold bodyOf; rw [if_neg hb]
    rw [if_neg hb, if_neg hb, List.drop_take, List.take_take, Nat.min_eq_left (by omega)]

/-- The tree of the first k bytes. -/
theorem treeS_take (ds : List Nat) (k : Nat) : treeS (ds.take k) = (treeS ds).bind fun x => if x.2.2 ≤ k then some x else none := by
  by_cases h : 1 + bodyOf (ds.getD 0 0) ≤ k
  · have h0 : (ds.take k).getD 0 0 = ds.getD 0 0 := take_getD (by omega)
    by_cases hl : ds.length < 1 + bodyOf (ds.getD 0 0)
    · have e1 : treeS ds = none := by
        unfold treeS
        by_cases h00 : ds.length = 0
        · rw [if_pos h00]
        · rw [if_neg h00, if_pos hl]
      have e2 : treeS (ds.take k) = none := by
        unfold treeS
        rw [h0]
        split
        · rfl
        · rw [if_pos (by rw [List.length_take]; omega)]
      rw [e1, e2]; rfl
    · have e1 : treeS ds = (wtsIn ds).bind fun ws => (treeP ws).map fun t => (t.1, t.2, 1 + bodyOf (ds.getD 0 0)) := by
        unfold treeS; rw [if_neg (by omega), if_neg hl]
      have e2 : treeS (ds.take k) = (wtsIn ds).bind fun ws => (treeP ws).map fun t => (t.1, t.2, 1 + bodyOf (ds.getD 0 0)) := by
        unfold treeS
        rw [h0, wtsIn_take h, if_neg (by rw [List.length_take]; omega), if_neg (by rw [List.length_take]; omega)]
      rw [e2, e1]
      cases wtsIn ds with
      | none => rfl
      | some ws =>
        cases htp : treeP ws with
        | none => simp only [Option.bind_some, htp, Option.map_none, Option.bind_none]
        | some t => simp only [Option.bind_some, htp, Option.map_some]; rw [if_pos h]
  · have e2 : treeS (ds.take k) = none := by
      unfold treeS
      split
      · rfl
      · rename_i hl
        have hk : 0 < k := by
          rcases Nat.eq_zero_or_pos k with h1 | h1
          · subst h1; simp at hl
          · exact h1
        rw [take_getD hk, if_pos (by rw [List.length_take]; omega)]
    rw [e2]
    cases ht : treeS ds with
    | none => rfl
    | some x =>
      obtain ⟨al, m, q⟩ := x
      have := (treeS_some ht).2.1
      simp only [Option.bind_some]
      rw [if_neg (by omega)]
end

section
theorem Sl.part {w : World} {R : Nat → Prop} {g o : Nat} {l : List Nat} (h : Sl w R (some ⟨g, o, none⟩) (u8s l)) (k : Nat) : Sl w R (some ⟨g, o + k, none⟩) (u8s (l.drop k)) := by
  have := h.drop k (some ⟨g, o + k, none⟩) (fun _ g' o' he => by
    simp only [Option.some.injEq, Addr.mk.injEq] at he
    obtain ⟨rfl, rfl, _⟩ := he
    rfl)
  simpa [u8s, List.map_drop] using this
theorem Sl.firsts {w : World} {R : Nat → Prop} {A : Option Addr} {l : List Nat} (h : Sl w R A (u8s l)) (k : Nat) : Sl w R A (u8s (l.take k)) := by
  have := h.take k
  simpa [u8s, List.map_take] using this

section
variable {ds rs' : List Nat} {m n : Nat} {rs : List (Nat × Nat)} {t : List Nat}

theorem decV_right (hd : Bytes ds) (h : decV ds m rs n = (1, t)) : ∃ x k, Mark ds x k ∧ (decS (num ds) m rs n ((8 * (ds.length - 1) + k : Nat) : Int) []).2 = 0 ∧ t = (decS (num ds) m rs n ((8 * (ds.length - 1) + k : Nat) : Int) []).1 := by
  by_cases h0 : ds = []
  · subst h0
    have e : decV [] m rs n = (0, []) := by unfold decV; rw [if_pos rfl]
    rw [e] at h; cases h
  · rcases mark_or hd with hno | ⟨x, k, hmk⟩
    · rw [decV_no h0 hno] at h; cases h
    · rw [decV_mark hmk] at h
      split at h
      · rename_i h2
        simp only [Prod.mk.injEq, true_and] at h
        exact ⟨x, k, hmk, h2, h.symm⟩
      · cases h
theorem decV_wrong (hd : Bytes ds) (h : (decV ds m rs n).1 = 2) : 1 ≤ ds.length ∧ ds[ds.length - 1]? = some 0 := by
  by_cases h0 : ds = []
  · subst h0
    have e : decV [] m rs n = (0, []) := by unfold decV; rw [if_pos rfl]
    rw [e] at h; cases h
  · rcases mark_or hd with hno | ⟨x, k, hmk⟩
    · rcases hno with hno | hno
      · exact absurd hno h0
      · refine ⟨?_, hno⟩
        cases ds with
        | nil => exact absurd rfl h0
        | cons a l => simp
    · rw [decV_mark hmk] at h
      split at h <;> cases h

theorem fourV_right {sz : Option Nat} {r : List (Option Nat × Nat)} {d out : List Nat} (h : fourV m rs ((sz, n) :: r) d out = (1, t)) :
    sz.getD d.length ≤ d.length ∧ 0 < n ∧ ∃ t1, decV (d.take (sz.getD d.length)) m rs n = (1, t1) ∧ fourV m rs r (d.drop (sz.getD d.length)) (out ++ t1) = (1, t) := by
  rw [fourV] at h
  split at h
  · cases h
  · split at h
    · cases h
    · split at h
      · rename_i h1 h2 h3
        exact ⟨by omega, by omega, _, by rw [← h3], h⟩
      · rename_i h3
        have := congrArg Prod.fst h
        exact absurd this h3
theorem fourV_wrong {sz : Option Nat} {r : List (Option Nat × Nat)} {d out : List Nat} (h : (fourV m rs ((sz, n) :: r) d out).1 = 2) :
    d.length < sz.getD d.length ∨ (sz.getD d.length ≤ d.length ∧ ((decV (d.take (sz.getD d.length)) m rs n).1 = 2 ∨ ∃ t1, decV (d.take (sz.getD d.length)) m rs n = (1, t1) ∧ (fourV m rs r (d.drop (sz.getD d.length)) (out ++ t1)).1 = 2)) := by
  rw [fourV] at h
  split at h
  · rename_i h1; exact .inl h1
  · rename_i h1
    right
    split at h
    · cases h
    · split at h
      · rename_i h3
        exact ⟨by omega, .inr ⟨_, by rw [← h3], h⟩⟩
      · exact ⟨by omega, .inl h⟩
end

/-- A window of the data is read as the impl reads it, if it is right. -/
def Part (D : List Nat) (m : Nat) (rs : List (Nat × Nat)) (o s start n : Nat) (t : List Nat) : Prop :=
  1 ≤ s ∧ ∃ x k, D[o + s - 1]? = some x ∧ 2 ^ k ≤ x ∧ x < 2 ^ (k + 1) ∧ k ≤ 7 ∧ decI (num D) m (8 * start) rs n (8 * (o + s - 1) + k) [] = some t
/-- Its last byte has a mark. -/
def Ends (D : List Nat) (o s : Nat) : Prop := 1 ≤ s ∧ ∃ x k, D[o + s - 1]? = some x ∧ 2 ^ k ≤ x ∧ x < 2 ^ (k + 1)

theorem window_last {D : List Nat} {o s : Nat} (hos : o + s ≤ D.length) (h1 : 1 ≤ s) : ((D.drop o).take s)[((D.drop o).take s).length - 1]? = D[o + s - 1]? := by
  have hl : ((D.drop o).take s).length = s := by rw [List.length_take, List.length_drop]; omega
  rw [hl, List.getElem?_take, if_pos (by omega), List.getElem?_drop, show o + (s - 1) = o + s - 1 by omega]

theorem part_right {D : List Nat} (hd : Bytes D) {al : List Nat} {m o s start n : Nat} {t : List Nat} (hos : o + s ≤ D.length) (hal : ∀ w ∈ al, w ≤ m) (hs : wsum al = 2 ^ m) (hm : m ≤ 11) (hst : start + 2 ≤ o)
    (h : decV ((D.drop o).take s) m (rowsTo al m m) n = (1, t)) : Part D m (rowsTo al m m) o s start n t := by
  have hw : Bytes ((D.drop o).take s) := fun x hx => hd x (List.mem_of_mem_drop (List.mem_of_mem_take hx))
  have hl : ((D.drop o).take s).length = s := by rw [List.length_take, List.length_drop]; omega
  obtain ⟨x, k, hmk, h0, ht⟩ := decV_right hw h
  have h1 : 1 ≤ s := by
    have := (List.getElem?_eq_some_iff.1 hmk.last).1
    omega
  have hlast := hmk.last
  rw [window_last hos h1] at hlast
  have hk7 := (byte_top hmk.low hmk.high hmk.byte).2
  refine ⟨h1, x, k, hlast, hmk.low, hmk.high, hk7, ?_⟩
  rw [hl] at h0 ht
  have := dec_same (N := num D) (s := 8 * o) (K := 8 * s) (st := 8 * start) hal hs (fun pos n' hf => rdb_window hd hf) (by omega) n (8 * (s - 1) + k) [] (by omega) h0
  rw [show 8 * o + (8 * (s - 1) + k) = 8 * (o + s - 1) + k by omega, ← ht] at this
  exact this
theorem Part.ends {D : List Nat} {m o s start n : Nat} {rs : List (Nat × Nat)} {t : List Nat} (h : Part D m rs o s start n t) : Ends D o s := by
  obtain ⟨h1, x, k, h2, h3, h4, _⟩ := h
  exact ⟨h1, x, k, h2, h3, h4⟩
theorem part_wrong {D : List Nat} (hd : Bytes D) {m o s n : Nat} {rs : List (Nat × Nat)} (hos : o + s ≤ D.length) (h : (decV ((D.drop o).take s) m rs n).1 = 2) : 1 ≤ s ∧ D[o + s - 1]? = some 0 := by
  have hw : Bytes ((D.drop o).take s) := fun x hx => hd x (List.mem_of_mem_drop (List.mem_of_mem_take hx))
  obtain ⟨h1, h2⟩ := decV_wrong hw h
  have hs1 : 1 ≤ s := by
    rw [List.length_take] at h1; omega
  rw [window_last hos hs1] at h2
  exact ⟨hs1, h2⟩

theorem decI_len {N m st : Nat} {rs : List (Nat × Nat)} : ∀ {f p : Nat} {out t : List Nat}, decI N m st rs f p out = some t → t.length = out.length + f
  | 0, p, out, t, h => by
    rw [decI] at h
    obtain rfl := Option.some.inj h
    rfl
  | f + 1, p, out, t, h => by
    rw [decI] at h
    split at h
    · cases h
    · have := decI_len h
      rw [this]; simp; omega
theorem decI_prefix {N m st : Nat} {rs : List (Nat × Nat)} : ∀ {f p : Nat} {out t : List Nat}, decI N m st rs f p out = some t → ∃ r, t = out ++ r
  | 0, p, out, t, h => by
    rw [decI] at h
    obtain rfl := Option.some.inj h
    exact ⟨[], by simp⟩
  | f + 1, p, out, t, h => by
    rw [decI] at h
    split at h
    · cases h
    · obtain ⟨r, hr⟩ := decI_prefix h
      exact ⟨_ :: r, by rw [hr, List.append_assoc]; rfl⟩
/-- One symbol more. -/
theorem decI_next {N m st f p : Nat} {rs : List (Nat × Nat)} {out t : List Nat} (h : decI N m st rs (f + 1) p out = some t) :
    st + m ≤ p ∧ decI N m st rs f (p - (rs.getD (N / 2 ^ (p - m) % 2 ^ m) (0, 0)).2) (out ++ [(rs.getD (N / 2 ^ (p - m) % 2 ^ m) (0, 0)).1]) = some t ∧ t[out.length]? = some (rs.getD (N / 2 ^ (p - m) % 2 ^ m) (0, 0)).1 := by
  rw [decI] at h
  split at h
  · cases h
  · rename_i hp
    refine ⟨by omega, h, ?_⟩
    obtain ⟨r, hr⟩ := decI_prefix h
    rw [hr, List.append_assoc, List.getElem?_append_right (Nat.le_refl _), Nat.sub_self]
    rfl

/-- Streams of literals in the data, from o on, s bytes: right. -/
def OneR (D : List Nat) (m : Nat) (rs : List (Nat × Nat)) (o s n : Nat) (t : List Nat) : Prop := Part D m rs o s (o - 2) n t
def FourR (D : List Nat) (m : Nat) (rs : List (Nat × Nat)) (o s n : Nat) (t : List Nat) : Prop :=
  6 ≤ n ∧ ∃ s1 s2 s3 s4 e n4 t1 t2 t3 t4, s1 = num ((D.drop o).take 2) ∧ s2 = num ((D.drop (o + 2)).take 2) ∧ s3 = num ((D.drop (o + 4)).take 2) ∧ s = 6 + s1 + s2 + s3 + s4 ∧ e = (n + 3) / 4 ∧ n = 3 * e + n4 ∧ 0 < n4 ∧
    Part D m rs (o + 6) s1 (o + 4) e t1 ∧ Part D m rs (o + 6 + s1) s2 (o + 4 + s1) e t2 ∧ Part D m rs (o + 6 + s1 + s2) s3 (o + 4 + s1 + s2) e t3 ∧ Part D m rs (o + 6 + s1 + s2 + s3) s4 (o + 4 + s1 + s2 + s3) n4 t4 ∧ t = t1 ++ (t2 ++ (t3 ++ t4))
/-- Wrong. -/
def OneW (D : List Nat) (o s : Nat) : Prop := 1 ≤ s ∧ D[o + s - 1]? = some 0
def FourW (D : List Nat) (o s : Nat) : Prop :=
  s < 6 ∨ ∃ s1 s2 s3, s1 = num ((D.drop o).take 2) ∧ s2 = num ((D.drop (o + 2)).take 2) ∧ s3 = num ((D.drop (o + 4)).take 2) ∧ (s < 6 + s1 + s2 + s3 ∨ ∃ s4, s = 6 + s1 + s2 + s3 + s4 ∧
    (OneW D (o + 6) s1 ∨ (Ends D (o + 6) s1 ∧ (OneW D (o + 6 + s1) s2 ∨ (Ends D (o + 6 + s1) s2 ∧ (OneW D (o + 6 + s1 + s2) s3 ∨ (Ends D (o + 6 + s1 + s2) s3 ∧ OneW D (o + 6 + s1 + s2 + s3) s4)))))))

theorem win_take {D : List Nat} {o s a k : Nat} (h : a + k ≤ s) : (((D.drop o).take s).drop a).take k = (D.drop (o + a)).take k := by
  rw [List.drop_take, List.take_take, List.drop_drop, Nat.min_eq_left (by omega)]

section
variable {D : List Nat} (hd : Bytes D) {al : List Nat} {m o s n : Nat} {t : List Nat} (hos : o + s ≤ D.length) (hal : ∀ w ∈ al, w ≤ m) (hs : wsum al = 2 ^ m) (hm : m ≤ 11) (ho : 2 ≤ o)
include hd hos hal hs hm ho

theorem one_right (h : strV ((D.drop o).take s) m (rowsTo al m m) n false = (1, t)) : OneR D m (rowsTo al m m) o s n t := by
  have h2 : decV ((D.drop o).take s) m (rowsTo al m m) n = (1, t) := h
  exact part_right hd hos hal hs hm (by omega) h2
omit hal hs hm ho in
theorem one_wrong (h : (strV ((D.drop o).take s) m (rowsTo al m m) n false).1 = 2) : OneW D o s := by
  have h2 : (decV ((D.drop o).take s) m (rowsTo al m m) n).1 = 2 := h
  exact part_wrong hd hos h2

omit ho in
theorem four_right (h : strV ((D.drop o).take s) m (rowsTo al m m) n true = (1, t)) : 6 ≤ s ∧ FourR D m (rowsTo al m m) o s n t := by
  have hl : ((D.drop o).take s).length = s := by rw [List.length_take, List.length_drop]; omega
  unfold strV at h
  rw [if_neg (by decide)] at h
  split at h
  · cases h
  · rename_i h6
    rw [hl] at h
    split at h
    · cases h
    · rename_i hs6
      obtain ⟨s1, hs1⟩ : ∃ x, x = num ((D.drop o).take 2) := ⟨_, rfl⟩
      obtain ⟨s2, hs2⟩ : ∃ x, x = num ((D.drop (o + 2)).take 2) := ⟨_, rfl⟩
      obtain ⟨s3, hs3⟩ : ∃ x, x = num ((D.drop (o + 4)).take 2) := ⟨_, rfl⟩
      have e0 : ((D.drop o).take s).take 2 = (D.drop o).take 2 := by rw [List.take_take, Nat.min_eq_left (by omega)]
      rw [e0, win_take (by omega), win_take (by omega), ← hs1, ← hs2, ← hs3] at h
      have e6 : ((D.drop o).take s).drop 6 = (D.drop (o + 6)).take (s - 6) := by rw [List.drop_take, List.drop_drop]
      rw [e6] at h
      obtain ⟨a1, a2, t1, a3, h⟩ := fourV_right h
      obtain ⟨b1, b2, t2, b3, h⟩ := fourV_right h
      obtain ⟨c1, c2, t3, c3, h⟩ := fourV_right h
      obtain ⟨d1, d2, t4, d3, h⟩ := fourV_right h
      simp only [Option.getD_some, Option.getD_none, List.length_take, List.length_drop] at a1 b1 c1 d1
      have w1 : min (s - 6) (D.length - (o + 6)) = s - 6 := by omega
      rw [w1] at a1 b1 c1
      simp only [Option.getD_some, Option.getD_none] at a3 b3 c3 d3
      have f1 : ((D.drop (o + 6)).take (s - 6)).take s1 = (D.drop (o + 6)).take s1 := by rw [List.take_take, Nat.min_eq_left a1]
      have f2 : ((D.drop (o + 6)).take (s - 6)).drop s1 = (D.drop (o + 6 + s1)).take (s - 6 - s1) := by rw [List.drop_take, List.drop_drop]
      have f3 : ((D.drop (o + 6 + s1)).take (s - 6 - s1)).drop s2 = (D.drop (o + 6 + s1 + s2)).take (s - 6 - s1 - s2) := by rw [List.drop_take, List.drop_drop]
      have f4 : ((D.drop (o + 6 + s1 + s2)).take (s - 6 - s1 - s2)).drop s3 = (D.drop (o + 6 + s1 + s2 + s3)).take (s - 6 - s1 - s2 - s3) := by rw [List.drop_take, List.drop_drop]
      rw [f1] at a3
      rw [f2, List.take_take, Nat.min_eq_left (by omega)] at b3
      rw [f2, f3, List.take_take, Nat.min_eq_left (by omega)] at c3
      rw [f2, f3, f4, List.take_length] at d3
      rw [fourV] at h
      simp only [Prod.mk.injEq, true_and, List.nil_append, List.append_assoc] at h
      refine ⟨by omega, by omega, s1, s2, s3, s - 6 - s1 - s2 - s3, (n + 3) / 4, n - 3 * ((n + 3) / 4), t1, t2, t3, t4, hs1, hs2, hs3, by omega, rfl, by omega, d2, ?_, ?_, ?_, ?_, h.symm⟩
      · exact part_right hd (by omega) hal hs hm (by omega) a3
      · exact part_right hd (by omega) hal hs hm (by omega) b3
      · exact part_right hd (by omega) hal hs hm (by omega) c3
      · exact part_right hd (by omega) hal hs hm (by omega) d3

omit ho in
theorem four_wrong (h : (strV ((D.drop o).take s) m (rowsTo al m m) n true).1 = 2) : FourW D o s := by
  have hl : ((D.drop o).take s).length = s := by rw [List.length_take, List.length_drop]; omega
  unfold strV at h
  rw [if_neg (by decide)] at h
  split at h
  · cases h
  · rename_i h6
    rw [hl] at h
    split at h
    · rename_i hs6; exact .inl hs6
    · rename_i hs6
      obtain ⟨s1, hs1⟩ : ∃ x, x = num ((D.drop o).take 2) := ⟨_, rfl⟩
      obtain ⟨s2, hs2⟩ : ∃ x, x = num ((D.drop (o + 2)).take 2) := ⟨_, rfl⟩
      obtain ⟨s3, hs3⟩ : ∃ x, x = num ((D.drop (o + 4)).take 2) := ⟨_, rfl⟩
      have e0 : ((D.drop o).take s).take 2 = (D.drop o).take 2 := by rw [List.take_take, Nat.min_eq_left (by omega)]
      rw [e0, win_take (by omega), win_take (by omega), ← hs1, ← hs2, ← hs3] at h
      have e6 : ((D.drop o).take s).drop 6 = (D.drop (o + 6)).take (s - 6) := by rw [List.drop_take, List.drop_drop]
      rw [e6] at h
      refine .inr ⟨s1, s2, s3, hs1, hs2, hs3, ?_⟩
      by_cases hlt : s < 6 + s1 + s2 + s3
      · exact .inl hlt
      · refine .inr ⟨s - 6 - s1 - s2 - s3, by omega, ?_⟩
        have w1 : min (s - 6) (D.length - (o + 6)) = s - 6 := by omega
        have f1 : ((D.drop (o + 6)).take (s - 6)).take s1 = (D.drop (o + 6)).take s1 := by rw [List.take_take, Nat.min_eq_left (by omega)]
        have f2 : ((D.drop (o + 6)).take (s - 6)).drop s1 = (D.drop (o + 6 + s1)).take (s - 6 - s1) := by rw [List.drop_take, List.drop_drop]
        have f3 : ((D.drop (o + 6 + s1)).take (s - 6 - s1)).drop s2 = (D.drop (o + 6 + s1 + s2)).take (s - 6 - s1 - s2) := by rw [List.drop_take, List.drop_drop]
        have f4 : ((D.drop (o + 6 + s1 + s2)).take (s - 6 - s1 - s2)).drop s3 = (D.drop (o + 6 + s1 + s2 + s3)).take (s - 6 - s1 - s2 - s3) := by rw [List.drop_take, List.drop_drop]
        rcases fourV_wrong h with h | ⟨_, h | ⟨t1, a3, h⟩⟩
        · simp only [Option.getD_some, List.length_take, List.length_drop] at h
          omega
        · simp only [Option.getD_some, f1] at h
          exact .inl (part_wrong hd (by omega) h)
        simp only [Option.getD_some, f1, f2] at a3 h
        refine .inr ⟨(part_right hd (by omega) hal hs hm (start := o + 4) (by omega) a3).ends, ?_⟩
        rcases fourV_wrong h with h | ⟨_, h | ⟨t2, b3, h⟩⟩
        · simp only [Option.getD_some, List.length_take, List.length_drop] at h
          omega
        · simp only [Option.getD_some, List.take_take] at h
          rw [Nat.min_eq_left (by omega)] at h
          exact .inl (part_wrong hd (by omega) h)
        simp only [Option.getD_some, f3, List.take_take] at b3 h
        rw [Nat.min_eq_left (by omega)] at b3
        refine .inr ⟨(part_right hd (by omega) hal hs hm (start := o + 4 + s1) (by omega) b3).ends, ?_⟩
        rcases fourV_wrong h with h | ⟨_, h | ⟨t3, c3, h⟩⟩
        · simp only [Option.getD_some, List.length_take, List.length_drop] at h
          omega
        · simp only [Option.getD_some, List.take_take] at h
          rw [Nat.min_eq_left (by omega)] at h
          exact .inl (part_wrong hd (by omega) h)
        simp only [Option.getD_some, f4, List.take_take] at c3 h
        rw [Nat.min_eq_left (by omega)] at c3
        refine .inr ⟨(part_right hd (by omega) hal hs hm (start := o + 4 + s1 + s2) (by omega) c3).ends, ?_⟩
        rcases fourV_wrong h with h | ⟨_, h | ⟨t4, d3, h⟩⟩
        · simp only [Option.getD_none, List.length_take, List.length_drop] at h
          omega
        · simp only [Option.getD_none, List.take_length] at h
          exact part_wrong hd (by omega) h
        · rw [fourV] at h; cases h
end

def hd1 (f : Nat) : Nat := [1, 2, 1, 3].getD f 0
def sh1 (f : Nat) : Nat := [3, 4, 3, 4].getD f 0
def hd2 (f : Nat) : Nat := [3, 3, 4, 5].getD f 0
def wd2 (f : Nat) : Nat := [10, 10, 14, 18].getD f 0
def raws (ds : List Nat) (f : Nat) : Nat := num (ds.take (hd1 f)) / 2 ^ sh1 f
def lmany (ds : List Nat) (f : Nat) : Nat := num (ds.take (hd2 f)) / 16 % 2 ^ wd2 f
def lsize (ds : List Nat) (f : Nat) : Nat := num (ds.take (hd2 f)) / 16 / 2 ^ wd2 f
/-- Raw literals (kind 0), or one byte again and again (kind 1): a verdict (0: open, 1: right, 2: wrong), the text, how many bytes it takes. -/
def litR (ds : List Nat) (k f : Nat) : Nat × List Nat × Nat :=
  if ds.length < hd1 f then (2, [], 0)
  else if 131072 < raws ds f then (0, [], 0)
  else if k = 1 then (if ds.length < hd1 f + 1 then (2, [], 0) else (1, List.replicate (raws ds f) (ds.getD (hd1 f) 0), hd1 f + 1))
  else if ds.length < hd1 f + raws ds f then (2, [], 0)
  else (1, (ds.drop (hd1 f)).take (raws ds f), hd1 f + raws ds f)
/-- The streams behind a tree. -/
def litT (ds : List Nat) (f al_m : Nat) (al : List Nat) (q : Nat) : Nat × List Nat × Nat :=
  if 1 ∉ al then (0, [], 0)
  else if 131072 < lmany ds f ∨ lmany ds f = 0 then (0, [], 0)
  else ((strV (((ds.drop (hd2 f)).take (lsize ds f)).drop q) al_m (rowsTo al al_m al_m) (lmany ds f) (f != 0)).1, (strV (((ds.drop (hd2 f)).take (lsize ds f)).drop q) al_m (rowsTo al al_m al_m) (lmany ds f) (f != 0)).2, hd2 f + lsize ds f)
def litH (ds : List Nat) (k f : Nat) : Nat × List Nat × Nat :=
  if ds.length < hd2 f then (2, [], 0)
  else if ds.length < hd2 f + lsize ds f then (2, [], 0)
  else if k ≠ 2 then (2, [], 0)
  else match treeS ((ds.drop (hd2 f)).take (lsize ds f)) with
    | none => (2, [], 0)
    | some (al, m, q) => litT ds f m al q
def litS (ds : List Nat) : Nat × List Nat × Nat :=
  if ds = [] then (2, [], 0)
  else if ds.getD 0 0 % 4 < 2 then litR ds (ds.getD 0 0 % 4) (ds.getD 0 0 / 4 % 4)
  else litH ds (ds.getD 0 0 % 4) (ds.getD 0 0 / 4 % 4)

/-- The tree in the window is the tree of all that follows. -/
theorem litH_tree {ds al : List Nat} {a k m q : Nat} (h : treeS ((ds.drop a).take k) = some (al, m, q)) : treeS (ds.drop a) = some (al, m, q) ∧ q ≤ k := by
  rw [treeS_take] at h
  obtain ⟨x, h1, h2⟩ := Option.bind_eq_some_iff.1 h
  split at h2
  · rename_i h3
    obtain rfl := Option.some.inj h2
    exact ⟨h1, h3⟩
  · cases h2
theorem litH_none {ds al : List Nat} {a k m q : Nat} (h : treeS ((ds.drop a).take k) = none) (h2 : treeS (ds.drop a) = some (al, m, q)) : k < q := by
  rw [treeS_take, h2, Option.bind_some] at h
  split at h
  · cases h
  · rename_i h3; simp only at h3; omega

/-- Compressed literals that are right. -/
def HufR (ds : List Nat) (f : Nat) (t : List Nat) (z : Nat) : Prop :=
  hd2 f + lsize ds f ≤ ds.length ∧ z = hd2 f + lsize ds f ∧ 0 < lmany ds f ∧ lmany ds f ≤ 131072 ∧ ∃ al m q, treeS (ds.drop (hd2 f)) = some (al, m, q) ∧ 1 ∈ al ∧ q ≤ lsize ds f ∧
    (if f = 0 then OneR ds m (rowsTo al m m) (hd2 f + q) (lsize ds f - q) (lmany ds f) t else 6 ≤ lsize ds f - q ∧ FourR ds m (rowsTo al m m) (hd2 f + q) (lsize ds f - q) (lmany ds f) t)
/-- Compressed literals that are wrong. -/
def HufW (ds : List Nat) (k f : Nat) : Prop :=
  ds.length < hd2 f ∨ ds.length < hd2 f + lsize ds f ∨ k ≠ 2 ∨ (hd2 f + lsize ds f ≤ ds.length ∧ ∀ al m q, treeS (ds.drop (hd2 f)) = some (al, m, q) → 1 ∈ al → lsize ds f < q ∨ (if f = 0 then OneW ds (hd2 f + q) (lsize ds f - q) else FourW ds (hd2 f + q) (lsize ds f - q)))

theorem tree_facts {ds al : List Nat} {m q : Nat} (h : treeS ds = some (al, m, q)) : 1 ≤ q ∧ m ≤ 11 ∧ 1 ≤ m ∧ (∀ w ∈ al, w ≤ m) ∧ wsum al = 2 ^ m := by
  obtain ⟨h0, h1, h2, ws, h3, h4⟩ := treeS_some h
  have h5 := treeP_some h4
  refine ⟨by omega, h5.2.2.2.1, by rw [h5.2.2.1]; unfold mostW; omega, h5.2.2.2.2.2.2.2, h5.2.2.2.2.2.2.1⟩

theorem hd2_low {f : Nat} (h : f < 4) : 3 ≤ hd2 f ∧ hd2 f ≤ 5 := by
  have : f = 0 ∨ f = 1 ∨ f = 2 ∨ f = 3 := by omega
  rcases this with rfl | rfl | rfl | rfl <;> decide

theorem litH_right {ds t : List Nat} (hd : Bytes ds) {k f z : Nat} (hf : f < 4) (h : litH ds k f = (1, t, z)) : k = 2 ∧ HufR ds f t z := by
  have h23 := hd2_low hf
  unfold litH at h
  split at h
  · cases h
  · split at h
    · cases h
    · rename_i hl1 hl2
      split at h
      · cases h
      · rename_i hk
        split at h
        · cases h
        · rename_i al m q ht
          unfold litT at h
          split at h
          · cases h
          · rename_i h1
            split at h
            · cases h
            · rename_i hmany
              obtain ⟨ht2, hq⟩ := litH_tree ht
              have hf2 := tree_facts ht2
              have e1 : ((ds.drop (hd2 f)).take (lsize ds f)).drop q = (ds.drop (hd2 f + q)).take (lsize ds f - q) := by rw [List.drop_take, List.drop_drop]
              rw [e1] at h
              simp only [Prod.mk.injEq] at h
              obtain ⟨h3, h4, h5⟩ := h
              have h6 : strV ((ds.drop (hd2 f + q)).take (lsize ds f - q)) m (rowsTo al m m) (lmany ds f) (f != 0) = (1, t) := by rw [← h3, ← h4]
              refine ⟨by omega, by omega, h5.symm, by omega, by omega, al, m, q, ht2, Classical.not_not.1 h1, hq, ?_⟩
              split
              · rename_i hf0
                subst hf0
                exact one_right hd (by omega) hf2.2.2.2.1 hf2.2.2.2.2 hf2.2.1 (by omega) h6
              · rename_i hf0
                have e2 : (f != 0) = true := bne_iff_ne.2 hf0
                rw [e2] at h6
                exact four_right hd (by omega) hf2.2.2.2.1 hf2.2.2.2.2 hf2.2.1 h6
theorem litH_wrong {ds : List Nat} (hd : Bytes ds) {k f : Nat} (hf : f < 4) (h : (litH ds k f).1 = 2) : HufW ds k f := by
  have h23 := hd2_low hf
  unfold litH at h
  split at h
  · rename_i hl; exact .inl hl
  · split at h
    · rename_i hl; exact .inr (.inl hl)
    · rename_i hl1 hl2
      split at h
      · rename_i hk; exact .inr (.inr (.inl hk))
      · refine .inr (.inr (.inr ⟨by omega, fun al' m' q' ht' h1' => ?_⟩))
        split at h
        · rename_i ht
          exact .inl (litH_none ht ht')
        · rename_i al m q ht
          unfold litT at h
          split at h
          · cases h
          · split at h
            · cases h
            · obtain ⟨ht2, hq⟩ := litH_tree ht
              rw [ht2] at ht'
              simp only [Option.some.injEq, Prod.mk.injEq] at ht'
              obtain ⟨rfl, rfl, rfl⟩ := ht'
              have hf2 := tree_facts ht2
              have e1 : ((ds.drop (hd2 f)).take (lsize ds f)).drop q = (ds.drop (hd2 f + q)).take (lsize ds f - q) := by rw [List.drop_take, List.drop_drop]
              rw [e1] at h
              right
              split
              · rename_i hf0
                subst hf0
                exact one_wrong hd (by omega) h
              · rename_i hf0
                have e2 : (f != 0) = true := bne_iff_ne.2 hf0
                rw [e2] at h
                exact four_wrong hd (by omega) hf2.2.2.2.1 hf2.2.2.2.2 hf2.2.1 h
end
end Go.Proofs.YtabaholflahepaaDoor
