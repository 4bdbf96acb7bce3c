/-
  Contracts of the reference's backward reader (backward, read) and of spec.Back.
-/
import Derived.Test.YtabaholflahepaaDoorSpecLow
import Derived.Test.YtabaholflahepaaDoorRev
namespace Go.Proofs.YtabaholflahepaaDoor
open Go.RowKit

/-- The bit at place p; there is none below 0. -/
def bitAt (N : Nat) (p : Int) : Nat := if 0 ≤ p then N / 2 ^ p.toNat % 2 else 0
/-- The number of the n bits below L, the first one as the highest. -/
def backVal (N : Nat) (L : Int) : Nat → Nat
  | 0 => 0
  | n + 1 => 2 * backVal N L n + bitAt N (L - n - 1)

theorem bitAt_lt (N : Nat) (p : Int) : bitAt N p < 2 := by unfold bitAt; split <;> omega
theorem backVal_lt (N : Nat) (L : Int) : ∀ n, backVal N L n < 2 ^ n
  | 0 => by simp [backVal]
  | n + 1 => by
    have := backVal_lt N L n
    have := bitAt_lt N (L - n - 1)
    rw [backVal, Nat.pow_succ]; omega
theorem backVal_in (N p : Nat) : ∀ n, n ≤ p → backVal N (p : Int) n = N / 2 ^ (p - n) % 2 ^ n
  | 0, _ => by simp [backVal, Nat.mod_one]
  | n + 1, h => by
    rw [backVal, backVal_in N p n (by omega), bitAt, if_pos (by omega), show ((p : Int) - n - 1).toNat = p - (n + 1) by omega]
    rw [show N / 2 ^ (p - n) = N / 2 ^ (p - (n + 1)) / 2 ^ 1 by rw [div_pow_div, show p - (n + 1) + 1 = p - n by omega]]
    rw [Nat.add_comm n 1, mod_pow_add, Nat.pow_one]
    omega

def bkCells (A : Option Addr) (c len : Nat) (L : Int) : List Value := [.slice A len c, .int .i64 L]

section
variable {R : Nat → Prop}

theorem backward_none (A : Option Addr) (c : Nat) (w : World) :
    Calls Tryd.prog 45 #[.slice A 0 c] w fun e w' => e = .returned (.tuple #[.pointer none, .bool false]) ∧ w = w' := by
  go_enter Tryd.func45, Tryd.ntmps45
  go_wp2
  go_ret2
  exact ⟨rfl, rfl⟩

theorem backward_zero (A : Option Addr) (c : Nat) (ds : List Nat) (w : World) (hs : Sl w R A (u8s ds)) (hx : ds[ds.length - 1]? = some 0) (hlen : ds.length < 2 ^ 40) :
    Calls Tryd.prog 45 #[.slice A ds.length c] w fun e w' => e = .returned (.tuple #[.pointer none, .bool false]) ∧ w = w' := by
  have ho := (List.getElem?_eq_some_iff.1 hx).1
  obtain ⟨l, hl⟩ : ∃ l, ds.length = l + 1 := ⟨ds.length - 1, by omega⟩
  rw [hl, Nat.add_sub_cancel] at hx
  have Hx := Lib.hid hx
  clear hx
  obtain ⟨g, o, y, hR, rfl, hcy, hyk⟩ := hs.u8 (k := l) (by omega)
  obtain rfl : 0 = y := Option.some.inj (Hx.out.symm.trans hyk.out)
  rw [hl] at hlen ⊢
  clear ho hl
  go_enter Tryd.func45, Tryd.ntmps45
  go_wp2
  go_ret2
  exact ⟨rfl, rfl⟩

theorem shr_top {x n k : Nat} (h1 : 2 ^ n ≤ x) (h2 : x < 2 ^ (n + 1)) : x / 2 ^ k = 0 ↔ n < k := by
  constructor
  · intro h
    refine Classical.byContradiction fun h' => ?_
    have : 2 ^ k ≤ 2 ^ n := Nat.pow_le_pow_right (by decide) (by omega)
    have h3 : 1 ≤ x / 2 ^ k := (Nat.le_div_iff_mul_le (pow_pos' k)).2 (by omega)
    omega
  · intro h
    have : 2 ^ (n + 1) ≤ 2 ^ k := Nat.pow_le_pow_right (by decide) (by omega)
    exact Nat.div_eq_of_lt (by omega)

theorem backward_ok (A : Option Addr) (c : Nat) (ds : List Nat) (x n : Nat) (w : World) (hs : Sl w R A (u8s ds)) (hx : ds[ds.length - 1]? = some x) (hlen : ds.length < 2 ^ 40)
    (h1 : 2 ^ n ≤ x) (h2 : x < 2 ^ (n + 1)) (h3 : x < 256) :
    Calls Tryd.prog 45 #[.slice A ds.length c] w fun e w' => e = .returned (.tuple #[.pointer (some ⟨w.heap.size, 0, none⟩), .bool true]) ∧ Blk w' w.heap.size 96 (bkCells A c ds.length (8 * (ds.length - 1 : Nat) + n : Nat)) ∧ Kept w w' := by
  have ho := (List.getElem?_eq_some_iff.1 hx).1
  have hn := (byte_top h1 h2 h3).2
  have h0 := pow_pos' n
  obtain ⟨l, hl⟩ : ∃ l, ds.length = l + 1 := ⟨ds.length - 1, by omega⟩
  rw [hl, Nat.add_sub_cancel] at hx
  have Hx := Lib.hid hx
  clear hx
  obtain ⟨g, o, y, hR, rfl, hcy, hyk⟩ := hs.u8 (k := l) (by omega)
  obtain rfl : x = y := Option.some.inj (Hx.out.symm.trans hyk.out)
  rw [hl] at hlen ⊢
  rw [Nat.add_sub_cancel]
  have hx0 : ((x : Int) == 0) = false := by rw [beq_eq_false_iff_ne]; omega
  have H1 := Lib.hid h1
  have H2 := Lib.hid h2
  clear ho hl h1 h2 h0
  go_enter Tryd.func45, Tryd.ntmps45
  go_wp2
  go_loopg [4] 9 (fun g i wr => ∃ k : Nat, k < g ∧ n ≤ k ∧ k ≤ 7 ∧ i = .int .i64 k ∧ w = wr)
  case atStart => exact ⟨7, by omega, by omega, by omega, rfl, rfl⟩
  case round =>
    obtain ⟨k, q1, q2, q3, rfl, rfl⟩ := hrel
    have hk := shr_top (k := k) H1.out H2.out
    by_cases hlt : n < k
    · have e1 : ((x : Int) / 2 ^ k == 0) = true := by rw [cast_div_pow, hk.2 hlt]; rfl
      clear hk
      go_wp2
      go_roundg k
      case measure => exact q1
      case rel => exact ⟨k - 1, by omega, by omega, by omega, by rw [show ((k - 1 : Nat) : Int) = (k : Int) - 1 by omega], rfl⟩
    · obtain rfl : n = k := by omega
      have e1 : ((x : Int) / 2 ^ n == 0) = false := by
        rw [cast_div_pow, beq_eq_false_iff_ne]
        intro h
        have := hk.1 (by omega)
        omega
      clear hk
      go_wp2
      go_ret2
      exact ⟨rfl, Blk.cast (Blk.new _ 96 _) rfl, (Keep.refl _ _).alloc _⟩

set_option maxHeartbeats 400000 in
theorem bkRead_any (b : Nat) (A : Option Addr) (c : Nat) (ds : List Nat) (L : Int) (n : Nat) (w : World) (hb : Blk w b 96 (bkCells A c ds.length L)) (hs : Sl w R A (u8s ds)) (hR : ¬ R b)
    (hd : Bytes ds) (hlen : ds.length < 2 ^ 40) (hn : n ≤ 31) (h1 : L ≤ 8 * ds.length) (h2 : -2 ^ 50 ≤ L) :
    Calls Tryd.prog 46 #[.pointer (some ⟨b, 0, none⟩), .int .i64 (n : Int)] w fun e w' => e = .returned (.int .i64 (backVal (num ds) L n : Nat)) ∧ Blk w' b 96 (bkCells A c ds.length (L - n)) ∧ Keep (· = b) w w' := by
  go_enter Tryd.func46, Tryd.ntmps46
  go_wp2
  go_loopg [5, 7] (n + 1) (fun g v i wr => ∃ k v' : Nat, n - k < g ∧ k ≤ n ∧ i = .int .i64 k ∧ v = .int .i64 v' ∧ Hid (v' = backVal (num ds) L k) ∧ Blk wr b 96 (bkCells A c ds.length (L - k)) ∧ Keep (· = b) w wr)
  case atStart => exact ⟨0, 0, by omega, by omega, rfl, rfl, rfl, Blk.cast hb (by simp), Keep.refl _ _⟩
  case round =>
    obtain ⟨k, v, q1, q2, rfl, rfl, q3, qb, qk⟩ := hrel
    have hv : v < 2 ^ k := q3.out ▸ backVal_lt _ _ _
    have hv2 : v < 2147483648 := Nat.lt_of_lt_of_le hv (pow_le_31 (by omega))
    have hs' := hs.keep qk (fun k _ hk => by rintro rfl; exact hR hk)
    have c0 : wr.cell? ⟨b, 0, none⟩ = some (.slice A ds.length c) := qb.cell 0
    have c1 : wr.cell? ⟨b, 1, none⟩ = some (.int .i64 (L - k)) := qb.cell 1
    have f1 := qb.frozen 1
    by_cases hlt : k < n
    · by_cases hin : 0 ≤ L - k - 1
      · obtain ⟨m, hm⟩ : ∃ m : Nat, L - k - 1 = m := ⟨(L - k - 1).toNat, by omega⟩
        obtain ⟨g, o, x, hR', rfl, hcx, hxk⟩ := hs'.u8 (k := m / 8) (by omega)
        have hx := hd x (List.mem_of_getElem? hxk.out)
        have hgb : b ≠ g := by rintro rfl; exact hR hR'
        have hgb' : g ≠ b := by rintro rfl; exact hR hR'
        have hbit : bitAt (num ds) (L - k - 1) = x / 2 ^ (m % 8) % 2 := by
          have e1 : ds.getD (m / 8) 0 = x := by rw [List.getD_eq_getElem?_getD, hxk.out]; rfl
          rw [bitAt, if_pos hin, hm, Int.toNat_natCast, num_bit hd, e1]
        have Hbit := Lib.hid hbit
        clear hbit
        have eb : Go.bits .and .u8 ((x : Int) / 2 ^ (m % 8)) 1 = ((x / 2 ^ (m % 8) % 2 : Nat) : Int) := by
          rw [cast_div_pow, show (1 : Int) = ((1 : Nat) : Int) from rfl, u8_and_nat _ _ (Nat.lt_of_le_of_lt (Nat.div_le_self _ _) hx) (by decide), nat_mask1]
        have Eb := Lib.hid eb
        clear eb
        go_wp2
        go_quiet (fail)
        go_wp2
        go_roundg (n - k)
        case measure => exact q1
        case rel =>
          refine ⟨k + 1, v * 2 + x / 2 ^ (m % 8) % 2, by omega, by omega, rfl, ?_, ?_, Blk.cast ((qb.set 1 _).drewN _) ?_, (qk.set (.inl rfl) _).drewN _⟩
          · rw [Eb.out, wrap64_nat (by omega), show (v : Int) * 2 + ((x / 2 ^ (m % 8) % 2 : Nat) : Int) = ((v * 2 + x / 2 ^ (m % 8) % 2 : Nat) : Int) by omega, wrap64_nat (by omega)]
          · show _ = 2 * _ + _
            rw [← q3.out, Hbit.out, Nat.mul_comm]
          · rw [show L - ((k + 1 : Nat) : Int) = (m : Int) by omega]; rfl
      · have hbit : bitAt (num ds) (L - k - 1) = 0 := by rw [bitAt, if_neg hin]
        have Hbit := Lib.hid hbit
        clear hbit
        go_wp2
        go_roundg (n - k)
        case measure => exact q1
        case rel =>
          refine ⟨k + 1, v * 2, by omega, by omega, rfl, rfl, ?_, Blk.cast (qb.set 1 _) ?_, qk.set (.inl rfl) _⟩
          · show _ = 2 * _ + _
            rw [← q3.out, Hbit.out, Nat.mul_comm]; rfl
          · rw [show L - ((k + 1 : Nat) : Int) = L - k - 1 by omega]; rfl
    · obtain rfl : k = n := by omega
      go_wp2
      go_ret
      exact ⟨by rw [← q3.out]; rfl, qb, qk⟩

/-- Numbers of so many bits, below L. -/
def backs (N : Nat) : Int → List Nat → List Nat
  | _, [] => []
  | L, n :: r => backVal N L n :: backs N (L - n) r
theorem backs_length (N : Nat) : ∀ (l : List Nat) (L : Int), (backs N L l).length = l.length
  | [], _ => rfl
  | _ :: r, L => by simp [backs, backs_length N r]
theorem backs_append (N : Nat) : ∀ (l r : List Nat) (L : Int), backs N L (l ++ r) = backs N L l ++ backs N (L - (l.sum : Nat)) r
  | [], r, L => by simp [backs]
  | n :: l, r, L => by simp [backs, backs_append N l, Int.sub_sub]
theorem backs_push {N : Nat} {L : Int} {ns : List Nat} {k n : Nat} (h : ns[k]? = some n) : backs N L (ns.take (k + 1)) = backs N L (ns.take k) ++ [backVal N (L - ((ns.take k).sum : Nat)) n] := by
  rw [take_push h, backs_append]; rfl
theorem backs_lt (N : Nat) : ∀ (ns : List Nat) (L : Int), (∀ n ∈ ns, n ≤ 16) → ∀ x ∈ backs N L ns, x < 2 ^ 32
  | [], _, _, x, hx => by simp [backs] at hx
  | n :: r, L, h, x, hx => by
    rcases List.mem_cons.1 hx with rfl | hx
    · exact Nat.lt_of_lt_of_le (backVal_lt _ _ n) (Nat.pow_le_pow_right (by decide) (by have := h n (List.mem_cons_self ..); omega))
    · exact backs_lt N r _ (fun y hy => h y (List.mem_cons_of_mem _ hy)) x hx

/-- No mark. -/
def NoMark (ds : List Nat) : Prop := ds = [] ∨ ds[ds.length - 1]? = some 0
/-- The mark of the last byte is its bit n. -/
structure Mark (ds : List Nat) (x n : Nat) : Prop where
  last : ds[ds.length - 1]? = some x
  low : 2 ^ n ≤ x
  high : x < 2 ^ (n + 1)
  byte : x < 256

theorem mark_or {ds : List Nat} (hd : Bytes ds) : NoMark ds ∨ ∃ x n, Mark ds x n := by
  cases h : ds[ds.length - 1]? with
  | none =>
    left; left
    have := List.getElem?_eq_none_iff.1 h
    exact List.eq_nil_of_length_eq_zero (by omega)
  | some x =>
    have hx := hd x (List.mem_of_getElem? h)
    by_cases h0 : x = 0
    · subst h0; exact .inl (.inr h)
    · obtain ⟨n, h1, h2, _⟩ := exists_top (Nat.pos_of_ne_zero h0) hx
      exact .inr ⟨x, n, h, h1, h2, hx⟩

theorem backward_no (A : Option Addr) (c : Nat) (ds : List Nat) (w : World) (hs : Sl w R A (u8s ds)) (h : NoMark ds) (hlen : ds.length < 2 ^ 40) :
    Calls Tryd.prog 45 #[.slice A ds.length c] w fun e w' => e = .returned (.tuple #[.pointer none, .bool false]) ∧ w = w' := by
  rcases h with rfl | h
  · exact backward_none A c w
  · exact backward_zero A c ds w hs h hlen

theorem specBack_no (A A' : Option Addr) (c c' : Nat) (ds ns : List Nat) (w : World) (hs : Sl w R A (u8s ds)) (h : NoMark ds) (hlen : ds.length < 2 ^ 40) :
    Calls Tryd.prog 21 #[.slice A ds.length c, .slice A' ns.length c'] w fun e w' => e = .returned (.tuple #[.slice none 0 0, .bool false]) ∧ w = w' := by
  have hb := backward_no A c ds w hs h hlen
  have Hb := Lib.hid hb
  clear hb h
  go_enter Tryd.func21, Tryd.ntmps21
  go_wp2_with (refine Hb.out.mono ?_; rintro e w1 ⟨rfl, rfl⟩)
  go_ret2
  exact ⟨rfl, rfl⟩

set_option maxHeartbeats 400000 in
theorem specBack_any {R' : Nat → Prop} (A A' : Option Addr) (c c' : Nat) (ds ns : List Nat) (x m : Nat) (w : World) (hs : Sl w (· < w.heap.size) A (u8s ds)) (hs' : Sl w R' A' (nats ns)) (hmk : Mark ds x m)
    (hd : Bytes ds) (hn : ∀ n ∈ ns, n ≤ 16) (hlen : ds.length < 2 ^ 40) (hlen' : ns.length < 2 ^ 31) :
    Calls Tryd.prog 21 #[.slice A ds.length c, .slice A' ns.length c'] w fun e w' => ∃ A2 c2, e = .returned (.tuple #[.slice A2 ns.length c2, .bool (decide (ns.sum ≤ 8 * (ds.length - 1 : Nat) + m))]) ∧
      w'.ownsRow w.heap.size 3 1 (.slice A2 ns.length c2) ns.length (nats (backs (num ds) ((8 * (ds.length - 1 : Nat) + m : Nat) : Int) ns)) ∧ Kept w w' := by
  obtain ⟨h1, h2, h3, h4⟩ := hmk
  have hm := (byte_top h2 h3 h4).2
  have ho := (List.getElem?_eq_some_iff.1 h1).1
  have hb := backward_ok A c ds x m w hs h1 hlen h2 h3 h4
  obtain ⟨L, hL⟩ : ∃ L : Nat, L = 8 * (ds.length - 1 : Nat) + m := ⟨_, rfl⟩
  rw [← hL] at hb ⊢
  have Hb := Lib.hid hb
  clear hb h1 h2 h3 h4
  have hL2 : L ≤ 8 * ds.length := by omega
  have hsum : ∀ k, (ns.take k).sum ≤ 16 * ns.length := fun k => Nat.le_trans (sum_take_le ns k) (by
    clear hs' hlen'
    induction ns with
    | nil => simp
    | cons n r ih =>
      have h1 := hn n (List.mem_cons_self ..)
      have h2 := ih fun y hy => hn y (List.mem_cons_of_mem _ hy)
      simp only [List.sum_cons, List.length_cons]
      omega)
  have Hsum := Lib.hid hsum
  clear hL hsum
  go_enter Tryd.func21, Tryd.ntmps21
  go_wp2_with (refine Hb.out.mono ?_; rintro e w1 ⟨rfl, qb0, qk0⟩)
  go_loopg [8, 20] (ns.length + 1) (fun g v i wr => ∃ k A2 c2, ns.length - k < g ∧ k ≤ ns.length ∧ i = .int .i64 k ∧ v = .slice A2 k c2 ∧ wr.ownsRow w.heap.size 3 1 (.slice A2 k c2) k (nats (backs (num ds) L (ns.take k))) ∧
    Blk wr w.heap.size 96 (bkCells A c ds.length ((L : Int) - ((ns.take k).sum : Nat))) ∧ Kept w wr)
  case atStart => exact ⟨0, _, _, by omega, by omega, rfl, rfl, by simpa [nats, backs] using World.ownsRow_nil _ _ _ _, Blk.cast qb0 (by simp), qk0⟩
  case round =>
    obtain ⟨k, A2, c2, q1, q2, rfl, rfl, qo, qb, qk⟩ := hrel
    have hsk := Hsum.out k
    by_cases hlt : k < ns.length
    · obtain ⟨g, o, n, hR, rfl, hcx, hxk⟩ := (hs'.kept qk).nat hlt
      have hn1 := hn n (List.mem_of_getElem? hxk.out)
      have hs2 := hs.kept qk
      have hne := own_ne qo qb (by decide)
      go_wp2_with (first
        | (go_at_call 46; refine (bkRead_any w.heap.size A c ds _ n _ qb hs2 (by simp) hd hlen (by omega) (by omega) (by omega)).mono ?_; rintro e w1 ⟨rfl, hb1, hk1⟩; have qk1 := qk.then hk1 (fun k hk h => by subst h; omega); have qo1 := own_keep qo hk1 (fun g hg h => hne (h ▸ hg)))
        | (at_builtin; refine wpList_push rfl _ _ rfl el23 qk1 A2 k c2 _ rfl qo1 [.int .i64 (backVal (num ds) ((L : Int) - ((ns.take k).sum : Nat)) n : Nat)] rfl rfl (by simp [Value.oneCell']) (by omega) ?_; intro A3 c3 w3 hown3 hk3 hg3))
      go_roundg (ns.length - k)
      case measure => exact q1
      case rel =>
        refine ⟨k + 1, A3, c3, by omega, by omega, rfl, rfl, ?_, ?_, hk3⟩
        · rw [backs_push hxk.out, nats, List.map_append]; exact hown3
        · rw [sum_push hxk.out]
          refine Blk.cast (blk_grown hb1 hg3 (own_ne qo1 hb1 (by decide))) ?_
          rw [show (L : Int) - (((ns.take k).sum + n : Nat) : Int) = (L : Int) - ((ns.take k).sum : Nat) - n by omega]
    · obtain rfl : k = ns.length := by omega
      rw [List.take_length] at qo qb
      have c1 : wr.cell? ⟨w.heap.size, 1, none⟩ = some (.int .i64 ((L : Int) - ((ns.sum : Nat) : Int))) := qb.cell 1
      go_wp2
      go_quiet (fail)
      go_wp2
      go_ret2
      exact ⟨A2, c2, rfl, qo, qk.drewN _⟩
end
end Go.Proofs.YtabaholflahepaaDoor
