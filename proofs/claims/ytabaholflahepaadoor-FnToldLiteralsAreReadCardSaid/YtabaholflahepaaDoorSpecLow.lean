/-
  Contracts of the reference's forward reader and of spec.Low.
-/
import Derived.Test.YtabaholflahepaaDoorLow
namespace Go.Proofs.YtabaholflahepaaDoor
open Go.RowKit

/-- The reference's forward reader: bytes, bits that were read, whether more were asked for than there are. -/
def blCells (A : Option Addr) (c : Nat) (ds : List Nat) (pos : Nat) (bad : Bool) : List Value := [.slice A ds.length c, .int .i64 (pos : Int), .bool bad]

set_option maxHeartbeats 400000 in
theorem blRead_ok {R : Nat → Prop} (b : Nat) (A : Option Addr) (c : Nat) (ds : List Nat) (pos n : Nat) (bad : Bool) (w : World) (hb : Blk w b 88 (blCells A c ds pos bad)) (hs : Sl w R A (u8s ds)) 
    (hd : Bytes ds) (hlen : ds.length < 2 ^ 40) (hn : n ≤ 31) (h1 : pos + n ≤ 8 * ds.length) :
    Calls Tryd.prog 42 #[.pointer (some ⟨b, 0, none⟩), .int .i64 (n : Int)] w fun e w' => e = .returned (.int .i64 (num ds / 2 ^ pos % 2 ^ n : Nat)) ∧ Blk w' b 88 (blCells A c ds (pos + n) bad) ∧ Keep (· = b) w w' := by
  have c0 : w.cell? ⟨b, 0, none⟩ = some (.slice A ds.length c) := hb.cell 0
  have c1 : w.cell? ⟨b, 1, none⟩ = some (.int .i64 (pos : Int)) := hb.cell 1
  have f1 := hb.frozen 1
  go_enter Tryd.func42, Tryd.ntmps42
  go_wp2
  go_loopg [5, 9] (n + 1) (fun g v i wr => ∃ k v' m : Nat, n - k < g ∧ k ≤ n ∧ i = .int .i64 k ∧ v = .int .i64 v' ∧ Hid (v' = num ds / 2 ^ pos % 2 ^ k) ∧ wr = w.drewN m)
  case atStart => exact ⟨0, 0, 0, by omega, by omega, rfl, rfl, by simp [Hid, Nat.mod_one], rfl⟩
  case round =>
    obtain ⟨k, v, m, q1, q2, rfl, rfl, q3, rfl⟩ := hrel
    have hv : v < 2 ^ k := q3.out ▸ Nat.mod_lt _ (pow_pos' _)
    have hv2 : v < 2147483648 := Nat.lt_of_lt_of_le hv (pow_le_31 (by omega))
    by_cases hlt : k < n
    · obtain ⟨g, o, x, hR, rfl, hcx, hxk⟩ := hs.u8 (k := (pos + k) / 8) (by omega)
      have hx := hd x (List.mem_of_getElem? hxk.out)
      go_wp2
      go_roundg (n - k)
      case measure => exact q1
      case rel =>
        refine ⟨k + 1, v + 2 ^ k * (x / 2 ^ ((pos + k) % 8) % 2), m, by omega, by omega, rfl, ?_, ?_, rfl⟩
        · rw [bit_in hv (by omega) hx]
        · have e1 : ds.getD ((pos + k) / 8) 0 = x := by rw [List.getD_eq_getElem?_getD, hxk.out]; rfl
          show v + _ = _
          rw [mod_pow_add, div_pow_div, ← q3.out, Nat.pow_one, num_bit hd, e1]
    · obtain rfl : k = n := by omega
      go_wp2
      go_ret
      refine ⟨by rw [← q3.out]; rfl, Blk.cast ((hb.drewN m).set 1 _) ?_, ((Keep.refl (· = b) w).drewN m).set (p := ⟨b, 1, none⟩) (.inl rfl) _⟩
      rfl

set_option maxHeartbeats 400000 in
theorem blRead_bad {R : Nat → Prop} (b : Nat) (A : Option Addr) (c : Nat) (ds : List Nat) (pos n : Nat) (bad : Bool) (w : World) (hb : Blk w b 88 (blCells A c ds pos bad)) (hs : Sl w R A (u8s ds)) 
    (hd : Bytes ds) (hlen : ds.length < 2 ^ 40) (hn : n ≤ 31) (h0 : pos ≤ 8 * ds.length) (h1 : 8 * ds.length < pos + n) :
    Calls Tryd.prog 42 #[.pointer (some ⟨b, 0, none⟩), .int .i64 (n : Int)] w fun e w' => e = .returned (.int .i64 0) ∧ Blk w' b 88 (blCells A c ds pos true) ∧ Keep (· = b) w w' := by
  have c0 : w.cell? ⟨b, 0, none⟩ = some (.slice A ds.length c) := hb.cell 0
  have c1 : w.cell? ⟨b, 1, none⟩ = some (.int .i64 (pos : Int)) := hb.cell 1
  have c2 : w.cell? ⟨b, 2, none⟩ = some (.bool bad) := hb.cell 2
  have f2 := hb.frozen 2
  go_enter Tryd.func42, Tryd.ntmps42
  go_wp2
  go_loopg [5, 9] (n + 1) (fun g v i wr => ∃ k v' m : Nat, n - k < g ∧ k ≤ n ∧ pos + k ≤ 8 * ds.length ∧ i = .int .i64 k ∧ v = .int .i64 v' ∧ Hid (v' = num ds / 2 ^ pos % 2 ^ k) ∧ wr = w.drewN m)
  case atStart => exact ⟨0, 0, 0, by omega, by omega, by omega, rfl, rfl, by simp [Hid, Nat.mod_one], rfl⟩
  case round =>
    obtain ⟨k, v, m, q1, q2, q4, rfl, rfl, q3, rfl⟩ := hrel
    have hv : v < 2 ^ k := q3.out ▸ Nat.mod_lt _ (pow_pos' _)
    have hv2 : v < 2147483648 := Nat.lt_of_lt_of_le hv (pow_le_31 (by omega))
    have hlt : k < n := by omega
    by_cases hin : pos + k < 8 * ds.length
    · obtain ⟨g, o, x, hR, rfl, hcx, hxk⟩ := hs.u8 (k := (pos + k) / 8) (by omega)
      have hx := hd x (List.mem_of_getElem? hxk.out)
      go_wp2
      go_roundg (n - k)
      case measure => exact q1
      case rel =>
        refine ⟨k + 1, v + 2 ^ k * (x / 2 ^ ((pos + k) % 8) % 2), m, by omega, by omega, by omega, rfl, ?_, ?_, rfl⟩
        · rw [bit_in hv (by omega) hx]
        · have e1 : ds.getD ((pos + k) / 8) 0 = x := by rw [List.getD_eq_getElem?_getD, hxk.out]; rfl
          show v + _ = _
          rw [mod_pow_add, div_pow_div, ← q3.out, Nat.pow_one, num_bit hd, e1]
    · go_wp2
      go_ret
      exact ⟨rfl, Blk.cast ((hb.drewN m).set 2 _) rfl, ((Keep.refl (· = b) w).drewN m).set (p := ⟨b, 2, none⟩) (.inl rfl) _⟩

theorem blBytes (b : Nat) (A : Option Addr) (c : Nat) (ds : List Nat) (pos : Nat) (bad : Bool) (w : World) (hb : Blk w b 88 (blCells A c ds pos bad)) (h0 : pos < 2 ^ 50) :
    Calls Tryd.prog 43 #[.pointer (some ⟨b, 0, none⟩)] w fun e w' => e = .returned (.int .i64 ((pos + 7) / 8 : Nat)) ∧ w = w' := by
  have c1 : w.cell? ⟨b, 1, none⟩ = some (.int .i64 (pos : Int)) := hb.cell 1
  go_enter Tryd.func43, Tryd.ntmps43
  go_wp2
  go_ret
  exact ⟨by simp, rfl⟩

/-- Numbers of so many bits, from bit pos on. -/
def takes (N : Nat) : Nat → List Nat → List Nat
  | _, [] => []
  | pos, n :: r => N / 2 ^ pos % 2 ^ n :: takes N (pos + n) r
theorem takes_length (N : Nat) : ∀ (l : List Nat) (pos : Nat), (takes N pos l).length = l.length
  | [], _ => rfl
  | _ :: r, pos => by simp [takes, takes_length N r]
theorem takes_append (N : Nat) : ∀ (l r : List Nat) (pos : Nat), takes N pos (l ++ r) = takes N pos l ++ takes N (pos + l.sum) r
  | [], r, pos => by simp [takes]
  | n :: l, r, pos => by simp [takes, takes_append N l, Nat.add_assoc]
theorem takes_push {N : Nat} {ns : List Nat} {k n : Nat} (h : ns[k]? = some n) : takes N 0 (ns.take (k + 1)) = takes N 0 (ns.take k) ++ [N / 2 ^ (ns.take k).sum % 2 ^ n] := by
  rw [take_push h, takes_append, Nat.zero_add]; rfl
theorem sum_take_le (ns : List Nat) (k : Nat) : (ns.take k).sum ≤ ns.sum := by
  conv => rhs; rw [← List.take_append_drop k ns, List.sum_append]
  omega
theorem sum_push {ns : List Nat} {k n : Nat} (h : ns[k]? = some n) : (ns.take (k + 1)).sum = (ns.take k).sum + n := by
  rw [take_push h, List.sum_append]; simp

set_option maxHeartbeats 400000 in
theorem specLow_ok {R : Nat → Prop} (A A' : Option Addr) (c c' : Nat) (ds ns : List Nat) (w : World) (hs : Sl w R A (u8s ds)) (hs' : Sl w R A' (nats ns)) 
    (hd : Bytes ds) (hn : ∀ n ∈ ns, n ≤ 16) (hlen : ds.length < 2 ^ 40) (hlen' : ns.length < 2 ^ 31) (h1 : ns.sum ≤ 8 * ds.length) :
    Calls Tryd.prog 17 #[.slice A ds.length c, .slice A' ns.length c'] w fun e w' => ∃ A2 c2, e = .returned (.tuple #[.slice A2 ns.length c2, .int .i64 ((ns.sum + 7) / 8 : Nat), .bool true]) ∧
      w'.ownsRow w.heap.size 3 1 (.slice A2 ns.length c2) ns.length (nats (takes (num ds) 0 ns)) ∧ Kept w w' := by
  have hk0 : Kept w (w.alloc (.cells #[.slice A ds.length c, .int .i64 0, .bool false] 88)) := (Keep.refl _ _).alloc _
  have hb0 : Blk (w.alloc (.cells #[.slice A ds.length c, .int .i64 0, .bool false] 88)) w.heap.size 88 (blCells A c ds 0 false) := Blk.new w 88 _
  go_enter Tryd.func17, Tryd.ntmps17
  go_wp2
  go_loopg [8, 16] (ns.length + 1) (fun g v i wr => ∃ k A2 c2, ns.length - k < g ∧ k ≤ ns.length ∧ i = .int .i64 k ∧ v = .slice A2 k c2 ∧ wr.ownsRow w.heap.size 3 1 (.slice A2 k c2) k (nats (takes (num ds) 0 (ns.take k))) ∧
    Blk wr w.heap.size 88 (blCells A c ds (ns.take k).sum false) ∧ Kept w wr)
  case atStart => exact ⟨0, _, _, by omega, by omega, rfl, rfl, by simpa [nats, takes] using World.ownsRow_nil _ _ _ _, hb0, hk0⟩
  case round =>
    obtain ⟨k, A2, c2, q1, q2, rfl, rfl, qo, qb, qk⟩ := hrel
    by_cases hlt : k < ns.length
    · obtain ⟨g, o, n, hR, rfl, hcx, hxk⟩ := (hs'.kept qk).nat hlt
      have hn1 := hn n (List.mem_of_getElem? hxk.out)
      have hsum := sum_take_le ns (k + 1)
      rw [sum_push hxk.out] at hsum
      have hs2 := hs.kept qk
      have hne := own_ne qo qb (by decide)
      go_wp2_with (first
        | (go_at_call 42; refine (blRead_ok w.heap.size A c ds _ n false _ qb hs2 hd hlen (by omega) (by omega)).mono ?_; rintro e w1 ⟨rfl, hb1, hk1⟩; have qk1 := qk.then hk1 (fun k hk h => by subst h; omega); have qo1 := own_keep qo hk1 (fun g hg h => hne (h ▸ hg)))
        | (at_builtin; refine wpList_push rfl _ _ rfl el23 qk1 A2 k c2 _ rfl qo1 [.int .i64 (num ds / 2 ^ (ns.take k).sum % 2 ^ n : Nat)] rfl rfl (by simp [Value.oneCell']) (by omega) ?_; intro A3 c3 w3 hown3 hk3 hg3))
      go_roundg (ns.length - k)
      case measure => exact q1
      case rel =>
        refine ⟨k + 1, A3, c3, by omega, by omega, rfl, rfl, ?_, ?_, hk3⟩
        · rw [takes_push hxk.out, nats, List.map_append]; exact hown3
        · rw [sum_push hxk.out]
          exact blk_grown hb1 hg3 (own_ne qo1 hb1 (by decide))
    · obtain rfl : k = ns.length := by omega
      rw [List.take_length] at qo qb
      have c2' : wr.cell? ⟨w.heap.size, 2, none⟩ = some (.bool false) := qb.cell 2
      go_wp2
      go_quiet ((go_at_call 43; exact quiet_same (blBytes _ A c ds ns.sum false _ qb (by omega))))
      go_wp2
      go_ret3
      exact ⟨A2, c2, rfl, qo, qk.drewN _⟩

set_option maxHeartbeats 400000 in
theorem specLow_bad {R : Nat → Prop} (A A' : Option Addr) (c c' : Nat) (ds ns : List Nat) (w : World) (hs : Sl w R A (u8s ds)) (hs' : Sl w R A' (nats ns))
    (hd : Bytes ds) (hn : ∀ n ∈ ns, n ≤ 16) (hlen : ds.length < 2 ^ 40) (hlen' : ns.length < 2 ^ 31) (h1 : 8 * ds.length < ns.sum) :
    Calls Tryd.prog 17 #[.slice A ds.length c, .slice A' ns.length c'] w fun e w' => ∃ A2 c2 x, e = .returned (.tuple #[.slice A2 ns.length c2, .int .i64 x, .bool false]) ∧ Kept w w' := by
  have hk0 : Kept w (w.alloc (.cells #[.slice A ds.length c, .int .i64 0, .bool false] 88)) := (Keep.refl _ _).alloc _
  have hb0 : Blk (w.alloc (.cells #[.slice A ds.length c, .int .i64 0, .bool false] 88)) w.heap.size 88 (blCells A c ds 0 false) := Blk.new w 88 _
  go_enter Tryd.func17, Tryd.ntmps17
  go_wp2
  go_loopg [8, 16] (ns.length + 1) (fun g v i wr => ∃ k A2 c2 xs p bad, ns.length - k < g ∧ k ≤ ns.length ∧ i = .int .i64 k ∧ v = .slice A2 k c2 ∧ wr.ownsRow w.heap.size 3 1 (.slice A2 k c2) k xs ∧
    Blk wr w.heap.size 88 (blCells A c ds p bad) ∧ p ≤ 8 * ds.length ∧ Hid (bad = false → p = (ns.take k).sum) ∧ Kept w wr)
  case atStart => exact ⟨0, _, _, [], 0, false, by omega, by omega, rfl, rfl, World.ownsRow_nil _ _ _ _, hb0, by omega, fun _ => rfl, hk0⟩
  case round =>
    obtain ⟨k, A2, c2, xs, p, bad, q1, q2, rfl, rfl, qo, qb, q3, q4, qk⟩ := hrel
    by_cases hlt : k < ns.length
    · obtain ⟨g, o, n, hR, rfl, hcx, hxk⟩ := (hs'.kept qk).nat hlt
      have hn1 := hn n (List.mem_of_getElem? hxk.out)
      have hs2 := hs.kept qk
      have hne := own_ne qo qb (by decide)
      by_cases hin : p + n ≤ 8 * ds.length
      · go_wp2_with (first
          | (go_at_call 42; refine (blRead_ok w.heap.size A c ds p n bad _ qb hs2 hd hlen (by omega) (by omega)).mono ?_; rintro e w1 ⟨rfl, hb1, hk1⟩; have qk1 := qk.then hk1 (fun k hk h => by subst h; omega); have qo1 := own_keep qo hk1 (fun g hg h => hne (h ▸ hg)))
          | (at_builtin; refine wpList_push rfl _ _ rfl el23 qk1 A2 k c2 _ rfl qo1 [.int .i64 (num ds / 2 ^ p % 2 ^ n : Nat)] rfl rfl (by simp [Value.oneCell']) (by omega) ?_; intro A3 c3 w3 hown3 hk3 hg3))
        go_roundg (ns.length - k)
        case measure => exact q1
        case rel =>
          refine ⟨k + 1, A3, c3, _, p + n, bad, by omega, by omega, rfl, rfl, hown3, blk_grown hb1 hg3 (own_ne qo1 hb1 (by decide)), hin, ?_, hk3⟩
          intro hbad
          rw [sum_push hxk.out, q4.out hbad]
      · go_wp2_with (first
          | (go_at_call 42; refine (blRead_bad w.heap.size A c ds p n bad _ qb hs2 hd hlen (by omega) q3 (by omega)).mono ?_; rintro e w1 ⟨rfl, hb1, hk1⟩; have qk1 := qk.then hk1 (fun k hk h => by subst h; omega); have qo1 := own_keep qo hk1 (fun g hg h => hne (h ▸ hg)))
          | (at_builtin; refine wpList_push rfl _ _ rfl el23 qk1 A2 k c2 _ rfl qo1 [.int .i64 0] rfl rfl (by simp [Value.oneCell']) (by omega) ?_; intro A3 c3 w3 hown3 hk3 hg3))
        go_roundg (ns.length - k)
        case measure => exact q1
        case rel =>
          exact ⟨k + 1, A3, c3, _, p, true, by omega, by omega, rfl, rfl, hown3, blk_grown hb1 hg3 (own_ne qo1 hb1 (by decide)), q3, fun h => by simp at h, hk3⟩
    · obtain rfl : k = ns.length := by omega
      have hbad : bad = true := by
        have := q4.out
        rw [List.take_length] at this
        cases bad
        · have := this rfl; omega
        · rfl
      subst hbad
      have c2' : wr.cell? ⟨w.heap.size, 2, none⟩ = some (.bool true) := qb.cell 2
      go_wp2
      go_quiet ((go_at_call 43; exact quiet_same (blBytes _ A c ds p true _ qb (by omega))))
      go_wp2
      go_ret3
      exact ⟨A2, c2, _, rfl, qk.drewN _⟩
end Go.Proofs.YtabaholflahepaaDoor
