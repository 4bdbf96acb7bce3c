/-
  Plain law: lists of bits as numbers, bytes that hold them. And more of its kind (BitsP, Told).
-/
import Derived.Test.YtabaholflahepaaDoorToldP
import Derived.Test.YtabaholflahepaaDoorCells
import Derived.Test.YtabaholflahepaaDoorCopies
import Derived.Test.YtabaholflahepaaDoorShares
import Derived.Test.YtabaholflahepaaDoorLow
namespace Go.Proofs.YtabaholflahepaaDoor
open Go.RowKit

section
theorem num_append : ∀ (a b : List Nat), num (a ++ b) = num a + num b * 2 ^ (8 * a.length)
  | [], b => by simp [num]
  | x :: a, b => by
    rw [List.cons_append, num, num, num_append a b, List.length_cons, show 8 * (a.length + 1) = 8 + 8 * a.length by omega, Nat.pow_add, Nat.mul_add]
    have : (2 ^ 8 : Nat) = 256 := by decide
    rw [this, Nat.mul_left_comm (num b) 256, ← Nat.mul_assoc 256, Nat.mul_assoc 256]
    omega
theorem num_zeros : ∀ n, num (List.replicate n 0) = 0
  | 0 => rfl
  | n + 1 => by rw [List.replicate_succ, num, num_zeros n]
theorem num_set : ∀ (l : List Nat) (i x y : Nat), l[i]? = some x → num (l.set i y) + x * 2 ^ (8 * i) = num l + y * 2 ^ (8 * i)
  | [], i, x, y, h => by simp at h
  | z :: l, 0, x, y, h => by
    simp at h
    subst h
    simp [num]
    omega
  | z :: l, i + 1, x, y, h => by
    have h1 := num_set l i x y (by simpa using h)
    rw [List.set_cons_succ, num, num, show 8 * (i + 1) = 8 + 8 * i by omega, Nat.pow_add]
    have h2 : (2 ^ 8 : Nat) = 256 := by decide
    rw [h2, ← Nat.mul_assoc, ← Nat.mul_assoc, Nat.mul_comm x 256, Nat.mul_comm y 256, Nat.mul_assoc, Nat.mul_assoc]
    omega

def bnum : List Bool → Nat
  | [] => 0
  | x :: r => x.toNat + 2 * bnum r
theorem bnum_append : ∀ (a b : List Bool), bnum (a ++ b) = bnum a + 2 ^ a.length * bnum b
  | [], b => by simp [bnum]
  | x :: a, b => by
    rw [List.cons_append, bnum, bnum, bnum_append a b, List.length_cons, Nat.pow_succ, Nat.mul_add, Nat.mul_comm (2 ^ a.length) 2, Nat.mul_assoc]
    omega
theorem bnum_lt : ∀ (a : List Bool), bnum a < 2 ^ a.length
  | [] => by simp [bnum]
  | x :: a => by
    have := bnum_lt a
    have h2 := Bool.toNat_le x
    rw [bnum, List.length_cons, Nat.pow_succ]
    omega
theorem bnum_push {bs : List Bool} {k : Nat} {x : Bool} (h : bs[k]? = some x) : bnum (bs.take (k + 1)) = bnum (bs.take k) + 2 ^ k * x.toNat := by
  have hk := (List.getElem?_eq_some_iff.1 h).1
  rw [take_push h, bnum_append, List.length_take, Nat.min_eq_left (Nat.le_of_lt hk)]
  simp [bnum]

/-- The lowest n bits of v, the lowest first. -/
def loBits (v n : Nat) : List Bool := (List.range n).map fun i => v / 2 ^ i % 2 == 1
@[simp] theorem loBits_length (v n : Nat) : (loBits v n).length = n := by simp [loBits]
theorem loBits_succ (v n : Nat) : loBits v (n + 1) = loBits v n ++ [v / 2 ^ n % 2 == 1] := by simp [loBits, List.range_succ]
theorem loBits_take (v : Nat) {i n : Nat} (h : i ≤ n) : (loBits v n).take i = loBits v i := by
  unfold loBits
  rw [← List.map_take, List.take_range, Nat.min_eq_left h]
theorem bnum_loBits (v : Nat) : ∀ n, bnum (loBits v n) = v % 2 ^ n
  | 0 => by simp [loBits, bnum, Nat.mod_one]
  | n + 1 => by
    rw [loBits_succ, bnum_append, bnum_loBits v n, loBits_length, mod_pow_add]
    simp only [bnum, Nat.mul_zero, Nat.add_zero, Nat.pow_one]
    congr 2
    rcases Nat.mod_two_eq_zero_or_one (v / 2 ^ n) with h | h <;> rw [h] <;> rfl
def bitsAll (fs : List (Nat × Nat)) : List Bool := fs.flatMap fun x => loBits x.1 x.2
theorem bitsAll_append (a b : List (Nat × Nat)) : bitsAll (a ++ b) = bitsAll a ++ bitsAll b := by simp [bitsAll]
theorem bitsAll_one (v n : Nat) : bitsAll [(v, n)] = loBits v n := by simp [bitsAll]
theorem bitsAll_length : ∀ (fs : List (Nat × Nat)), (bitsAll fs).length = flen fs
  | [] => rfl
  | x :: r => by rw [show x :: r = [x] ++ r from rfl, bitsAll_append, List.length_append, bitsAll_length r, flen_append]; simp [bitsAll]
theorem bnum_bitsAll : ∀ {fs : List (Nat × Nat)}, Fits fs → bnum (bitsAll fs) = fnum fs
  | [], _ => rfl
  | x :: r, h => by
    have h1 := h x (List.mem_cons_self ..)
    rw [show x :: r = [x] ++ r from rfl, bitsAll_append, bnum_append, bnum_bitsAll fun y hy => h y (List.mem_cons_of_mem _ hy), bitsAll_length]
    simp only [bitsAll, List.flatMap_cons, List.flatMap_nil, List.append_nil, bnum_loBits, Nat.mod_eq_of_lt h1, List.cons_append, List.nil_append, fnum, flen_cons, flen_nil, Nat.add_zero]

/-- One bit more is set in bytes. -/
theorem byte_small {l : List Nat} (h : Bytes l) {j : Nat} (hj : num l < 2 ^ j) : l.getD (j / 8) 0 < 2 ^ (j % 8) := by
  have h1 := num_byte h (j / 8)
  have h2 : num l / 2 ^ (8 * (j / 8)) < 2 ^ (j % 8) := by
    rw [Nat.div_lt_iff_lt_mul (pow_pos' _), ← Nat.pow_add, show j % 8 + 8 * (j / 8) = j by omega]
    exact hj
  rw [← h1]
  exact Nat.lt_of_le_of_lt (Nat.mod_le _ _) h2
theorem byte_set {l : List Nat} (h : Bytes l) {j x : Nat} (hj : num l < 2 ^ j) (hx : l[j / 8]? = some x) :
    x + 2 ^ (j % 8) < 256 ∧ x < 2 ^ (j % 8) ∧ num (l.set (j / 8) (x + 2 ^ (j % 8))) = num l + 2 ^ j ∧ Bytes (l.set (j / 8) (x + 2 ^ (j % 8))) := by
  have h1 := byte_small h hj
  rw [List.getD_eq_getElem?_getD, hx, Option.getD_some] at h1
  have h2 : 2 ^ (j % 8) ≤ 2 ^ 7 := Nat.pow_le_pow_right (by decide) (by omega)
  have h3 : (2 ^ 7 : Nat) = 128 := by decide
  have h4 := num_set l (j / 8) x (x + 2 ^ (j % 8)) hx
  rw [Nat.add_mul, ← Nat.pow_add, show j % 8 + 8 * (j / 8) = j by omega] at h4
  refine ⟨by omega, h1, by omega, fun y hy => ?_⟩
  rcases List.mem_or_eq_of_mem_set hy with hy | rfl
  · exact h y hy
  · omega
theorem or_two_pow {x j : Nat} (h : x < 2 ^ j) : x ||| 2 ^ j = x + 2 ^ j := by
  have := or_shift (c := 1) h
  simpa using this
end

section
def bools (l : List Bool) : List Value := l.map Value.bool
@[simp] theorem bools_length (l : List Bool) : (bools l).length = l.length := by simp [bools]
theorem bools_push (l : List Bool) (x : Bool) : bools (l ++ [x]) = bools l ++ [.bool x] := by simp [bools]
theorem elBool : El Tryd.prog 46 4 (.bool false) 1 1 := ⟨Tryd.underlying46, by kernel_rfl, rfl, by decide, by decide⟩
theorem elByte : El Tryd.prog 22 5 (.int .u8 0) 1 1 := ⟨Tryd.underlying22, by kernel_rfl, rfl, by decide, by decide⟩

/-- Bits under way, in the block b. -/
def LB (w : World) (b base k : Nat) (bs : List Bool) : Prop := ∃ A c, Blk w b 190 [.slice A k c] ∧ k = bs.length ∧ w.ownsRow base 4 1 (.slice A k c) k (bools bs)
theorem LB.drewN {w : World} {b base k : Nat} {bs : List Bool} (h : LB w b base k bs) (n : Nat) : LB (w.drewN n) b base k bs := h

theorem own_of_blk {w : World} {g n base : Nat} {e : TypeId} {vs : List Value} (h : Blk w g e vs) (hb : base ≤ g) (hn : vs.length = n) (hm : n ≤ maxLen) : w.ownsRow base e 1 (.slice (some ⟨g, 0, none⟩) n n) n vs := by
  refine ⟨by omega, .inr ⟨g, n, vs.toArray, rfl, hb, h, Nat.le_refl _, hm, by simpa using hn, ?_⟩⟩
  rw [Nat.mul_one, ← hn]
  simp

set_option maxHeartbeats 1000000 in
theorem lbAdd_any (b base v n k0 : Nat) (bs : List Bool) (w : World) (h : LB w b base k0 bs) (hbb : base ≤ b) (hn : n ≤ 16) (hv : v < 1099511627776) (hl : k0 ≤ 1073741824) :
    Calls Tryd.prog 82 #[.pointer (some ⟨b, 0, none⟩), .int .i64 v, .int .i64 n] w fun e w' => e = .returned (.tuple #[]) ∧ LB w' b base (k0 + n) (bs ++ loBits v n) ∧ Keep (base ≤ ·) w w' := by
  obtain ⟨A0, c0, hb0, hk0, ho0⟩ := h
  have Hk0 := Lib.hid hk0
  clear hk0
  go_enter Tryd.func82, Tryd.ntmps82
  go_wp2
  go_loopg [8] (n + 1) (fun g s8 wr => ∃ (i k : Nat) (A : Option Addr) (c : Nat), n - i < g ∧ i ≤ n ∧ s8 = .int .i64 i ∧ k ≤ 1073741840 ∧ Hid (k = k0 + i) ∧ Blk wr b 190 [.slice A k c] ∧ wr.ownsRow base 4 1 (.slice A k c) k (bools (bs ++ loBits v i)) ∧ Keep (base ≤ ·) w wr)
  case atStart => exact ⟨0, k0, A0, c0, by omega, by omega, rfl, by omega, rfl, hb0, by simpa [loBits] using ho0, Keep.refl _ _⟩
  case round =>
    clear hb0 ho0
    obtain ⟨i, k, A, c, q1, q2, rfl, q3, q4, qb, qo, qk⟩ := hrel
    by_cases hlt : i < n
    · obtain ⟨d, hd⟩ : ∃ d, d = v / 2 ^ i % 2 := ⟨_, rfl⟩
      obtain ⟨q, hq⟩ : ∃ q, q = v / 2 ^ i := ⟨_, rfl⟩
      have hqi : (v : Int) / 2 ^ i = (q : Int) := by rw [hq, cast_div_pow]
      have hand : Go.bits .and .i64 (q : Int) 1 = (d : Int) := by
        rw [show (1 : Int) = ((1 : Nat) : Int) from rfl, i64_and_nat q 1 (by rw [hq]; have := Nat.div_le_self v (2 ^ i); omega) (by decide), show (1 : Nat) = 2 ^ 1 - 1 by decide, and_mask, hd, hq]
      obtain ⟨x, hx⟩ : ∃ x, x = (d == 1) := ⟨_, rfl⟩
      have hx1 : ((d : Int) == 1) = x := by rw [hx, Bool.eq_iff_iff]; simp only [beq_iff_eq]; omega
      have hx2 : decide ((d : Int) = 1) = x := by rw [hx, Bool.eq_iff_iff]; simp only [beq_iff_eq, decide_eq_true_eq]; omega
      have hx3 : decide (d = 1) = x := by rw [hx, Bool.eq_iff_iff]; simp only [beq_iff_eq, decide_eq_true_eq]
      have hpush : bs ++ loBits v (i + 1) = (bs ++ loBits v i) ++ [x] := by rw [loBits_succ, List.append_assoc, hx, hd]
      have c0 : wr.cell? ⟨b, 0, none⟩ = some (.slice A k c) := qb.cell 0
      have f0 := qb.frozen 0
      have hne := own_ne qo qb (by decide)
      have hbl := qb.lt
      have Hpush := Lib.hid hpush
      clear hd hq hx hpush
      go_wp2
      go_region_law (refine step_app rfl _ _ rfl elBool base _ k _ rfl (own_drew (qo.alloc _)) 1 [.bool x] (src_blk Tryd.underlying46 (Blk.new _ 4 [.bool x]).drew 1 1 (by simp) (by simp [Value.oneCell'])) (by unfold maxLen; omega) (by omega) (by simp; omega) ?_; intro A2 c2 w2 ho2 hg2 hor; have qb2 := blk_grown (qb.alloc _).drew hg2 hne; have d0 : w2.cell? ⟨b, 0, none⟩ = some (.slice A k c) := qb2.cell 0; have e0 := qb2.frozen 0)
      all_goals
        go_wp2
        go_roundg (n - i)
        case measure => exact q1
        case rel =>
          have hk2 : Keep (base ≤ ·) wr w2 := ((Keep.refl _ _).alloc _).drew.grown hg2 (fun j hj => .inl (qo.lt j hj).1)
          have hne2 := own_ne ho2 qb2 (by decide)
          refine ⟨i + 1, k + 1, A2, c2, by omega, by omega, rfl, by have := q4.out; omega, by show _ = _; rw [q4.out, Nat.add_assoc], qb2.set 0 _, ?_, (qk.trans hk2).set (p := ⟨b, 0, none⟩) (.inl hbb) _⟩
          rw [Hpush.out, bools_push]
          exact own_keep ho2 ((Keep.refl (· = b) w2).set (p := ⟨b, 0, none⟩) (.inl rfl) _) (fun g hg h => hne2 (h ▸ hg))
    · obtain rfl : i = n := by omega
      go_wp2
      go_end0
      refine ⟨rfl, ⟨A, c, by rw [← q4.out]; exact qb, ?_, by rw [← q4.out]; exact qo⟩, qk⟩
      rw [List.length_append, loBits_length, Hk0.out]
end
end Go.Proofs.YtabaholflahepaaDoor
