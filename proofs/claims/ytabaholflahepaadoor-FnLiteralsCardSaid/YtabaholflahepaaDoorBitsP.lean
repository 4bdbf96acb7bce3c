/-
  Plain law: lists of bits as numbers, bytes that hold them.
-/
import Derived.Test.YtabaholflahepaaDoorToldP
namespace Go.Proofs.YtabaholflahepaaDoor
open Go.RowKit

theorem num_append : ∀ (a b : List Nat), num (a ++ b) = num a + num b * 2 ^ (8 * a.length)
  | [], b => by simp [num]
  | x :: a, b => by
    rw [List.cons_append, num, num, num_append a b, List.length_cons, show 8 * (a.length + 1) = 8 + 8 * a.length by omega, Nat.pow_add, Nat.mul_add]
    have : (2 ^ 8 : Nat) = 256 := by decide
    rw [this, Nat.mul_left_comm (num b) 256, ← Nat.mul_assoc 256, Nat.mul_assoc 256]
    omega
theorem num_zeros : ∀ n, num (List.replicate n 0) = 0
  | 0 => rfl
  | n + 1 => by rw [List.replicate_succ, num, num_zeros n]
theorem num_set : ∀ (l : List Nat) (i x y : Nat), l[i]? = some x → num (l.set i y) + x * 2 ^ (8 * i) = num l + y * 2 ^ (8 * i)
  | [], i, x, y, h => by simp at h
  | z :: l, 0, x, y, h => by
    simp at h
    subst h
    simp [num]
    omega
  | z :: l, i + 1, x, y, h => by
    have h1 := num_set l i x y (by simpa using h)
    rw [List.set_cons_succ, num, num, show 8 * (i + 1) = 8 + 8 * i by omega, Nat.pow_add]
    have h2 : (2 ^ 8 : Nat) = 256 := by decide
    rw [h2, ← Nat.mul_assoc, ← Nat.mul_assoc, Nat.mul_comm x 256, Nat.mul_comm y 256, Nat.mul_assoc, Nat.mul_assoc]
    omega

def bnum : List Bool → Nat
  | [] => 0
  | x :: r => x.toNat + 2 * bnum r
theorem bnum_append : ∀ (a b : List Bool), bnum (a ++ b) = bnum a + 2 ^ a.length * bnum b
  | [], b => by simp [bnum]
  | x :: a, b => by
    rw [List.cons_append, bnum, bnum, bnum_append a b, List.length_cons, Nat.pow_succ, Nat.mul_add, Nat.mul_comm (2 ^ a.length) 2, Nat.mul_assoc]
    omega
theorem bnum_lt : ∀ (a : List Bool), bnum a < 2 ^ a.length
  | [] => by simp [bnum]
  | x :: a => by
    have := bnum_lt a
    have h2 := Bool.toNat_le x
    rw [bnum, List.length_cons, Nat.pow_succ]
    omega
theorem bnum_push {bs : List Bool} {k : Nat} {x : Bool} (h : bs[k]? = some x) : bnum (bs.take (k + 1)) = bnum (bs.take k) + 2 ^ k * x.toNat := by
  have hk := (List.getElem?_eq_some_iff.1 h).1
  rw [take_push h, bnum_append, List.length_take, Nat.min_eq_left (Nat.le_of_lt hk)]
  simp [bnum]

/-- The lowest n bits of v, the lowest first. -/
def loBits (v n : Nat) : List Bool := (List.range n).map fun i => v / 2 ^ i % 2 == 1
@[simp] theorem loBits_length (v n : Nat) : (loBits v n).length = n := by simp [loBits]
theorem loBits_succ (v n : Nat) : loBits v (n + 1) = loBits v n ++ [v / 2 ^ n % 2 == 1] := by simp [loBits, List.range_succ]
theorem loBits_take (v : Nat) {i n : Nat} (h : i ≤ n) : (loBits v n).take i = loBits v i := by
  unfold loBits
  rw [← List.map_take, List.take_range, Nat.min_eq_left h]
theorem bnum_loBits (v : Nat) : ∀ n, bnum (loBits v n) = v % 2 ^ n
  | 0 => by simp [loBits, bnum, Nat.mod_one]
  | n + 1 => by
    rw [loBits_succ, bnum_append, bnum_loBits v n, loBits_length, mod_pow_add]
    simp only [bnum, Nat.mul_zero, Nat.add_zero, Nat.pow_one]
    congr 2
    rcases Nat.mod_two_eq_zero_or_one (v / 2 ^ n) with h | h <;> rw [h] <;> rfl
def bitsAll (fs : List (Nat × Nat)) : List Bool := fs.flatMap fun x => loBits x.1 x.2
theorem bitsAll_append (a b : List (Nat × Nat)) : bitsAll (a ++ b) = bitsAll a ++ bitsAll b := by simp [bitsAll]
theorem bitsAll_one (v n : Nat) : bitsAll [(v, n)] = loBits v n := by simp [bitsAll]
theorem bitsAll_length : ∀ (fs : List (Nat × Nat)), (bitsAll fs).length = flen fs
  | [] => rfl
  | x :: r => by rw [show x :: r = [x] ++ r from rfl, bitsAll_append, List.length_append, bitsAll_length r, flen_append]; simp [bitsAll]
theorem bnum_bitsAll : ∀ {fs : List (Nat × Nat)}, Fits fs → bnum (bitsAll fs) = fnum fs
  | [], _ => rfl
  | x :: r, h => by
    have h1 := h x (List.mem_cons_self ..)
    rw [show x :: r = [x] ++ r from rfl, bitsAll_append, bnum_append, bnum_bitsAll fun y hy => h y (List.mem_cons_of_mem _ hy), bitsAll_length]
    simp only [bitsAll, List.flatMap_cons, List.flatMap_nil, List.append_nil, bnum_loBits, Nat.mod_eq_of_lt h1, List.cons_append, List.nil_append, fnum, flen_cons, flen_nil, Nat.add_zero]

/-- One bit more is set in bytes. -/
theorem byte_small {l : List Nat} (h : Bytes l) {j : Nat} (hj : num l < 2 ^ j) : l.getD (j / 8) 0 < 2 ^ (j % 8) := by
  have h1 := num_byte h (j / 8)
  have h2 : num l / 2 ^ (8 * (j / 8)) < 2 ^ (j % 8) := by
    rw [Nat.div_lt_iff_lt_mul (pow_pos' _), ← Nat.pow_add, show j % 8 + 8 * (j / 8) = j by omega]
    exact hj
  rw [← h1]
  exact Nat.lt_of_le_of_lt (Nat.mod_le _ _) h2
theorem byte_set {l : List Nat} (h : Bytes l) {j x : Nat} (hj : num l < 2 ^ j) (hx : l[j / 8]? = some x) :
    x + 2 ^ (j % 8) < 256 ∧ x < 2 ^ (j % 8) ∧ num (l.set (j / 8) (x + 2 ^ (j % 8))) = num l + 2 ^ j ∧ Bytes (l.set (j / 8) (x + 2 ^ (j % 8))) := by
  have h1 := byte_small h hj
  rw [List.getD_eq_getElem?_getD, hx, Option.getD_some] at h1
  have h2 : 2 ^ (j % 8) ≤ 2 ^ 7 := Nat.pow_le_pow_right (by decide) (by omega)
  have h3 : (2 ^ 7 : Nat) = 128 := by decide
  have h4 := num_set l (j / 8) x (x + 2 ^ (j % 8)) hx
  rw [Nat.add_mul, ← Nat.pow_add, show j % 8 + 8 * (j / 8) = j by omega] at h4
  refine ⟨by omega, h1, by omega, fun y hy => ?_⟩
  rcases List.mem_or_eq_of_mem_set hy with hy | rfl
  · exact h y hy
  · omega
theorem or_two_pow {x j : Nat} (h : x < 2 ^ j) : x ||| 2 ^ j = x + 2 ^ j := by
  have := or_shift (c := 1) h
  simpa using this
end Go.Proofs.YtabaholflahepaaDoor
