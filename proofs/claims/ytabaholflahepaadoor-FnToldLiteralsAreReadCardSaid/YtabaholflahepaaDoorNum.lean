/-
  Plain arithmetic: a list of bytes as one number, its bits from the lowest on; words by '|', '&', shifts.
-/
import Derived.Laws.BitsAllLaws
import Derived.Laws.BitsLemmas
import Derived.IntWalk
namespace Go.Proofs.YtabaholflahepaaDoor

/-- Bytes as one number, the lowest first. -/
def num : List Nat → Nat
  | [] => 0
  | x :: l => x + 256 * num l

/-- All are bytes. -/
def Bytes (l : List Nat) : Prop := ∀ x ∈ l, x < 256

theorem Bytes.getD {l : List Nat} (h : Bytes l) (i : Nat) : l.getD i 0 < 256 := by
  rw [List.getD_eq_getElem?_getD]
  cases hi : l[i]? with
  | none => simp
  | some x => simpa using h x (List.mem_of_getElem? hi)

theorem num_lt {l : List Nat} (h : Bytes l) : num l < 2 ^ (8 * l.length) := by
  induction l with
  | nil => simp [num]
  | cons x l ih =>
    have h1 := ih fun y hy => h y (List.mem_cons_of_mem _ hy)
    have h2 := h x (List.mem_cons_self ..)
    simp only [num, List.length_cons]
    rw [show 8 * (l.length + 1) = 8 + 8 * l.length by omega, Nat.pow_add]
    have : (2 ^ 8 : Nat) = 256 := by decide
    rw [this]
    omega

theorem num_drop {l : List Nat} (h : Bytes l) (i : Nat) : num l / 2 ^ (8 * i) = num (l.drop i) := by
  induction i generalizing l with
  | zero => simp
  | succ i ih =>
    cases l with
    | nil => simp [num]
    | cons x l =>
      have h2 := h x (List.mem_cons_self ..)
      rw [show 8 * (i + 1) = 8 + 8 * i by omega, Nat.pow_add, ← Nat.div_div_eq_div_mul]
      have h3 : (x + 256 * num l) / 2 ^ 8 = num l := by
        have : (2 ^ 8 : Nat) = 256 := by decide
        rw [this]; omega
      simp only [num, List.drop_succ_cons, h3]
      exact ih fun y hy => h y (List.mem_cons_of_mem _ hy)

theorem num_byte {l : List Nat} (h : Bytes l) (i : Nat) : num l / 2 ^ (8 * i) % 256 = l.getD i 0 := by
  rw [num_drop h]
  cases hd : l.drop i with
  | nil =>
    have : l.length ≤ i := by simpa using hd
    simp [num, List.getD_eq_getElem?_getD, List.getElem?_eq_none this]
  | cons x r =>
    have hx : l[i]? = some x := by
      have := congrArg (·[0]?) hd
      simpa using this
    have : x < 256 := h x (List.mem_of_getElem? hx)
    simp only [num, List.getD_eq_getElem?_getD, hx, Option.getD_some]
    omega

/-- Behind the end there are no bits. -/
theorem num_div_end {l : List Nat} (h : Bytes l) {n : Nat} (hn : 8 * l.length ≤ n) : num l / 2 ^ n = 0 :=
  Nat.div_eq_of_lt (Nat.lt_of_lt_of_le (num_lt h) (Nat.pow_le_pow_right (by decide) hn))

theorem mod_pow_add (x a b : Nat) : x % 2 ^ (a + b) = x % 2 ^ a + 2 ^ a * (x / 2 ^ a % 2 ^ b) := by
  rw [Nat.pow_add, Nat.mod_mul]

theorem div_pow_div (x a b : Nat) : x / 2 ^ a / 2 ^ b = x / 2 ^ (a + b) := by
  rw [Nat.div_div_eq_div_mul, Nat.pow_add]

theorem mod_pow_mod {x a b : Nat} (h : b ≤ a) : x % 2 ^ a % 2 ^ b = x % 2 ^ b :=
  Nat.mod_mod_of_dvd _ (Nat.pow_dvd_pow 2 h)

theorem mod_pow_div {x a b : Nat} (h : b ≤ a) : x % 2 ^ a / 2 ^ b = x / 2 ^ b % 2 ^ (a - b) := by
  obtain ⟨c, rfl⟩ : ∃ c, a = b + c := ⟨a - b, by omega⟩
  rw [Nat.add_sub_cancel_left, Nat.pow_add, Nat.mod_mul_right_div_self]

theorem or_shift {a c n : Nat} (ha : a < 2 ^ n) : a ||| c * 2 ^ n = a + c * 2 ^ n := by
  rw [Nat.or_comm, Nat.mul_comm, Nat.add_comm]
  exact (Nat.two_pow_add_eq_or_of_lt ha c).symm

theorem and_mask (a n : Nat) : a &&& (2 ^ n - 1) = a % 2 ^ n := Nat.and_two_pow_sub_one_eq_mod a n

theorem cast_pow (n : Nat) : ((2 ^ n : Nat) : Int) = 2 ^ n := by
  induction n with
  | zero => rfl
  | succ n ih => rw [Nat.pow_succ, Int.pow_succ, Int.natCast_mul, ih]; rfl

theorem pow_le_16 {n : Nat} (h : n ≤ 16) : 2 ^ n ≤ 65536 := Nat.pow_le_pow_right (by decide) h
theorem pow_le_31 {n : Nat} (h : n ≤ 31) : 2 ^ n ≤ 2147483648 := Nat.pow_le_pow_right (by decide) h
theorem pow_pos' (n : Nat) : 0 < 2 ^ n := Nat.pow_pos (by decide)

/-- 'x & (1 << n - 1)' of a uint32, as the walk leaves it. -/
theorem u32_mask {a n : Nat} (ha : a < 4294967296) (hn : n ≤ 31) : bits .and .u32 (a : Int) ((2 ^ n - 1) % 4294967296) = ((a % 2 ^ n : Nat) : Int) := by
  have h1 := pow_le_31 hn
  have h2 := pow_pos' n
  have h3 : ((2 ^ n : Int) - 1) % 4294967296 = ((2 ^ n - 1 : Nat) : Int) := by
    rw [← cast_pow]; omega
  rw [h3, u32_and_nat a _ ha (by omega), and_mask]

theorem cast_div_pow (a n : Nat) : (a : Int) / 2 ^ n = ((a / 2 ^ n : Nat) : Int) := by
  rw [← cast_pow, Int.natCast_ediv]
theorem cast_mul_pow (a n : Nat) : (a : Int) * 2 ^ n = ((a * 2 ^ n : Nat) : Int) := by
  rw [← cast_pow, Int.natCast_mul]

/-- 'x | c << n' of a uint32 whose lower n bits alone are set. -/
theorem u32_or_shift {a c n : Nat} (ha : a < 2 ^ n) (hc : c * 2 ^ n < 4294967296) (hn : n ≤ 31) : bits .or .u32 (a : Int) ((c : Int) * 2 ^ n) = ((a + c * 2 ^ n : Nat) : Int) := by
  have h1 := pow_le_31 hn
  rw [cast_mul_pow, u32_or_nat a _ (by omega) hc, or_shift ha]

/-- A bit by its byte. -/
theorem num_bit {l : List Nat} (h : Bytes l) (p : Nat) : num l / 2 ^ p % 2 = l.getD (p / 8) 0 / 2 ^ (p % 8) % 2 := by
  have e1 : num l / 2 ^ p = num l / 2 ^ (8 * (p / 8)) / 2 ^ (p % 8) := by rw [div_pow_div, show 8 * (p / 8) + p % 8 = p by omega]
  obtain ⟨q, hq⟩ : ∃ q, q = num l / 2 ^ (8 * (p / 8)) := ⟨_, rfl⟩
  have e2 := num_byte h (p / 8)
  rw [e1, ← e2, ← hq]
  have hr : p % 8 < 8 := Nat.mod_lt _ (by decide)
  generalize p % 8 = r at hr
  rw [show (256 : Nat) = 2 ^ 8 by decide, mod_pow_div (by omega), ← Nat.pow_one 2, Nat.pow_one 2]
  exact (Nat.mod_mod_of_dvd _ (by
    obtain ⟨d, hd⟩ : ∃ d, 8 - r = d + 1 := ⟨7 - r, by omega⟩
    rw [hd, Nat.pow_succ]
    exact Nat.dvd_mul_left _ _)).symm

theorem ofInt_i64 (a : Nat) (ha : a < 9223372036854775808) : (BitVec.ofInt 64 (a : Int)).toNat = a := by
  rw [BitVec.ofInt_natCast, BitVec.toNat_ofNat]; exact Nat.mod_eq_of_lt (by omega)
theorem i64_or_nat (a b : Nat) (ha : a < 9223372036854775808) (hb : b < 9223372036854775808) : bits .or .i64 (a : Int) (b : Int) = ((a ||| b : Nat) : Int) := by
  have hx : a ||| b < 2 ^ 63 := Nat.or_lt_two_pow (by omega) (by omega)
  show IntKind.i64.wrap ((BitVec.ofInt 64 (a : Int) ||| BitVec.ofInt 64 (b : Int)).toNat : Int) = _
  rw [BitVec.toNat_or, ofInt_i64 a ha, ofInt_i64 b hb, IntKind.wrap_i64]
  omega
theorem i64_and_nat (a b : Nat) (ha : a < 9223372036854775808) (hb : b < 9223372036854775808) : bits .and .i64 (a : Int) (b : Int) = ((a &&& b : Nat) : Int) := by
  have hx : a &&& b < 2 ^ 63 := Nat.and_lt_two_pow _ (by omega)
  show IntKind.i64.wrap ((BitVec.ofInt 64 (a : Int) &&& BitVec.ofInt 64 (b : Int)).toNat : Int) = _
  rw [BitVec.toNat_and, ofInt_i64 a ha, ofInt_i64 b hb, IntKind.wrap_i64]
  omega

theorem wrap64_nat {a : Nat} (h : a < 9223372036854775808) : RowKit.wrap64 (a : Int) = a := IntWalk.wrap64_in _ (by omega)

/-- 'v | int(x >> j & 1) << k', as the walk leaves it. -/
theorem bit_in {v x j k : Nat} (hv : v < 2 ^ k) (hk : k ≤ 31) (hx : x < 256) :
    bits .or .i64 (v : Int) (RowKit.wrap64 (RowKit.wrap64 (bits .and .u8 ((x : Int) / 2 ^ j) 1) * 2 ^ k)) = ((v + 2 ^ k * (x / 2 ^ j % 2) : Nat) : Int) := by
  have h1 : x / 2 ^ j < 256 := Nat.lt_of_le_of_lt (Nat.div_le_self _ _) hx
  have h2 : bits .and .u8 ((x : Int) / 2 ^ j) 1 = ((x / 2 ^ j % 2 : Nat) : Int) := by
    rw [cast_div_pow, show (1 : Int) = ((1 : Nat) : Int) from rfl, u8_and_nat _ _ h1 (by decide), nat_mask1]
  have h3 := pow_le_31 hk
  have h4 : x / 2 ^ j % 2 ≤ 1 := by omega
  have h5 : x / 2 ^ j % 2 * 2 ^ k ≤ 1 * 2147483648 := Nat.mul_le_mul h4 h3
  rw [h2, wrap64_nat (by omega), cast_mul_pow, wrap64_nat (by omega), i64_or_nat _ _ (by omega) (by omega), or_shift hv, Nat.mul_comm (2 ^ k)]

end Go.Proofs.YtabaholflahepaaDoor
