/-
  XXH64's steps as plain numbers; contracts of bits.RotateLeft64, spec.round, (*xxhash64).round, mergeRound.
-/
import Derived.Test.YtabaholflahepaaRow
import Derived.Test.YtabaholflahepaaNum
import Derived.Test.YtabaholflahepaaLow
namespace Go.Proofs.Ytabaholflahepaa
open Go.RowKit

/-- A word of 64 bits. -/
def U64 (a : Nat) : Prop := a < 18446744073709551616
def rot (x k : Nat) : Nat := (x * 2 ^ k % 18446744073709551616) ||| (x / 2 ^ (64 - k))
def mul64 (a b : Nat) : Nat := b * a % 18446744073709551616
def add64 (a b : Nat) : Nat := (a + b) % 18446744073709551616
/-- One more by a constant (the constant first: the kernel would count it down behind a '+'). -/
def addc (a k : Nat) : Nat := (k + a) % 18446744073709551616
theorem rot_lt {x k : Nat} (hx : U64 x) : U64 (rot x k) := by
  unfold rot U64 at *
  have h1 : x * 2 ^ k % 18446744073709551616 < 2 ^ 64 := Nat.mod_lt _ (by decide)
  have h2 : x / 2 ^ (64 - k) < 2 ^ 64 := Nat.lt_of_le_of_lt (Nat.div_le_self _ _) hx
  exact Nat.or_lt_two_pow h1 h2
theorem mul64_lt (a b : Nat) : U64 (mul64 a b) := Nat.mod_lt _ (by decide)
theorem add64_lt (a b : Nat) : U64 (add64 a b) := Nat.mod_lt _ (by decide)
theorem addc_lt (a b : Nat) : U64 (addc a b) := Nat.mod_lt _ (by decide)

theorem and63 : ∀ k : Nat, k < 64 → bits .and .u64 (k : Int) 63 = (k : Int) := by decide

theorem rotate_any (x k : Nat) (hx : U64 x) (h0 : 0 < k) (hk : k < 64) (w : World) :
    Calls Try.prog 26 #[.int .u64 x, .int .i64 k] w fun e w' => e = .returned (.int .u64 (rot x k : Nat)) ∧ w = w' := by
  unfold U64 at hx
  have hand : bits .and .u64 (k : Int) 63 = (k : Int) := and63 k hk
  go_enter Try.func26, Try.ntmps26
  go_wp2
  go_ret
  refine ⟨?_, rfl⟩
  show Ending.returned (.int .u64 (bits .or .u64 (IntKind.u64.wrap ((x : Int) * 2 ^ k)) ((x : Int) / 2 ^ (64 - k)))) = _
  have e1 : IntKind.u64.wrap ((x : Int) * 2 ^ k) = ((x * 2 ^ k % 18446744073709551616 : Nat) : Int) := by
    rw [IntKind.wrap_u64, cast_mul_pow]; omega
  have h2 : x / 2 ^ (64 - k) < 18446744073709551616 := Nat.lt_of_le_of_lt (Nat.div_le_self _ _) hx
  rw [e1, cast_div_pow, u64_or_nat _ _ (Nat.mod_lt _ (by decide)) h2]
  rfl

theorem w_mul (a c : Nat) : IntKind.u64.wrap ((a : Int) * (c : Int)) = ((mul64 a c : Nat) : Int) := by
  rw [IntKind.wrap_u64, mul64, ← Int.natCast_mul, Nat.mul_comm c a]
  generalize a * c = x
  omega
theorem w_add (a c : Nat) : IntKind.u64.wrap ((a : Int) + (c : Int)) = ((add64 a c : Nat) : Int) := by
  rw [IntKind.wrap_u64, add64]; omega

theorem w_addc (a c : Nat) : IntKind.u64.wrap ((a : Int) + (c : Int)) = ((addc a c : Nat) : Int) := by
  rw [IntKind.wrap_u64, addc]; omega

/-- One lane into an accumulator. -/
def rnd (a n : Nat) : Nat := mul64 (rot (add64 a (mul64 n 14029467366897019727)) 31) 11400714785074694791
theorem rnd_lt (a n : Nat) : U64 (rnd a n) := mul64_lt _ _

theorem specRound_any (a n : Nat) (w : World) :
    Calls Try.prog 24 #[.int .u64 a, .int .u64 n] w fun e w' => e = .returned (.int .u64 (rnd a n : Nat)) ∧ w = w' := by
  obtain ⟨m, hm⟩ : ∃ m, m = mul64 n 14029467366897019727 := ⟨_, rfl⟩
  obtain ⟨s, hs⟩ : ∃ s, s = add64 a m := ⟨_, rfl⟩
  have h1 : IntKind.u64.wrap ((n : Int) * 14029467366897019727) = (m : Int) := by rw [hm]; exact w_mul n 14029467366897019727
  have h2 : IntKind.u64.wrap ((a : Int) + (m : Int)) = (s : Int) := by rw [hs]; exact w_add a m
  have hsl : U64 s := by rw [hs]; exact add64_lt a m
  have hr := rotate_any s 31 hsl (by decide) (by decide)
  have e : rnd a n = mul64 (rot s 31) 11400714785074694791 := by rw [hs, hm]; rfl
  obtain ⟨r, hre⟩ : ∃ r, r = rot s 31 := ⟨_, rfl⟩
  rw [← hre] at e hr
  obtain ⟨q, hq⟩ : ∃ q, q = mul64 r 11400714785074694791 := ⟨_, rfl⟩
  have h3 : IntKind.u64.wrap ((r : Int) * 11400714785074694791) = (q : Int) := by rw [hq]; exact w_mul r 11400714785074694791
  rw [e, ← hq]
  have Hr := Lib.hid hr
  clear hm hs e hre hq hr hsl
  go_enter Try.func24, Try.ntmps24
  go_wp2_with (go_at_call 26; refine (Hr.out _).mono ?_; rintro e w' ⟨rfl, rfl⟩)
  go_ret
  exact ⟨rfl, rfl⟩

theorem implRound_any (v : Value) (a n : Nat) (w : World) :
    Calls Try.prog 41 #[v, .int .u64 a, .int .u64 n] w fun e w' => e = .returned (.int .u64 (rnd a n : Nat)) ∧ w = w' := by
  obtain ⟨m, hm⟩ : ∃ m, m = mul64 n 14029467366897019727 := ⟨_, rfl⟩
  obtain ⟨s, hs⟩ : ∃ s, s = add64 a m := ⟨_, rfl⟩
  have h1 : IntKind.u64.wrap ((n : Int) * 14029467366897019727) = (m : Int) := by rw [hm]; exact w_mul n 14029467366897019727
  have h2 : IntKind.u64.wrap ((a : Int) + (m : Int)) = (s : Int) := by rw [hs]; exact w_add a m
  have hsl : U64 s := by rw [hs]; exact add64_lt a m
  have hrl := rot_lt (k := 31) hsl
  have hr := rotate_any s 31 hsl (by decide) (by decide)
  have e : rnd a n = mul64 (rot s 31) 11400714785074694791 := by rw [hs, hm]; rfl
  obtain ⟨r, hre⟩ : ∃ r, r = rot s 31 := ⟨_, rfl⟩
  rw [← hre] at e hr hrl
  obtain ⟨q, hq⟩ : ∃ q, q = mul64 r 11400714785074694791 := ⟨_, rfl⟩
  have h3 : IntKind.u64.wrap ((r : Int) * 11400714785074694791) = (q : Int) := by rw [hq]; exact w_mul r 11400714785074694791
  rw [e, ← hq]
  have Hr := Lib.hid hr
  clear hm hs e hre hq hr hsl hrl
  go_enter Try.func41, Try.ntmps41
  go_wp2_with (go_at_call 26; refine (Hr.out _).mono ?_; rintro e w' ⟨rfl, rfl⟩)
  go_ret
  exact ⟨rfl, rfl⟩

/-- An accumulator into the sum. -/
def mrg (h a : Nat) : Nat := addc (mul64 (h ^^^ rnd 0 a) 11400714785074694791) 9650029242287828579
theorem mrg_lt (h a : Nat) : U64 (mrg h a) := addc_lt _ _

theorem merge_any (v : Value) (h a : Nat) (hh : U64 h) (w : World) :
    Calls Try.prog 43 #[v, .int .u64 h, .int .u64 a] w fun e w' => e = .returned (.int .u64 (mrg h a : Nat)) ∧ w = w' := by
  obtain ⟨r, hr⟩ : ∃ r, r = rnd 0 a := ⟨_, rfl⟩
  have hrl : U64 r := by rw [hr]; exact rnd_lt 0 a
  obtain ⟨x, hx⟩ : ∃ x, x = h ^^^ r := ⟨_, rfl⟩
  have h1 : bits .xor .u64 (h : Int) (r : Int) = (x : Int) := by rw [hx]; exact u64_xor_nat h r hh hrl
  obtain ⟨m, hm⟩ : ∃ m, m = mul64 x 11400714785074694791 := ⟨_, rfl⟩
  have h2 : IntKind.u64.wrap ((x : Int) * 11400714785074694791) = (m : Int) := by rw [hm]; exact w_mul x 11400714785074694791
  obtain ⟨s, hs⟩ : ∃ s, s = addc m 9650029242287828579 := ⟨_, rfl⟩
  have h3 : IntKind.u64.wrap ((m : Int) + 9650029242287828579) = (s : Int) := by rw [hs]; exact w_addc m 9650029242287828579
  have e : mrg h a = s := by rw [hs, hm, hx, hr]; rfl
  have hc : ∀ w, _ := fun w => implRound_any v 0 a w
  rw [← hr] at hc
  rw [e]
  have Hc := Lib.hid hc
  clear hr hx hm hs e hc hh hrl
  go_enter Try.func43, Try.ntmps43
  go_wp2_with (go_at_call 41; refine (Hc.out _).mono ?_; rintro e w' ⟨rfl, rfl⟩)
  go_ret
  exact ⟨rfl, rfl⟩
end Go.Proofs.Ytabaholflahepaa
