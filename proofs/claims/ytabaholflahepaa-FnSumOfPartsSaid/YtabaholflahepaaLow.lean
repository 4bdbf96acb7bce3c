/-
  Contract of laws.below.
-/
import Derived.Test.YtabaholflahepaaRow
namespace Go.Proofs.Ytabaholflahepaa
open Go.RowKit

/-- Numbers that an int holds. -/
def I64 (x : Int) : Prop := -9223372036854775808 ≤ x ∧ x ≤ 9223372036854775807
def I64s (l : List Int) : Prop := ∀ x ∈ l, I64 x
theorem I64s.getD {l : List Int} (h : I64s l) (i : Nat) : I64 (l.getD i 0) := by
  rw [List.getD_eq_getElem?_getD]
  cases hi : l[i]? with
  | none => simp [I64]
  | some x => simpa using h x (List.mem_of_getElem? hi)

theorem tmod_neg_add (x n : Int) (hn : 0 < n) (h : x.tmod n < 0) : x.tmod n + n = x % n := by
  have h1 : x < 0 := by
    rcases Int.lt_or_le x 0 with h0 | h0
    · exact h0
    · rw [Int.tmod_eq_emod_of_nonneg h0] at h
      have := Int.emod_nonneg x (Int.ne_of_gt hn)
      omega
  have h2 := Int.tmod_eq_emod (a := x) (b := n)
  rw [h2] at h ⊢
  have h3 := Int.emod_nonneg x (Int.ne_of_gt hn)
  have h4 := Int.emod_lt_of_pos x hn
  split
  · rename_i hc
    rw [if_pos hc] at h
    omega
  · have : (n.natAbs : Int) = n := Int.natAbs_of_nonneg (by omega)
    omega
theorem tmod_nonneg_eq (x n : Int) (hn : 0 < n) (h : 0 ≤ x.tmod n) : x.tmod n = x % n := by
  have h2 := Int.tmod_eq_emod (a := x) (b := n)
  have h3 := Int.emod_nonneg x (Int.ne_of_gt hn)
  have h4 := Int.emod_lt_of_pos x hn
  rw [h2] at h ⊢
  split
  · omega
  · rename_i hc
    rw [if_neg hc] at h
    have : (n.natAbs : Int) = n := Int.natAbs_of_nonneg (by omega)
    omega

/-- below reduces a number. -/
theorem below_any (x n : Int) (hx : I64 x) (hn : 0 < n) (hn2 : n ≤ 4611686018427387904) (w : World) :
    Calls Try.prog 8 #[.int .i64 x, .int .i64 n] w fun e w' => e = .returned (.int .i64 (x % n)) ∧ w = w' := by
  obtain ⟨hx1, hx2⟩ := hx
  have h1 : -n < x.tmod n ∧ x.tmod n < n := ⟨by
    have := Int.lt_tmod_of_pos x hn
    omega, Int.tmod_lt_of_pos x hn⟩
  by_cases hneg : x.tmod n < 0
  · have e1 : x.tmod n + n = x % n := tmod_neg_add x n hn hneg
    have E1 := Lib.hid e1
    clear e1
    go_enter Try.func8, Try.ntmps8
    go_wp2
    go_ret
    exact ⟨by rw [← E1.out]; rfl, rfl⟩
  · have e1 : x.tmod n = x % n := tmod_nonneg_eq x n hn (by omega)
    have E1 := Lib.hid e1
    clear e1
    go_enter Try.func8, Try.ntmps8
    go_wp2
    go_ret
    exact ⟨by rw [← E1.out]; rfl, rfl⟩

end Go.Proofs.Ytabaholflahepaa
