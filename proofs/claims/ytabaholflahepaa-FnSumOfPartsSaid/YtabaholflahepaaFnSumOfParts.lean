/-
  The walk of laws.FnSumOfParts: it returns true.
-/
import Derived.Test.YtabaholflahepaaSumZz
namespace Go.Proofs.Ytabaholflahepaa
open Go.RowKit

theorem fnSumOfParts_walk (A : Option Addr) (c : Nat) (ds : List Nat) (B : Option Addr) (d : Nat) (xs : List Int) (C : Option Addr) (e : Nat) (ys : List Int) (w : World) (hs : Sl w (· < w.heap.size) A (u8s ds)) (hd : Bytes ds) (hm : ds.length ≤ 9223372036854775807 ∧ ds.length ≤ c)
    (hs' : Sl w (· < w.heap.size) B (i64s xs)) (hx : I64s xs) (hm' : xs.length ≤ 9223372036854775807 ∧ xs.length ≤ d) (ht' : Sl w (· < w.heap.size) C (i64s ys)) (hy : I64s ys) (hn' : ys.length ≤ 9223372036854775807 ∧ ys.length ≤ e) :
    Calls Try.prog 6 #[.slice A ds.length c, .slice B xs.length d, .slice C ys.length e] w fun e w' => e = .returned (.bool true) ∧ Kept w w' := by
  by_cases g1 : 2147483647 < ds.length
  · go_enter Try.func6, Try.ntmps6
    go_wp2
    go_ret
    exact ⟨rfl, Keep.refl _ _⟩
  have hd1 : decide ((ds.length : Int) > 2147483647) = false := decide_eq_false (by omega)
  by_cases g2 : 2147483647 < xs.length
  · go_enter Try.func6, Try.ntmps6
    go_wp2
    go_ret
    exact ⟨rfl, Keep.refl _ _⟩
  have hd2 : decide ((xs.length : Int) > 2147483647) = false := decide_eq_false (by omega)
  by_cases g4 : 2147483647 < ys.length
  · go_enter Try.func6, Try.ntmps6
    go_wp2
    go_ret
    exact ⟨rfl, Keep.refl _ _⟩
  have hd4 : decide ((ys.length : Int) > 2147483647) = false := decide_eq_false (by omega)
  by_cases g3 : 1048576 < ds.length
  · go_enter Try.func6, Try.ntmps6
    go_wp2
    go_ret
    exact ⟨rfl, Keep.refl _ _⟩
  have hd3 : decide ((ds.length : Int) > 1048576) = false := decide_eq_false (by omega)
  have h1 := implSum_any A ds.length c ds rfl B d xs w hs (fun _ h => h) hd hm.2 (by omega) hs' hx (by omega)
  have h2 : ∀ w2, Kept w w2 → Calls Try.prog 15 #[.slice A ds.length c, .slice C ys.length e] w2 fun e w' => e = .returned (.int .u64 (xxh ds : Nat)) ∧ Kept w2 w' :=
    fun w2 hk => implSum_any A ds.length c ds rfl C e ys w2 (hs.kept hk) (fun k h => by have := hk.size; omega) hd hm.2 (by omega) ((ht'.kept hk).mono fun k h => Nat.lt_of_lt_of_le h hk.size) hy (by omega)
  have h3 : ∀ w2, Kept w w2 → Calls Try.prog 15 #[.slice none 0 0, .slice B xs.length d] w2 fun e w' => e = .returned (.int .u64 17241709254077376921) ∧ Kept w2 w' := by
    intro w2 hk
    have := implSum_any none 0 0 [] rfl B d xs w2 (Sl.nil _ (fun _ => False) _) (fun k h => h.elim) (fun x hx => by cases hx) (Nat.le_refl _) (by omega) ((hs'.kept hk).mono fun k h => Nat.lt_of_lt_of_le h hk.size) hx (by omega)
    rw [xxh_nil] at this
    exact this
  generalize xxh ds = s at h1 h2
  have H1 := Lib.hid h1
  have H2 := Lib.hid h2
  have H3 := Lib.hid h3
  clear h1 h2 h3 hx hd hm hm' hy hn'
  go_enter Try.func6, Try.ntmps6
  go_wp2_with (first
    | (go_at_call 15; (with_reducible refine H1.out.mono ?_); rintro e w1 ⟨rfl, hk1⟩)
    | (go_at_call 15; (with_reducible refine (H2.out _ hk1).mono ?_); rintro e w2 ⟨rfl, hk2⟩; have hk12 := hk1.trans hk2)
    | (go_at_call 15; (with_reducible refine (H3.out _ hk12).mono ?_); rintro e w3 ⟨rfl, hk3⟩))
  go_ret
  exact ⟨by simp, hk12.trans hk3⟩
end Go.Proofs.Ytabaholflahepaa
