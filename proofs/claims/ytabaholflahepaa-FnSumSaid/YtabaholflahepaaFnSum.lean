/-
  The walk of laws.FnSum: it returns true.
-/
import Derived.Test.YtabaholflahepaaSumZz
namespace Go.Proofs.Ytabaholflahepaa
open Go.RowKit

theorem fnSum_walk (A : Option Addr) (c : Nat) (ds : List Nat) (B : Option Addr) (d : Nat) (xs : List Int) (w : World) (hs : Sl w (· < w.heap.size) A (u8s ds)) (hd : Bytes ds) (hm : ds.length ≤ 9223372036854775807 ∧ ds.length ≤ c)
    (hs' : Sl w (· < w.heap.size) B (i64s xs)) (hx : I64s xs) (hm' : xs.length ≤ 9223372036854775807 ∧ xs.length ≤ d) :
    Calls Try.prog 5 #[.slice A ds.length c, .slice B xs.length d] w fun e w' => e = .returned (.bool true) ∧ Kept w w' := by
  by_cases g1 : 2147483647 < ds.length
  · go_enter Try.func5, Try.ntmps5
    go_wp2
    go_ret
    exact ⟨rfl, Keep.refl _ _⟩
  by_cases g2 : 2147483647 < xs.length
  · have hd1 : decide ((ds.length : Int) > 2147483647) = false := decide_eq_false (by omega)
    go_enter Try.func5, Try.ntmps5
    go_wp2
    go_ret
    exact ⟨rfl, Keep.refl _ _⟩
  by_cases g3 : 1048576 < ds.length
  · have hd1 : decide ((ds.length : Int) > 2147483647) = false := decide_eq_false (by omega)
    have hd2 : decide ((xs.length : Int) > 2147483647) = false := decide_eq_false (by omega)
    go_enter Try.func5, Try.ntmps5
    go_wp2
    go_ret
    exact ⟨rfl, Keep.refl _ _⟩
  have h1 := implSum_any A ds.length c ds rfl B d xs w hs (fun _ h => h) hd hm.2 (by omega) hs' hx (by omega)
  have h2 : ∀ w2, Kept w w2 → Calls Try.prog 16 #[.slice A ds.length c] w2 fun e w' => e = .returned (.int .u64 (xxh ds : Nat)) ∧ Kept w2 w' :=
    fun w2 hk => specSum_any A ds.length c ds rfl w2 (hs.kept hk) (fun k h => by have := hk.size; omega) hd hm.2 (by omega)
  have hd1 : decide ((ds.length : Int) > 2147483647) = false := decide_eq_false (by omega)
  have hd2 : decide ((xs.length : Int) > 2147483647) = false := decide_eq_false (by omega)
  have hd3 : decide ((ds.length : Int) > 1048576) = false := decide_eq_false (by omega)
  generalize xxh ds = s at h1 h2
  have H1 := Lib.hid h1
  have H2 := Lib.hid h2
  have hm1 := hm.2
  clear h1 h2 hx hd hm hm'
  go_enter Try.func5, Try.ntmps5
  go_wp2_with (first
    | (go_at_call 15; refine H1.out.mono ?_; rintro e w1 ⟨rfl, hk1⟩)
    | (go_at_call 16; refine (H2.out _ hk1).mono ?_; rintro e w2 ⟨rfl, hk2⟩))
  go_ret
  exact ⟨by simp, hk1.trans hk2⟩
end Go.Proofs.Ytabaholflahepaa
