/-
  laws.same: equal bytes are equal.
-/
import Derived.Laws.BytesArg
import Derived.Test.YtabaholflahepaaRow
namespace Go.Proofs.Ytabaholflahepaa
open Go.RowKit

/-- string(b) of a slice of bytes that is known. -/
theorem run_string_sl {P : Program} {w : World} {R : Nat → Prop} {A : Option Addr} {xs : List Nat} (h : Sl w R A (u8s xs)) (src e dst : TypeId) (hs : P.underlying src = some (.slice e)) (he : P.underlying e = some (.int .u8))
    (hd : P.underlying dst = some .string) (len cap : Nat) (hl : xs.length = len) :
    (convert src dst (.slice A len cap)).run P w = .ok (.string (strOfNums (xs.map fun x : Nat => (x : Int)))) w := by
  subst hl
  by_cases h0 : xs = []
  · subst h0
    cases A with
    | none => rw [run_convert_bytes_nil w src e hs he _ _ dst hd]; rfl
    | some a =>
      rw [run_convert_bytes_string w src dst e _ _ cap hs he hd, run_bytesToString w a _ cap [] (by simpa using run_loadCells_list (P := P) w a [] (by simp))]
      rfl
  · obtain ⟨g, o, _, rfl, hc⟩ := h.get (by simp; exact List.length_pos_iff.2 h0)
    refine run_convert_bytes_arg w src e hs he g o xs.length cap (xs.map fun x : Nat => (x : Int)) (by simp) (fun i hi => ?_) dst hd
    rw [hc i _ (u8s_at hi)]
    simp [List.getD_eq_getElem?_getD, List.getElem?_eq_getElem hi]

theorem same_true {R R' : Nat → Prop} (A A' : Option Addr) (n n' c c' : Nat) (xs : List Nat) (hn : n = xs.length) (hn' : n' = xs.length) (w : World) (hs : Sl w R A (u8s xs)) (hs' : Sl w R' A' (u8s xs)) :
    Calls Try.prog 11 #[.slice A n c, .slice A' n' c'] w fun e w' => e = .returned (.bool true) ∧ w = w' := by
  have k1 := run_string_sl (P := Try.prog) hs 25 5 9 Try.underlying25 Try.underlying5 Try.underlying9 n c hn.symm
  have k2 := run_string_sl (P := Try.prog) hs' 25 5 9 Try.underlying25 Try.underlying5 Try.underlying9 n' c' hn'.symm
  clear hn hn' hs hs'
  go_enter Try.func11, Try.ntmps11
  go_wp2
  go_ret
  exact ⟨by simp, rfl⟩
end Go.Proofs.Ytabaholflahepaa
