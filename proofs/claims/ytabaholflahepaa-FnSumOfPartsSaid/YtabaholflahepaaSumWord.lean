/-
  Words of bytes, the lowest first: contracts of spec.wordLow, le32, le64.
-/
import Derived.Test.YtabaholflahepaaSumRound
namespace Go.Proofs.Ytabaholflahepaa
open Go.RowKit

theorem num_append : ∀ (a b : List Nat), num (a ++ b) = num a + num b * 2 ^ (8 * a.length)
  | [], b => by simp [num]
  | x :: a, b => by
    simp only [List.cons_append, num, num_append a b, List.length_cons]
    rw [show 8 * (a.length + 1) = 8 + 8 * a.length by omega, Nat.pow_add, show (2 ^ 8 : Nat) = 256 by decide]
    generalize num b = y
    generalize 2 ^ (8 * a.length) = z
    rw [Nat.mul_add, Nat.mul_left_comm 256 y z, Nat.add_assoc]
theorem num_push {l : List Nat} {k x : Nat} (h : l[k]? = some x) : num (l.take (k + 1)) = num (l.take k) + x * 2 ^ (8 * k) := by
  have hk := (List.getElem?_eq_some_iff.1 h).1
  rw [take_push h, num_append]
  simp [num, Nat.min_eq_left (Nat.le_of_lt hk)]
theorem Bytes.take {l : List Nat} (h : Bytes l) (n : Nat) : Bytes (l.take n) := fun x hx => h x (List.mem_of_mem_take hx)
theorem Bytes.drop {l : List Nat} (h : Bytes l) (n : Nat) : Bytes (l.drop n) := fun x hx => h x (List.mem_of_mem_drop hx)
theorem num_word {l : List Nat} (h : Bytes l) (hl : l.length ≤ 8) : U64 (num l) := by
  have h1 := num_lt h
  have h2 : 2 ^ (8 * l.length) ≤ 2 ^ 64 := Nat.pow_le_pow_right (by decide) (by omega)
  unfold U64
  omega

set_option maxHeartbeats 400000 in
theorem wordLow_any {R : Nat → Prop} (A : Option Addr) (n c : Nat) (l : List Nat) (hn : n = l.length) (w : World) (hs : Sl w R A (u8s l)) (hd : Bytes l) (hl : n ≤ 8) :
    Calls Try.prog 25 #[.slice A n c] w fun e w' => e = .returned (.int .u64 (num l : Nat)) ∧ w = w' := by
  subst hn
  go_enter Try.func25, Try.ntmps25
  go_wp2
  go_loopg [3, 8] (l.length + 1) (fun g v i wr => ∃ k x : Nat, l.length - k < g ∧ k ≤ l.length ∧ i = .int .i64 k ∧ v = .int .u64 x ∧ Hid (x = num (l.take k)) ∧ w = wr)
  case atStart => exact ⟨0, 0, by omega, by omega, rfl, rfl, rfl, rfl⟩
  case round =>
    obtain ⟨k, x, q1, q2, rfl, rfl, q3, rfl⟩ := hrel
    by_cases hlt : k < l.length
    · obtain ⟨g, o, y, hR, rfl, hcy, hy⟩ := hs.u8 hlt
      have hy256 := hd y (List.mem_of_getElem? hy.out)
      have hpush := num_push hy.out
      have hxlt : x < 2 ^ (8 * k) := by
        have h1 := num_lt (hd.take k)
        rw [List.length_take, Nat.min_eq_left q2] at h1
        rw [q3.out]; exact h1
      obtain ⟨z, hz⟩ : ∃ z, z = y * 2 ^ (8 * k) := ⟨_, rfl⟩
      have hzl : z < 18446744073709551616 := by
        have h1 : 2 ^ (8 * k) ≤ 2 ^ 56 := Nat.pow_le_pow_right (by decide) (by omega)
        calc z = y * 2 ^ (8 * k) := hz
          _ ≤ 255 * 2 ^ 56 := Nat.mul_le_mul (by omega) h1
          _ < _ := by decide
      have hor : bits .or .u64 (x : Int) (z : Int) = ((x + z : Nat) : Int) := by
        have hx64 : x < 18446744073709551616 := by
          have h1 : 2 ^ (8 * k) ≤ 2 ^ 56 := Nat.pow_le_pow_right (by decide) (by omega)
          omega
        rw [u64_or_nat x z hx64 hzl, hz, or_shift hxlt]
      have hnew : x + z = num (l.take (k + 1)) := by rw [hpush, q3.out, hz]
      obtain ⟨m, hm⟩ : ∃ m, m = 8 * k := ⟨_, rfl⟩
      have hmi : (8 : Int) * (k : Int) = (m : Int) := by omega
      have hzi : (y : Int) * 2 ^ m = (z : Int) := by rw [cast_mul_pow, hz, hm]
      have Hnew := Lib.hid hnew
      have hm56 : m ≤ 56 := by omega
      clear hpush hz hnew hxlt hm
      go_wp2
      go_roundg (l.length - k)
      case measure => exact q1
      case rel => exact ⟨k + 1, x + z, by omega, by omega, rfl, rfl, Hnew.out, rfl⟩
    · obtain rfl : k = l.length := by omega
      rw [List.take_length] at q3
      go_wp2
      go_ret
      exact ⟨by rw [← q3.out]; rfl, rfl⟩

theorem le32_any {R : Nat → Prop} (A : Option Addr) (n c : Nat) (l : List Nat) (hn : n = l.length) (w : World) (hs : Sl w R A (u8s l)) (hd : Bytes l) (hl : 4 ≤ n) :
    Calls Try.prog 44 #[.slice A n c] w fun e w' => e = .returned (.int .u32 (num (l.take 4) : Nat)) ∧ ∃ m, w' = w.drewN m := by
  subst hn
  obtain ⟨g, o, x0, _, rfl, c0, h0⟩ := hs.u8 (k := 0) (by omega)
  obtain ⟨g', o', x1, _, e1, c1, h1⟩ := hs.u8 (k := 1) (by omega)
  obtain ⟨g', o', x2, _, e2, c2, h2⟩ := hs.u8 (k := 2) (by omega)
  obtain ⟨g', o', x3, _, e3, c3, h3⟩ := hs.u8 (k := 3) (by omega)
  simp only [Option.some.injEq, Addr.mk.injEq, and_true] at e1 e2 e3
  obtain ⟨rfl, rfl⟩ := e1
  obtain ⟨rfl, rfl⟩ := e2
  obtain ⟨rfl, rfl⟩ := e3
  have b0 := hd x0 (List.mem_of_getElem? h0.out)
  have b1 := hd x1 (List.mem_of_getElem? h1.out)
  have b2 := hd x2 (List.mem_of_getElem? h2.out)
  have b3 := hd x3 (List.mem_of_getElem? h3.out)
  have hnum : num (l.take 4) = x0 + x1 * 256 + x2 * 65536 + x3 * 16777216 := by
    rw [num_push h3.out, num_push h2.out, num_push h1.out, num_push h0.out]
    simp [num]
  have s1 : bits .or .u32 (x0 : Int) ((x1 * 256 : Nat) : Int) = ((x0 + x1 * 256 : Nat) : Int) := by
    rw [u32_or_nat _ _ (by omega) (by omega), show x1 * 256 = x1 * 2 ^ 8 by omega, or_shift (by omega)]
  have s2 : bits .or .u32 ((x0 + x1 * 256 : Nat) : Int) ((x2 * 65536 : Nat) : Int) = ((x0 + x1 * 256 + x2 * 65536 : Nat) : Int) := by
    rw [u32_or_nat _ _ (by omega) (by omega), show x2 * 65536 = x2 * 2 ^ 16 by omega, or_shift (by omega)]
  have s3 : bits .or .u32 ((x0 + x1 * 256 + x2 * 65536 : Nat) : Int) ((x3 * 16777216 : Nat) : Int) = ((x0 + x1 * 256 + x2 * 65536 + x3 * 16777216 : Nat) : Int) := by
    rw [u32_or_nat _ _ (by omega) (by omega), show x3 * 16777216 = x3 * 2 ^ 24 by omega, or_shift (by omega)]
  rw [hnum]
  have S1 := Lib.hid s1
  have S2 := Lib.hid s2
  have S3 := Lib.hid s3
  clear s1 s2 s3 hnum
  rw [Nat.add_zero] at c0
  go_enter Try.func44, Try.ntmps44
  go_wp2
  go_quiet (fail)
  go_wp2
  go_ret
  refine ⟨?_, _, rfl⟩
  show Ending.returned (.int .u32 (bits .or .u32 (bits .or .u32 (bits .or .u32 (x0 : Int) ((x1 * 256 : Nat) : Int)) ((x2 * 65536 : Nat) : Int)) ((x3 * 16777216 : Nat) : Int))) = _
  rw [S1.out, S2.out, S3.out]

theorem quiet_more {P : Program} {f : FuncId} {args : Array Value} {w : World} {n : Nat} {v : Value}
    (h : Calls P f args (w.drewN n) fun e w' => e = .returned v ∧ ∃ m, w' = (w.drewN n).drewN m) : Calls P f args (w.drewN n) fun e w'' => e = .returned v ∧ ∃ m, w'' = w.drewN m :=
  h.mono fun _ _ ⟨he, m, hm⟩ => ⟨he, n + m, by rw [hm, World.drewN_drewN]⟩

theorem num_eight {l : List Nat} (hl : 8 ≤ l.length) : num (l.take 8) = num (l.take 4) + num ((l.drop 4).take 4) * 2 ^ 32 := by
  have e : l.take 8 = l.take 4 ++ (l.drop 4).take 4 := by
    rw [show (8 : Nat) = 4 + 4 by decide, List.take_add]
  rw [e, num_append, List.length_take, Nat.min_eq_left (by omega)]

theorem le64_any {R : Nat → Prop} (A : Option Addr) (n c : Nat) (l : List Nat) (hn : n = l.length) (w : World) (hs : Sl w R A (u8s l)) (hd : Bytes l) (hl : 8 ≤ n) (hc : n ≤ c) :
    Calls Try.prog 42 #[.slice A n c] w fun e w' => e = .returned (.int .u64 (num (l.take 8) : Nat)) ∧ ∃ m, w' = w.drewN m := by
  subst hn
  obtain ⟨g, o, _, rfl, _⟩ := hs.get (by simp; omega)
  have hne : ¬ c = 4 := by omega
  have hs2 : Sl w R (some ⟨g, o + 4, none⟩) (u8s (l.drop 4)) := by
    have := hs.drop 4 (some ⟨g, o + 4, none⟩) (fun _ g' o' h => by
      simp only [Option.some.injEq, Addr.mk.injEq] at h
      obtain ⟨rfl, rfl, _⟩ := h
      rfl)
    simpa [u8s, List.map_drop] using this
  have ha : num (l.take 4) < 4294967296 := by
    have := num_lt (hd.take 4)
    rwa [List.length_take, Nat.min_eq_left (by omega)] at this
  have hb : num ((l.drop 4).take 4) < 4294967296 := by
    have := num_lt ((hd.drop 4).take 4)
    rwa [List.length_take, List.length_drop, Nat.min_eq_left (by omega)] at this
  have c1 : ∀ k, Calls Try.prog 44 #[.slice (some ⟨g, o, none⟩) l.length c] (w.drewN k) fun e w'' => e = .returned (.int .u32 (num (l.take 4) : Nat)) ∧ ∃ m, w'' = w.drewN m := fun k => quiet_more <| le32_any (some ⟨g, o, none⟩) l.length c l rfl (w.drewN k) (hs.drewN k) hd (by omega)
  have c2 : ∀ k, Calls Try.prog 44 #[.slice (some ⟨g, o + 4, none⟩) (l.length - 4) (c - 4)] (w.drewN k) fun e w'' => e = .returned (.int .u32 (num ((l.drop 4).take 4) : Nat)) ∧ ∃ m, w'' = w.drewN m := fun k => quiet_more <| le32_any (some ⟨g, o + 4, none⟩) (l.length - 4) (c - 4) (l.drop 4) (by simp) (w.drewN k) (hs2.drewN k) (hd.drop 4) (by omega)
  rw [num_eight (by omega)]
  generalize num (l.take 4) = a at ha c1 ⊢
  generalize num ((l.drop 4).take 4) = b at hb c2 ⊢
  have hor : bits .or .u64 (a : Int) ((b * 4294967296 : Nat) : Int) = ((a + b * 2 ^ 32 : Nat) : Int) := by
    rw [u64_or_nat _ _ (by omega) (by omega), show b * 4294967296 = b * 2 ^ 32 by omega, or_shift (by omega)]
  have Hor := Lib.hid hor
  have C1 := Lib.hid c1
  have C2 := Lib.hid c2
  clear hor c1 c2 hs hs2
  go_enter Try.func42, Try.ntmps42
  go_wp2
  go_quiet (first
    | (go_at_call 44; with_reducible exact C1.out _)
    | (go_at_call 44; with_reducible exact C2.out _))
  go_wp2
  go_ret
  refine ⟨?_, _, rfl⟩
  show Ending.returned (.int .u64 (bits .or .u64 (a : Int) ((b * 4294967296 : Nat) : Int))) = _
  rw [Hor.out]
end Go.Proofs.Ytabaholflahepaa
