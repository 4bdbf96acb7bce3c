/-
  Contracts of ZZSum, impl.Sum, spec.Sum64: XXH64 of a text, in whatever parts it comes.
-/
import Derived.Test.YtabaholflahepaaSumUpF
import Derived.Test.YtabaholflahepaaSumDig
namespace Go.Proofs.Ytabaholflahepaa
open Go.RowKit

theorem size5 (w : World) : (sizeOf (Try.prog.elem 25)).run Try.prog w = .ok 1 w := by kernel_rfl
/-- data[:k] and data[k:], whatever the slice. -/
theorem run_front (A : Option Addr) (n c k : Nat) (hk : k ≤ c) (w : World) :
    Sem.run Try.prog (Instr.sliceAt 25 (.slice A n c) none (some (.int .i64 (k : Int))) none) w = .ok (.slice (if c = 0 then A else A.map (·.add (0 * 1))) k c) w := by
  have ht : Try.prog.underlying 25 = some (.slice (Try.prog.elem 25)) := by kernel_rfl
  rw [run_sliceAt_slice w 25 _ _ _ _ ht, run_slice_h w 25 A n c ht .i64 k (by omega) (by omega), size5]
  simp [Result.andThen, sliced]
theorem run_back (A : Option Addr) (n c k : Nat) (hk : k ≤ n) (w : World) :
    Sem.run Try.prog (Instr.sliceAt 25 (.slice A n c) (some (.int .i64 (k : Int))) none none) w = .ok (.slice (if c = k then A else A.map (·.add (k * 1))) (n - k) (c - k)) w := by
  have ht : Try.prog.underlying 25 = some (.slice (Try.prog.elem 25)) := by kernel_rfl
  rw [run_sliceAt_slice w 25 _ _ _ _ ht, run_slice_l w 25 A n c ht .i64 k (by omega) (by omega), size5]
  simp [Result.andThen, sliced]
theorem Sl.front {w : World} {R : Nat → Prop} {A : Option Addr} {l : List Nat} (h : Sl w R A (u8s l)) (c k : Nat) : Sl w R (if c = 0 then A else A.map (·.add (0 * 1))) (u8s (l.take k)) := by
  have h1 : Sl w R A (u8s (l.take k)) := by
    have := h.take k
    simpa [u8s, List.map_take] using this
  rcases h1 with h1 | ⟨g, o, h2, rfl, h3⟩
  · exact .inl h1
  · refine .inr ⟨g, o, h2, ?_, h3⟩
    split
    · rfl
    · simp [Addr.add]
theorem Sl.back {w : World} {R : Nat → Prop} {A : Option Addr} {l : List Nat} (h : Sl w R A (u8s l)) {c k : Nat} (hl : l.length ≤ c) : Sl w R (if c = k then A else A.map (·.add (k * 1))) (u8s (l.drop k)) := by
  have := h.drop k (if c = k then A else A.map (·.add (k * 1))) (fun hk g o he => by
    subst he
    simp at hk
    rw [if_neg (by omega)]
    simp [Addr.add])
  simpa [u8s, List.map_drop] using this

/-- What a sum of parts takes from a text: none of it below 0, no more than there is. -/
def cutOf (x : Int) (n : Nat) : Nat := (min (max x 0) (n : Int)).toNat

set_option maxHeartbeats 2000000 in
set_option maxRecDepth 4000 in
theorem zzSum_any {R : Nat → Prop} (A : Option Addr) (n c : Nat) (l : List Nat) (hn : n = l.length) (B : Option Addr) (d : Nat) (xs : List Int) (w : World) (hs : Sl w R A (u8s l)) (hR : ∀ k, R k → k < w.heap.size) (hd : Bytes l) (hc : n ≤ c) (hbig : n ≤ 1048576)
    (hs' : Sl w (· < w.heap.size) B (i64s xs)) (hx : ∀ x ∈ xs, -9223372036854775808 ≤ x ∧ x ≤ 9223372036854775807) (hl : xs.length ≤ 2147483647) :
    Calls Try.prog 23 #[.slice A n c, .slice B xs.length d] w fun e w' => e = .returned (.int .u64 (xxh l : Nat)) ∧ Kept w w' := by
  obtain ⟨b, hbe⟩ : ∃ b, b = w.heap.size := ⟨_, rfl⟩
  have hRb : ¬ R b := fun h => by have := hR b h; omega
  obtain ⟨W, hW⟩ : ∃ W, W = w.alloc (.cells #[.int .u64 0, .int .u64 0, .int .u64 0, .int .u64 0, .int .u64 0, .int .u8 0, .int .u8 0, .int .u8 0, .int .u8 0, .int .u8 0, .int .u8 0, .int .u8 0, .int .u8 0, .int .u8 0, .int .u8 0, .int .u8 0, .int .u8 0, .int .u8 0, .int .u8 0, .int .u8 0, .int .u8 0, .int .u8 0, .int .u8 0, .int .u8 0, .int .u8 0, .int .u8 0, .int .u8 0, .int .u8 0, .int .u8 0, .int .u8 0, .int .u8 0, .int .u8 0, .int .u8 0, .int .u8 0, .int .u8 0, .int .u8 0, .int .u8 0, .int .i64 0] 83) := ⟨_, rfl⟩
  have hz : (#[.int .u64 0, .int .u64 0, .int .u64 0, .int .u64 0, .int .u64 0, .int .u8 0, .int .u8 0, .int .u8 0, .int .u8 0, .int .u8 0, .int .u8 0, .int .u8 0, .int .u8 0, .int .u8 0, .int .u8 0, .int .u8 0, .int .u8 0, .int .u8 0, .int .u8 0, .int .u8 0, .int .u8 0, .int .u8 0, .int .u8 0, .int .u8 0, .int .u8 0, .int .u8 0, .int .u8 0, .int .u8 0, .int .u8 0, .int .u8 0, .int .u8 0, .int .u8 0, .int .u8 0, .int .u8 0, .int .u8 0, .int .u8 0, .int .u8 0, .int .i64 0] : Array Value) = (xhCells 0 [0, 0, 0, 0] (List.replicate 32 0) 0).toArray := rfl
  have hb0 : Blk W b 83 (xhCells 0 [0, 0, 0, 0] (List.replicate 32 0) 0) := by rw [hW, hz, hbe]; exact Blk.new w _ _
  have hk0 : Kept w W := by rw [hW]; exact (Keep.refl _ _).alloc _
  have hwb : w.heap.size ≤ b := by omega
  have hres := reset_any b W hb0
  have HWe := Lib.hid hW.symm
  have Hbe := Lib.hid hbe
  have Hres := Lib.hid hres
  have Hn := Lib.hid hn
  have Hd := Lib.hid hd
  have Hx := Lib.hid hx
  clear hW hz hbe hres hn hd hb0 hx
  go_enter Try.func23, Try.ntmps23
  go_wp2_with fail
  rw [HWe.out, ← Hbe.out]
  (refine Hres.out.mono ?_; rintro e w1 ⟨rfl, hX, hk1⟩)
  go_wp2
  have hkw : Kept w w1 := hk0.then hk1 (fun k hk h => by subst h; omega)
  clear hk0 hk1
  go_loopg [0, 11] (xs.length + 1) (fun gg s i wr => ∃ (k n2 c2 : Nat) (A2 : Option Addr) (l2 T : List Nat), xs.length - k < gg ∧ k ≤ xs.length ∧ i = .int .i64 k ∧ s = .slice A2 n2 c2 ∧ n2 ≤ c2 ∧ n2 ≤ 1048576 ∧ Hid (n2 = l2.length) ∧ Hid (T ++ l2 = l) ∧ Hid (Bytes l2) ∧
    Hid (Sl w R A2 (u8s l2)) ∧ XH wr b T ∧ Kept w wr)
  case atStart => exact ⟨0, n, c, A, l, [], by omega, by omega, rfl, rfl, hc, hbig, Hn.out, rfl, Hd.out, hs, hX, hkw⟩
  case round =>
    clear hX hkw
    obtain ⟨k, n2, c2, A2, l2, T, q1, q2, rfl, rfl, q3, q4, q5, q6, q7, q8, qx, qk⟩ := hrel
    have hTl : T.length + n2 ≤ 1048576 := by
      have := congrArg List.length q6.out
      rw [List.length_append, ← q5.out, ← Hn.out] at this
      omega
    by_cases hlt : k < xs.length
    · obtain ⟨g, o, x, _, rfl, hcx, hxk⟩ := (hs'.kept qk).i64 hlt
      have hx1 := Hx.out x (List.mem_of_getElem? hxk.out)
      obtain ⟨m, hmn, hcase⟩ : ∃ m : Nat, m ≤ n2 ∧ ((x < 0 ∧ m = 0) ∨ (x = 0 ∧ m = 0) ∨ (0 < m ∧ m < n2 ∧ x = (m : Int)) ∨ (x = (n2 : Int) ∧ 0 < n2 ∧ m = n2) ∨ (0 < x ∧ (n2 : Int) < x ∧ m = n2)) := by
        by_cases h1 : x < 0
        · exact ⟨0, by omega, .inl ⟨h1, rfl⟩⟩
        · by_cases h0 : x = 0
          · exact ⟨0, by omega, .inr (.inl ⟨h0, rfl⟩)⟩
          · by_cases h2 : (n2 : Int) < x
            · exact ⟨n2, Nat.le_refl _, .inr (.inr (.inr (.inr ⟨by omega, h2, rfl⟩)))⟩
            · by_cases h3 : x = (n2 : Int)
              · exact ⟨n2, Nat.le_refl _, .inr (.inr (.inr (.inl ⟨h3, by omega, rfl⟩)))⟩
              · exact ⟨x.toNat, by omega, .inr (.inr (.inl ⟨by omega, by omega, by omega⟩))⟩
      have hg := run_back A2 n2 c2 m hmn
      have hsf := q8.out.first m
      have hsb := q8.out.back (c := c2) (k := m) (by rw [← q5.out]; exact q3)
      generalize (if c2 = m then A2 else A2.map (·.add (m * 1))) = A4 at hg hsb
      have hup := update_any b A2 m c2 T (l2.take m) (by rw [List.length_take, ← q5.out]; omega) wr qx (hsf.kept qk) hRb (q7.out.take m) (by omega) (by omega)
      have Hup := Lib.hid hup
      have Hsb := Lib.hid hsb
      clear hup hsf hsb hTl
      by_cases hn0 : n2 = 0
      · subst hn0
        obtain rfl : m = 0 := by omega
        rcases hcase with ⟨h1, _⟩ | ⟨rfl, _⟩ | ⟨h1, h2, _⟩ | ⟨_, h2, _⟩ | ⟨h1, h2, _⟩
        · go_wp2_with (go_at_call 39; (with_reducible refine Hup.out.mono ?_); rintro e w2 ⟨rfl, hX2, hk2⟩)
          go_roundg (xs.length - k)
          case measure => exact q1
          case rel => exact ⟨k + 1, _, c2, A2, l2, T ++ l2.take 0, by omega, by omega, rfl, rfl, by omega, by omega, q5.out, (by show _ = _; rw [List.take_zero, List.append_nil]; exact q6.out), q7.out, q8.out, hX2, qk.then hk2 (fun k hk h => by subst h; omega)⟩
        · go_wp2_with (go_at_call 39; (with_reducible refine Hup.out.mono ?_); rintro e w2 ⟨rfl, hX2, hk2⟩)
          go_roundg (xs.length - k)
          case measure => exact q1
          case rel => exact ⟨k + 1, _, c2, A2, l2, T ++ l2.take 0, by omega, by omega, rfl, rfl, by omega, by omega, q5.out, (by show _ = _; rw [List.take_zero, List.append_nil]; exact q6.out), q7.out, q8.out, hX2, qk.then hk2 (fun k hk h => by subst h; omega)⟩
        · omega
        · omega
        · go_wp2_with (go_at_call 39; (with_reducible refine Hup.out.mono ?_); rintro e w2 ⟨rfl, hX2, hk2⟩)
          go_roundg (xs.length - k)
          case measure => exact q1
          case rel => exact ⟨k + 1, _, c2, A2, l2, T ++ l2.take 0, by omega, by omega, rfl, rfl, by omega, by omega, q5.out, (by show _ = _; rw [List.take_zero, List.append_nil]; exact q6.out), q7.out, q8.out, hX2, qk.then hk2 (fun k hk h => by subst h; omega)⟩
      have hn0' : 0 < n2 := by omega
      have hn0i : (0 : Int) < n2 := by omega
      rcases hcase with ⟨h1, rfl⟩ | ⟨rfl, rfl⟩ | ⟨h1, h2, rfl⟩ | ⟨rfl, h2, rfl⟩ | ⟨h1, h2, rfl⟩
      · go_wp2_with (go_at_call 39; (with_reducible refine Hup.out.mono ?_); rintro e w2 ⟨rfl, hX2, hk2⟩)
        go_roundg (xs.length - k)
        case measure => exact q1
        case rel => exact ⟨k + 1, _, c2, A2, l2, T ++ l2.take 0, by omega, by omega, rfl, rfl, by omega, by omega, q5.out, (by show _ = _; rw [List.take_zero, List.append_nil]; exact q6.out), q7.out, q8.out, hX2, qk.then hk2 (fun k hk h => by subst h; omega)⟩
      · go_wp2_with (go_at_call 39; (with_reducible refine Hup.out.mono ?_); rintro e w2 ⟨rfl, hX2, hk2⟩)
        go_roundg (xs.length - k)
        case measure => exact q1
        case rel => exact ⟨k + 1, _, c2, A2, l2, T ++ l2.take 0, by omega, by omega, rfl, rfl, by omega, by omega, q5.out, (by show _ = _; rw [List.take_zero, List.append_nil]; exact q6.out), q7.out, q8.out, hX2, qk.then hk2 (fun k hk h => by subst h; omega)⟩
      · go_wp2_with (go_at_call 39; (with_reducible refine Hup.out.mono ?_); rintro e w2 ⟨rfl, hX2, hk2⟩)
        go_roundg (xs.length - k)
        case measure => exact q1
        case rel => exact ⟨k + 1, _, _, A4, _, T ++ l2.take _, by omega, by omega, rfl, rfl, by omega, by omega, (by show _ = _; rw [List.length_drop, ← q5.out] <;> omega), (by show _ = _; rw [List.append_assoc, List.take_append_drop]; exact q6.out), q7.out.drop _, Hsb.out, hX2, qk.then hk2 (fun k hk h => by subst h; omega)⟩
      · go_wp2_with (go_at_call 39; (with_reducible refine Hup.out.mono ?_); rintro e w2 ⟨rfl, hX2, hk2⟩)
        go_roundg (xs.length - k)
        case measure => exact q1
        case rel => exact ⟨k + 1, _, _, A4, _, T ++ l2.take _, by omega, by omega, rfl, rfl, by omega, by omega, (by show _ = _; rw [List.length_drop, ← q5.out] <;> omega), (by show _ = _; rw [List.append_assoc, List.take_append_drop]; exact q6.out), q7.out.drop _, Hsb.out, hX2, qk.then hk2 (fun k hk h => by subst h; omega)⟩
      · go_wp2_with (go_at_call 39; (with_reducible refine Hup.out.mono ?_); rintro e w2 ⟨rfl, hX2, hk2⟩)
        go_roundg (xs.length - k)
        case measure => exact q1
        case rel => exact ⟨k + 1, _, _, A4, _, T ++ l2.take _, by omega, by omega, rfl, rfl, by omega, by omega, (by show _ = _; rw [List.length_drop, ← q5.out] <;> omega), (by show _ = _; rw [List.append_assoc, List.take_append_drop]; exact q6.out), q7.out.drop _, Hsb.out, hX2, qk.then hk2 (fun k hk h => by subst h; omega)⟩
    · obtain rfl : k = xs.length := by omega
      have hup := update_any b A2 n2 c2 T l2 q5.out wr qx (q8.out.kept qk) hRb q7.out q3 (by omega)
      rw [q6.out] at hup
      have hdg : ∀ w2, XH w2 b l → Calls Try.prog 40 #[.pointer (some ⟨b, 0, none⟩)] w2 fun e w' => e = .returned (.int .u64 (xxh l : Nat)) ∧ ∃ m, w' = w2.drewN m := fun w2 h => digest_any b l w2 h (by rw [← Hn.out]; omega)
      have Hup := Lib.hid hup
      have Hdg := Lib.hid hdg
      clear hup hdg hTl
      go_wp2_with (first
        | (go_at_call 39; refine Hup.out.mono ?_; rintro e w2 ⟨rfl, hX2, hk2⟩)
        | (go_at_call 40; refine (Hdg.out _ hX2).mono ?_; rintro e w3 ⟨rfl, m3, rfl⟩))
      go_ret
      exact ⟨rfl, (qk.then hk2 (fun k hk h => by subst h; omega)).drewN _⟩

theorem implSum_any {R : Nat → Prop} (A : Option Addr) (n c : Nat) (l : List Nat) (hn : n = l.length) (B : Option Addr) (d : Nat) (xs : List Int) (w : World) (hs : Sl w R A (u8s l)) (hR : ∀ k, R k → k < w.heap.size) (hd : Bytes l) (hc : n ≤ c) (hbig : n ≤ 1048576)
    (hs' : Sl w (· < w.heap.size) B (i64s xs)) (hx : ∀ x ∈ xs, -9223372036854775808 ≤ x ∧ x ≤ 9223372036854775807) (hl : xs.length ≤ 2147483647) :
    Calls Try.prog 15 #[.slice A n c, .slice B xs.length d] w fun e w' => e = .returned (.int .u64 (xxh l : Nat)) ∧ Kept w w' := by
  have h := zzSum_any A n c l hn B d xs w hs hR hd hc hbig hs' hx hl
  have H := Lib.hid h
  clear h hn hx
  go_enter Try.func15, Try.ntmps15
  go_wp2_with (go_at_call 23; refine H.out.mono ?_; rintro e w2 ⟨rfl, hk⟩)
  go_ret
  exact ⟨rfl, hk⟩

theorem specSum_any {R : Nat → Prop} (A : Option Addr) (n c : Nat) (l : List Nat) (hn : n = l.length) (w : World) (hs : Sl w R A (u8s l)) (hR : ∀ k, R k → k < w.heap.size) (hd : Bytes l) (hc : n ≤ c) (hbig : n ≤ 1048576) :
    Calls Try.prog 16 #[.slice A n c] w fun e w' => e = .returned (.int .u64 (xxh l : Nat)) ∧ Kept w w' := by
  by_cases h : 32 ≤ n
  · exact sum64_big A n c l hn w hs hR hd hc hbig h
  · exact sum64_small A n c l hn w hs hd hc (by omega)
end Go.Proofs.Ytabaholflahepaa
