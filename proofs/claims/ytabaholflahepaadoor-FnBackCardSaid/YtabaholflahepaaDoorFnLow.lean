/-
  The walk of laws.FnLow: it returns true, and nothing that was there has turned.
-/
import Derived.Test.YtabaholflahepaaDoorImplLow
namespace Go.Proofs.YtabaholflahepaaDoor
open Go.RowKit

/-- few's numbers. -/
def fewOf (xs : List Int) : List Nat := xs.map fun x => (x % 17).toNat
theorem fewOf_le (xs : List Int) : ∀ n ∈ fewOf xs, n ≤ 16 := by
  intro n hn
  obtain ⟨x, _, rfl⟩ := List.mem_map.1 hn
  omega
theorem fewOf_length (xs : List Int) : (fewOf xs).length = xs.length := by simp [fewOf]
theorem sum_le_16 {ns : List Nat} (h : ∀ n ∈ ns, n ≤ 16) : ns.sum ≤ 16 * ns.length := by
  induction ns with
  | nil => simp
  | cons n r ih =>
    have h1 := h n (List.mem_cons_self ..)
    have h2 := ih fun y hy => h y (List.mem_cons_of_mem _ hy)
    simp only [List.sum_cons, List.length_cons]
    omega
theorem takes_lt (N : Nat) : ∀ (ns : List Nat) (pos : Nat), (∀ n ∈ ns, n ≤ 16) → ∀ x ∈ takes N pos ns, x < 2 ^ 32
  | [], _, _, x, hx => by simp [takes] at hx
  | n :: r, pos, h, x, hx => by
    rcases List.mem_cons.1 hx with rfl | hx
    · exact Nat.lt_of_lt_of_le (Nat.mod_lt _ (pow_pos' n)) (Nat.pow_le_pow_right (by decide) (by have := h n (List.mem_cons_self ..); omega))
    · exact takes_lt N r _ (fun y hy => h y (List.mem_cons_of_mem _ hy)) x hx

theorem numbersAre_same {R R' : Nat → Prop} (A A' : Option Addr) (n c c' : Nat) (us : List Nat) (hu : us.length = n) (w : World) (hs : Sl w R A (u32s us)) (hs' : Sl w R' A' (nats us)) (ha : ∀ x ∈ us, x < 2 ^ 32) (hlen : n < 2 ^ 31) :
    Calls Tryd.prog 20 #[.slice A n c, .slice A' n c'] w fun e w' => e = .returned (.bool true) ∧ Kept w w' := by
  subst hu
  exact (numbersAre_any A A' c c' us us w hs hs' ha hlen hlen).mono fun e w' h => ⟨by rw [h.1, decide_eq_true rfl], h.2⟩

set_option maxHeartbeats 1000000 in
theorem fnLow_walk (A A' : Option Addr) (c c' : Nat) (ds : List Nat) (xs : List Int) (w : World) (hs : Sl w (· < w.heap.size) A (u8s ds)) (hs' : Sl w (· < w.heap.size) A' (i64s xs)) (hd : Bytes ds) (hx : I64s xs)
    (he : Errs w.heap.size w) (hm : ds.length ≤ 9223372036854775807) (hm' : xs.length ≤ 9223372036854775807) :
    Calls Tryd.prog 3 #[.slice A ds.length c, .slice A' xs.length c'] w fun e w' => e = .returned (.bool true) ∧ Kept w w' := by
  by_cases g1 : 2147483647 < ds.length
  · go_enter Tryd.func3, Tryd.ntmps3
    go_wp2_with fail
    go_ret
    exact ⟨rfl, Keep.refl _ _⟩
  by_cases g2 : 2147483647 < xs.length
  · go_enter Tryd.func3, Tryd.ntmps3
    go_wp2_with fail
    go_ret
    exact ⟨rfl, Keep.refl _ _⟩
  by_cases g3 : 1048576 < ds.length
  · go_enter Tryd.func3, Tryd.ntmps3
    go_wp2_with fail
    go_ret
    exact ⟨rfl, Keep.refl _ _⟩
  obtain ⟨ns, hns⟩ : ∃ ns, ns = fewOf xs := ⟨_, rfl⟩
  have hn : ∀ n ∈ ns, n ≤ 16 := hns ▸ fewOf_le xs
  have hl : ns.length = xs.length := by rw [hns, fewOf_length]
  have hsum := sum_le_16 hn
  have hfew := few_any (R := (· < w.heap.size)) A' c' xs w hs' hx (by omega)
  rw [show (xs.map fun x => (x % 17).toNat) = ns from hns.symm, ← hl] at hfew
  have hl2 : ns.length ≤ 2147483647 := by omega
  rw [← hl] at g2 hm' ⊢
  have Hf := Lib.hid hfew
  clear hfew hl hns hs' hx
  by_cases hbig : 8 * ds.length < ns.sum
  · -- not so many bits: both say so
    have hk0 : ∃ k, k < ns.length ∧ 8 * ds.length < (ns.take k).sum + 16 := by
      have h0 : 0 < ns.length := by
        rcases Nat.eq_zero_or_pos ns.length with h | h
        · rw [List.eq_nil_of_length_eq_zero h] at hbig; simp at hbig
        · exact h
      have hl1 : ns.length - 1 < ns.length := by omega
      refine ⟨ns.length - 1, hl1, ?_⟩
      have h2 := sum_push (List.getElem?_eq_getElem hl1)
      rw [show ns.length - 1 + 1 = ns.length by omega, List.take_length] at h2
      have := hn _ (List.getElem_mem hl1)
      omega
    have Hk := Lib.hid hk0
    clear hk0
    go_enter Tryd.func3, Tryd.ntmps3
    go_wp2_with (first
      | (go_at_call 16; refine Hf.out.mono ?_; rintro e w1 ⟨A1, c1, rfl, ho1, hk1⟩; have hs1 : Sl w1 (· < w1.heap.size) A (u8s ds) := (hs.kept hk1).mono (fun k hk => Nat.lt_of_lt_of_le hk hk1.size); have hn1 : Sl w1 (· < w1.heap.size) A1 (nats ns) := (Sl.of_own ho1).mono (fun k hk => hk.2))
      | (go_at_call 17; refine (specLow_bad A A1 c c1 ds ns w1 hs1 hn1 hd hn (by omega) (by omega) hbig).mono ?_; rintro e w2 ⟨A2, c2, x2, rfl, hk2⟩; have he2 := he.kept (hk1.trans hk2))
      | (go_at_call 18; refine (implLow (zzLow_err A A1 c c1 ds ns w2 (hs1.kept hk2) (hn1.kept hk2) hd hn (by omega) (by omega) he2 Hk.out) (by rintro e w' ⟨_, _, _, rfl, _⟩; exact ⟨_, _, _, rfl⟩)).mono ?_; rintro e w3 ⟨A3, n3, c3, rfl, hk3⟩))
    go_ret
    exact ⟨rfl, (hk1.trans hk2).trans hk3⟩
  by_cases hall : ∀ k, k < ns.length → (ns.take k).sum + 16 ≤ 8 * ds.length
  · have Ha := Lib.hid hall
    clear hall
    have hnum : ∀ x ∈ takes (num ds) 0 ns, x < 2 ^ 32 := takes_lt _ _ _ hn
    have htl : (takes (num ds) 0 ns).length = ns.length := takes_length _ _ _
    have Ht := Lib.hid htl
    clear htl
    go_enter Tryd.func3, Tryd.ntmps3
    go_wp2_with (first
      | (go_at_call 16; refine Hf.out.mono ?_; rintro e w1 ⟨A1, c1, rfl, ho1, hk1⟩; have hs1 : Sl w1 (· < w1.heap.size) A (u8s ds) := (hs.kept hk1).mono (fun k hk => Nat.lt_of_lt_of_le hk hk1.size); have hn1 : Sl w1 (· < w1.heap.size) A1 (nats ns) := (Sl.of_own ho1).mono (fun k hk => hk.2))
      | (go_at_call 17; refine (specLow_ok A A1 c c1 ds ns w1 hs1 hn1 hd hn (by omega) (by omega) (by omega)).mono ?_; rintro e w2 ⟨A2, c2, rfl, ho2, hk2⟩; have he2 := he.kept (hk1.trans hk2))
      | (go_at_call 18; refine (implLow (zzLow_ok A A1 c c1 ds ns w2 (hs1.kept hk2) (hn1.kept hk2) hd hn (by omega) (by omega) Ha.out) (by rintro e w' ⟨_, _, rfl, _⟩; exact ⟨_, _, _, rfl⟩)).mono ?_; rintro e w3 ⟨A3, c3, rfl, ho3, hk3⟩)
      | (go_at_call 20; refine (numbersAre_same A3 A2 ns.length c3 c2 (takes (num ds) 0 ns) Ht.out w3 (Sl.of_own ho3) ((Sl.of_own ho2).kept hk3) hnum (by omega)).mono ?_; rintro e w4 ⟨rfl, hk4⟩))
    go_ret
    exact ⟨by simp, ((hk1.trans hk2).trans hk3).trans hk4⟩
  · have hk0 : ∃ k, k < ns.length ∧ 8 * ds.length < (ns.take k).sum + 16 := by
      refine Classical.byContradiction fun h => hall fun k hk => ?_
      refine Classical.byContradiction fun h2 => h ⟨k, hk, by omega⟩
    have hlate : 8 * ds.length < ns.sum + 16 := by
      obtain ⟨k, _, h2⟩ := hk0
      have := sum_take_le ns k
      omega
    have Hk := Lib.hid hk0
    clear hk0 hall
    go_enter Tryd.func3, Tryd.ntmps3
    go_wp2_with (first
      | (go_at_call 16; refine Hf.out.mono ?_; rintro e w1 ⟨A1, c1, rfl, ho1, hk1⟩; have hs1 : Sl w1 (· < w1.heap.size) A (u8s ds) := (hs.kept hk1).mono (fun k hk => Nat.lt_of_lt_of_le hk hk1.size); have hn1 : Sl w1 (· < w1.heap.size) A1 (nats ns) := (Sl.of_own ho1).mono (fun k hk => hk.2))
      | (go_at_call 17; refine (specLow_ok A A1 c c1 ds ns w1 hs1 hn1 hd hn (by omega) (by omega) (by omega)).mono ?_; rintro e w2 ⟨A2, c2, rfl, ho2, hk2⟩; have he2 := he.kept (hk1.trans hk2))
      | (go_at_call 18; refine (implLow (zzLow_err A A1 c c1 ds ns w2 (hs1.kept hk2) (hn1.kept hk2) hd hn (by omega) (by omega) he2 Hk.out) (by rintro e w' ⟨_, _, _, rfl, _⟩; exact ⟨_, _, _, rfl⟩)).mono ?_; rintro e w3 ⟨A3, n3, c3, rfl, hk3⟩)
      | (go_at_call 19; refine (sum_any A1 c1 ns w3 (hn1.kept (hk2.trans hk3)) hn (by omega)).mono ?_; rintro e w4 ⟨rfl, rfl⟩))
    go_ret
    refine ⟨?_, (hk1.trans hk2).trans hk3⟩
    show Ending.returned (.bool (decide (8 * (ds.length : Int) < (ns.sum : Int) + 16))) = _
    rw [decide_eq_true (by omega)]
end Go.Proofs.YtabaholflahepaaDoor
