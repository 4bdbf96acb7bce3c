/-
  Contracts of laws.below, few, sum, numbersAre.
-/
import Derived.Test.YtabaholflahepaaDoorBits
import Derived.Test.YtabaholflahepaaDoorApp
namespace Go.Proofs.YtabaholflahepaaDoor
open Go.RowKit

/-- Numbers that an int holds. -/
def I64 (x : Int) : Prop := -9223372036854775808 ≤ x ∧ x ≤ 9223372036854775807
def I64s (l : List Int) : Prop := ∀ x ∈ l, I64 x
theorem I64s.getD {l : List Int} (h : I64s l) (i : Nat) : I64 (l.getD i 0) := by
  rw [List.getD_eq_getElem?_getD]
  cases hi : l[i]? with
  | none => simp [I64]
  | some x => simpa using h x (List.mem_of_getElem? hi)

theorem el23 : El Tryd.prog 23 3 (.int .i64 0) 1 8 := ⟨Tryd.underlying23, by kernel_rfl, rfl, by decide, by decide⟩
theorem el27 : El Tryd.prog 27 91 (.int .u32 0) 1 4 := ⟨Tryd.underlying27, by kernel_rfl, rfl, by decide, by decide⟩
theorem el158 : El Tryd.prog 158 5 (.int .u8 0) 1 1 := ⟨Tryd.underlying158, by kernel_rfl, rfl, by decide, by decide⟩
theorem el22 : El Tryd.prog 22 5 (.int .u8 0) 1 1 := ⟨Tryd.underlying22, by kernel_rfl, rfl, by decide, by decide⟩

theorem tmod_neg_add (x n : Int) (hn : 0 < n) (h : x.tmod n < 0) : x.tmod n + n = x % n := by
  have h1 : x < 0 := by
    rcases Int.lt_or_le x 0 with h0 | h0
    · exact h0
    · rw [Int.tmod_eq_emod_of_nonneg h0] at h
      have := Int.emod_nonneg x (Int.ne_of_gt hn)
      omega
  have h2 := Int.tmod_eq_emod (a := x) (b := n)
  rw [h2] at h ⊢
  have h3 := Int.emod_nonneg x (Int.ne_of_gt hn)
  have h4 := Int.emod_lt_of_pos x hn
  split
  · rename_i hc
    rw [if_pos hc] at h
    omega
  · have : (n.natAbs : Int) = n := Int.natAbs_of_nonneg (by omega)
    omega
theorem tmod_nonneg_eq (x n : Int) (hn : 0 < n) (h : 0 ≤ x.tmod n) : x.tmod n = x % n := by
  have h2 := Int.tmod_eq_emod (a := x) (b := n)
  have h3 := Int.emod_nonneg x (Int.ne_of_gt hn)
  have h4 := Int.emod_lt_of_pos x hn
  rw [h2] at h ⊢
  split
  · omega
  · rename_i hc
    rw [if_neg hc] at h
    have : (n.natAbs : Int) = n := Int.natAbs_of_nonneg (by omega)
    omega

/-- below reduces a number. -/
theorem below_any (x n : Int) (hx : I64 x) (hn : 0 < n) (hn2 : n ≤ 4611686018427387904) (w : World) :
    Calls Tryd.prog 23 #[.int .i64 x, .int .i64 n] w fun e w' => e = .returned (.int .i64 (x % n)) ∧ w = w' := by
  obtain ⟨hx1, hx2⟩ := hx
  have h1 : -n < x.tmod n ∧ x.tmod n < n := ⟨by
    have := Int.lt_tmod_of_pos x hn
    omega, Int.tmod_lt_of_pos x hn⟩
  by_cases hneg : x.tmod n < 0
  · have e1 : x.tmod n + n = x % n := tmod_neg_add x n hn hneg
    have E1 := Lib.hid e1
    clear e1
    go_enter Tryd.func23, Tryd.ntmps23
    go_wp2
    go_ret
    exact ⟨by rw [← E1.out]; rfl, rfl⟩
  · have e1 : x.tmod n = x % n := tmod_nonneg_eq x n hn (by omega)
    have E1 := Lib.hid e1
    clear e1
    go_enter Tryd.func23, Tryd.ntmps23
    go_wp2
    go_ret
    exact ⟨by rw [← E1.out]; rfl, rfl⟩

/-- few: every number reduced to 0 to 16. -/
theorem few_any {R : Nat → Prop} (A : Option Addr) (c : Nat) (xs : List Int) (w : World) (hs : Sl w R A (i64s xs)) (hx : I64s xs) (hlen : xs.length < 2 ^ 31) :
    Calls Tryd.prog 16 #[.slice A xs.length c] w fun e w' => ∃ A' c', e = .returned (.slice A' xs.length c') ∧ w'.ownsRow w.heap.size 3 1 (.slice A' xs.length c') xs.length (nats (xs.map fun x => (x % 17).toNat)) ∧ Kept w w' := by
  go_enter Tryd.func16, Tryd.ntmps16
  go_wp2
  go_loopg [3, 8] (xs.length + 1) (fun g v i wr => ∃ k : Nat, xs.length - k < g ∧ k ≤ xs.length ∧ i = .int .i64 k ∧ (∃ A' c', v = .slice A' k c') ∧ wr.ownsRow w.heap.size 3 1 v k (nats ((xs.map fun x => (x % 17).toNat).take k)) ∧ Kept w wr)
  case atStart => exact ⟨0, by omega, by omega, rfl, ⟨_, _, rfl⟩, by simpa [nats] using World.ownsRow_nil _ _ _ _, Keep.refl _ _⟩
  case round =>
    obtain ⟨k, q1, q2, rfl, ⟨A', c', rfl⟩, qo, qk⟩ := hrel
    by_cases hlt : k < xs.length
    · obtain ⟨g, o, x, hR, rfl, hcx, hxk⟩ := (hs.kept qk).i64 hlt
      have hx1 : I64 x := hx x (List.mem_of_getElem? hxk.out)
      go_wp2_with (first
        | (go_at_call 23; refine (below_any x 17 hx1 (by decide) (by decide) _).mono ?_; rintro e w' ⟨rfl, rfl⟩)
        | (at_builtin; refine wpList_push rfl _ _ rfl el23 qk A' k c' _ rfl qo [.int .i64 (x % 17)] rfl rfl (by simp [Value.oneCell']) (by omega) ?_; intro A2 c2 w2 hown2 hk2 _))
      go_wp2
      go_roundg (xs.length - k)
      case measure => exact q1
      case rel => 
        refine ⟨k + 1, by omega, by omega, rfl, ⟨A2, c2, rfl⟩, ?_, ?_⟩
        · rw [take_push (x := (x % 17).toNat) (by simp [hxk.out]), nats, List.map_append, List.map_cons, Int.toNat_of_nonneg (Int.emod_nonneg x (by decide))]; exact hown2
        · exact hk2
    · go_wp2
      go_ret
      obtain rfl : k = xs.length := by omega
      refine ⟨A', c', rfl, ?_, qk⟩
      rwa [List.take_of_length_le (by simp)] at qo


/-- sum of numbers that are at most 16. -/
theorem sum_any {R : Nat → Prop} (A : Option Addr) (c : Nat) (ns : List Nat) (w : World) (hs : Sl w R A (nats ns)) (hn : ∀ x ∈ ns, x ≤ 16) (hlen : ns.length < 2 ^ 31) :
    Calls Tryd.prog 19 #[.slice A ns.length c] w fun e w' => e = .returned (.int .i64 (ns.sum : Nat)) ∧ w = w' := by
  have hb : ∀ k, (ns.take k).sum ≤ 16 * k := by
    intro k
    induction k with
    | zero => simp
    | succ k ih =>
      by_cases hk : k < ns.length
      · rw [take_push (List.getElem?_eq_getElem hk), List.sum_append]
        have := hn _ (List.getElem_mem hk)
        simp; omega
      · rw [List.take_of_length_le (by omega)] at ih ⊢; omega
  have Hb := Lib.hid hb
  clear hb
  go_enter Tryd.func19, Tryd.ntmps19
  go_wp2
  go_loopg [3, 8] (ns.length + 1) (fun g v i wr => ∃ k : Nat, ns.length - k < g ∧ k ≤ ns.length ∧ i = .int .i64 k ∧ v = .int .i64 ((ns.take k).sum : Nat) ∧ w = wr)
  case atStart => exact ⟨0, by omega, by omega, rfl, rfl, rfl⟩
  case round =>
    obtain ⟨k, q1, q2, rfl, rfl, rfl⟩ := hrel
    have hbk := Hb.out k
    by_cases hlt : k < ns.length
    · obtain ⟨g, o, x, hR, rfl, hcx, hxk⟩ := hs.nat hlt
      have hx1 := hn x (List.mem_of_getElem? hxk.out)
      obtain ⟨S, hS⟩ : ∃ S, S = (ns.take k).sum := ⟨_, rfl⟩
      rw [← hS] at hbk ⊢
      have HS := Lib.hid hS
      clear hS
      go_wp2
      go_roundg (ns.length - k)
      case measure => exact q1
      case rel =>
        refine ⟨k + 1, by omega, by omega, rfl, ?_, rfl⟩
        rw [take_push hxk.out, List.sum_append, ← HS.out]
        simp
    · obtain rfl : k = ns.length := by omega
      go_wp2
      go_ret
      exact ⟨by simp [List.take_length], rfl⟩

/-- numbersAre tells whether the numbers are equal. -/
theorem numbersAre_any {R R' : Nat → Prop} (A A' : Option Addr) (c c' : Nat) (us bs : List Nat) (w : World) (hs : Sl w R A (u32s us)) (hs' : Sl w R' A' (nats bs)) (ha : ∀ x ∈ us, x < 2 ^ 32) (hlen : us.length < 2 ^ 31) (hlen' : bs.length < 2 ^ 31) :
    Calls Tryd.prog 20 #[.slice A us.length c, .slice A' bs.length c'] w fun e w' => e = .returned (.bool (decide (us = bs))) ∧ Kept w w' := by
  by_cases hl : us.length = bs.length
  · have hl1 : ((us.length : Int) == (bs.length : Int)) = true := by simp [hl]
    have hl2 : ((us.length : Int) != (bs.length : Int)) = false := by simp [hl]
    have Hl := Lib.hid hl
    have hle : us.length ≤ bs.length := by omega
    clear hl
    go_enter Tryd.func20, Tryd.ntmps20
    go_wp2
    go_loopg [13] (us.length + 1) (fun g i wr => ∃ k : Nat, us.length - k < g ∧ k ≤ us.length ∧ i = .int .i64 k ∧ us.take k = bs.take k ∧ Kept w wr)
    case atStart => exact ⟨0, by omega, by omega, rfl, rfl, Keep.refl _ _⟩
    case round =>
      obtain ⟨k, q1, q2, rfl, q3, qk⟩ := hrel
      have Q3 := Lib.hid q3
      clear q3
      by_cases hlt : k < us.length
      · obtain ⟨g, o, x, hR, rfl, hcx, hxk⟩ := (hs.kept qk).u32 hlt
        obtain ⟨g', o', y, hR', rfl, hcy, hyk⟩ := (hs'.kept qk).nat (k := k) (by omega)
        have hx1 := ha x (List.mem_of_getElem? hxk.out)
        by_cases hxy : x = y
        · subst hxy
          go_wp2
          go_quiet (fail)
          go_wp2
          go_roundg (us.length - k)
          case measure => exact q1
          case rel =>
            refine ⟨k + 1, by omega, by omega, rfl, ?_, qk.drewN _⟩
            rw [take_push hxk.out, take_push hyk.out, Q3.out]
        · have hxy1 : ((x : Int) != (y : Int)) = true := by rw [bne_iff_ne]; omega
          have hne : us ≠ bs := by
            rintro rfl
            have h1 := hxk.out; have h2 := hyk.out
            rw [h1] at h2
            exact hxy (Option.some.inj h2)
          have Hne := Lib.hid hne
          clear hne hxy
          go_wp2
          go_quiet (fail)
          go_wp2
          go_ret
          exact ⟨by rw [decide_eq_false Hne.out]; rfl, qk.drewN _⟩
      · go_wp2
        go_ret
        have h1 : us = bs := by
          have := Q3.out
          rw [List.take_of_length_le (by omega), List.take_of_length_le (by have := Hl.out; omega)] at this
          exact this
        exact ⟨by rw [decide_eq_true h1]; rfl, qk⟩
  · have hl1 : ((us.length : Int) == (bs.length : Int)) = false := by simp; omega
    have hl2 : ((us.length : Int) != (bs.length : Int)) = true := by simp; omega
    have hne : us ≠ bs := fun h => hl (h ▸ rfl)
    have Hne := Lib.hid hne
    clear hne
    go_enter Tryd.func20, Tryd.ntmps20
    go_wp2
    go_ret
    exact ⟨by rw [decide_eq_false Hne.out]; rfl, Keep.refl _ _⟩
end Go.Proofs.YtabaholflahepaaDoor
