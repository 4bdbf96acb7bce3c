/-
  Contracts of (*lowBits).add, spec.shareBytes, spec.Told.
-/
import Derived.Test.YtabaholflahepaaDoorBitsP
import Derived.Test.YtabaholflahepaaDoorCells
import Derived.Test.YtabaholflahepaaDoorCopies
import Derived.Test.YtabaholflahepaaDoorShares
import Derived.Test.YtabaholflahepaaDoorLow
namespace Go.Proofs.YtabaholflahepaaDoor
open Go.RowKit

def bools (l : List Bool) : List Value := l.map Value.bool
@[simp] theorem bools_length (l : List Bool) : (bools l).length = l.length := by simp [bools]
theorem bools_push (l : List Bool) (x : Bool) : bools (l ++ [x]) = bools l ++ [.bool x] := by simp [bools]
theorem elBool : El Tryd.prog 46 4 (.bool false) 1 1 := ⟨Tryd.underlying46, by kernel_rfl, rfl, by decide, by decide⟩
theorem elByte : El Tryd.prog 22 5 (.int .u8 0) 1 1 := ⟨Tryd.underlying22, by kernel_rfl, rfl, by decide, by decide⟩

/-- Bits under way, in the block b. -/
def LB (w : World) (b base k : Nat) (bs : List Bool) : Prop := ∃ A c, Blk w b 190 [.slice A k c] ∧ k = bs.length ∧ w.ownsRow base 4 1 (.slice A k c) k (bools bs)
theorem LB.drewN {w : World} {b base k : Nat} {bs : List Bool} (h : LB w b base k bs) (n : Nat) : LB (w.drewN n) b base k bs := h

theorem own_of_blk {w : World} {g n base : Nat} {e : TypeId} {vs : List Value} (h : Blk w g e vs) (hb : base ≤ g) (hn : vs.length = n) (hm : n ≤ maxLen) : w.ownsRow base e 1 (.slice (some ⟨g, 0, none⟩) n n) n vs := by
  refine ⟨by omega, .inr ⟨g, n, vs.toArray, rfl, hb, h, Nat.le_refl _, hm, by simpa using hn, ?_⟩⟩
  rw [Nat.mul_one, ← hn]
  simp

set_option maxHeartbeats 1000000 in
theorem lbAdd_any (b base v n k0 : Nat) (bs : List Bool) (w : World) (h : LB w b base k0 bs) (hbb : base ≤ b) (hn : n ≤ 16) (hv : v < 1099511627776) (hl : k0 ≤ 1073741824) :
    Calls Tryd.prog 82 #[.pointer (some ⟨b, 0, none⟩), .int .i64 v, .int .i64 n] w fun e w' => e = .returned (.tuple #[]) ∧ LB w' b base (k0 + n) (bs ++ loBits v n) ∧ Keep (base ≤ ·) w w' := by
  obtain ⟨A0, c0, hb0, hk0, ho0⟩ := h
  have Hk0 := Lib.hid hk0
  clear hk0
  go_enter Tryd.func82, Tryd.ntmps82
  go_wp2
  go_loopg [8] (n + 1) (fun g s8 wr => ∃ (i k : Nat) (A : Option Addr) (c : Nat), n - i < g ∧ i ≤ n ∧ s8 = .int .i64 i ∧ k ≤ 1073741840 ∧ Hid (k = k0 + i) ∧ Blk wr b 190 [.slice A k c] ∧ wr.ownsRow base 4 1 (.slice A k c) k (bools (bs ++ loBits v i)) ∧ Keep (base ≤ ·) w wr)
  case atStart => exact ⟨0, k0, A0, c0, by omega, by omega, rfl, by omega, rfl, hb0, by simpa [loBits] using ho0, Keep.refl _ _⟩
  case round =>
    clear hb0 ho0
    obtain ⟨i, k, A, c, q1, q2, rfl, q3, q4, qb, qo, qk⟩ := hrel
    by_cases hlt : i < n
    · obtain ⟨d, hd⟩ : ∃ d, d = v / 2 ^ i % 2 := ⟨_, rfl⟩
      obtain ⟨q, hq⟩ : ∃ q, q = v / 2 ^ i := ⟨_, rfl⟩
      have hqi : (v : Int) / 2 ^ i = (q : Int) := by rw [hq, cast_div_pow]
      have hand : Go.bits .and .i64 (q : Int) 1 = (d : Int) := by
        rw [show (1 : Int) = ((1 : Nat) : Int) from rfl, i64_and_nat q 1 (by rw [hq]; have := Nat.div_le_self v (2 ^ i); omega) (by decide), show (1 : Nat) = 2 ^ 1 - 1 by decide, and_mask, hd, hq]
      obtain ⟨x, hx⟩ : ∃ x, x = (d == 1) := ⟨_, rfl⟩
      have hx1 : ((d : Int) == 1) = x := by rw [hx, Bool.eq_iff_iff]; simp only [beq_iff_eq]; omega
      have hx2 : decide ((d : Int) = 1) = x := by rw [hx, Bool.eq_iff_iff]; simp only [beq_iff_eq, decide_eq_true_eq]; omega
      have hx3 : decide (d = 1) = x := by rw [hx, Bool.eq_iff_iff]; simp only [beq_iff_eq, decide_eq_true_eq]
      have hpush : bs ++ loBits v (i + 1) = (bs ++ loBits v i) ++ [x] := by rw [loBits_succ, List.append_assoc, hx, hd]
      have c0 : wr.cell? ⟨b, 0, none⟩ = some (.slice A k c) := qb.cell 0
      have f0 := qb.frozen 0
      have hne := own_ne qo qb (by decide)
      have hbl := qb.lt
      have Hpush := Lib.hid hpush
      clear hd hq hx hpush
      go_wp2
      go_region_law (refine step_app rfl _ _ rfl elBool base _ k _ rfl (own_drew (qo.alloc _)) 1 [.bool x] (src_blk Tryd.underlying46 (Blk.new _ 4 [.bool x]).drew 1 1 (by simp) (by simp [Value.oneCell'])) (by unfold maxLen; omega) (by omega) (by simp; omega) ?_; intro A2 c2 w2 ho2 hg2 hor; have qb2 := blk_grown (qb.alloc _).drew hg2 hne; have d0 : w2.cell? ⟨b, 0, none⟩ = some (.slice A k c) := qb2.cell 0; have e0 := qb2.frozen 0)
      all_goals
        go_wp2
        go_roundg (n - i)
        case measure => exact q1
        case rel =>
          have hk2 : Keep (base ≤ ·) wr w2 := ((Keep.refl _ _).alloc _).drew.grown hg2 (fun j hj => .inl (qo.lt j hj).1)
          have hne2 := own_ne ho2 qb2 (by decide)
          refine ⟨i + 1, k + 1, A2, c2, by omega, by omega, rfl, by have := q4.out; omega, by show _ = _; rw [q4.out, Nat.add_assoc], qb2.set 0 _, ?_, (qk.trans hk2).set (p := ⟨b, 0, none⟩) (.inl hbb) _⟩
          rw [Hpush.out, bools_push]
          exact own_keep ho2 ((Keep.refl (· = b) w2).set (p := ⟨b, 0, none⟩) (.inl rfl) _) (fun g hg h => hne2 (h ▸ hg))
    · obtain rfl : i = n := by omega
      go_wp2
      go_end0
      refine ⟨rfl, ⟨A, c, by rw [← q4.out]; exact qb, ?_, by rw [← q4.out]; exact qo⟩, qk⟩
      rw [List.length_append, loBits_length, Hk0.out]
end Go.Proofs.YtabaholflahepaaDoor
