/-
  The walk of laws.FnBack: it returns true, and nothing that was there has turned.
-/
import Derived.Test.YtabaholflahepaaDoorFnLow
import Derived.Test.YtabaholflahepaaDoorImplBack
namespace Go.Proofs.YtabaholflahepaaDoor
open Go.RowKit

theorem implBack_no {B : Nat} {R : Nat → Prop} (A : Option Addr) (c : Nat) (v : Value) (ds : List Nat) (w : World) (hs : Sl w R A (u8s ds)) (h : NoMark ds) (hlen : ds.length < 2 ^ 27) (he : Errs B w) :
    Calls Tryd.prog 22 #[.slice A ds.length c, v] w fun e w' => e = .returned (.tuple #[.slice none 0 0, .bool false]) ∧ Kept w w' := by
  refine implBack ?_ (by rintro e w' ⟨rfl, _⟩; exact ⟨_, _, rfl⟩)
  rcases h with rfl | h
  · exact (zzBack_none A c v w).mono fun e w' h => ⟨h.1, h.2 ▸ Keep.refl _ _⟩
  · exact zzBack_zero A c v ds w hs h hlen he

set_option maxHeartbeats 1000000 in
theorem fnBack_walk (A A' : Option Addr) (c c' : Nat) (ds : List Nat) (xs : List Int) (w : World) (hs : Sl w (· < w.heap.size) A (u8s ds)) (hs' : Sl w (· < w.heap.size) A' (i64s xs)) (hd : Bytes ds) (hx : I64s xs)
    (he : Errs w.heap.size w) (hm : ds.length ≤ 9223372036854775807) (hm' : xs.length ≤ 9223372036854775807) :
    Calls Tryd.prog 4 #[.slice A ds.length c, .slice A' xs.length c'] w fun e w' => e = .returned (.bool true) ∧ Kept w w' := by
  by_cases g1 : 2147483647 < ds.length
  · go_enter Tryd.func4, Tryd.ntmps4
    go_wp2_with fail
    go_ret
    exact ⟨rfl, Keep.refl _ _⟩
  by_cases g2 : 2147483647 < xs.length
  · go_enter Tryd.func4, Tryd.ntmps4
    go_wp2_with fail
    go_ret
    exact ⟨rfl, Keep.refl _ _⟩
  by_cases g3 : 1048576 < ds.length
  · go_enter Tryd.func4, Tryd.ntmps4
    go_wp2_with fail
    go_ret
    exact ⟨rfl, Keep.refl _ _⟩
  obtain ⟨ns, hns⟩ : ∃ ns, ns = fewOf xs := ⟨_, rfl⟩
  have hn : ∀ n ∈ ns, n ≤ 16 := hns ▸ fewOf_le xs
  have hl : ns.length = xs.length := by rw [hns, fewOf_length]
  have hfew := few_any (R := (· < w.heap.size)) A' c' xs w hs' hx (by omega)
  rw [show (xs.map fun x => (x % 17).toNat) = ns from hns.symm, ← hl] at hfew
  have hl2 : ns.length ≤ 2147483647 := by omega
  rw [← hl] at g2 hm' ⊢
  have Hf := Lib.hid hfew
  clear hfew hl hns hs' hx
  rcases mark_or hd with hno | ⟨x, m, hmk⟩
  · have Hno := Lib.hid hno
    clear hno
    go_enter Tryd.func4, Tryd.ntmps4
    go_wp2_with (first
      | (go_at_call 16; refine Hf.out.mono ?_; rintro e w1 ⟨A1, c1, rfl, ho1, hk1⟩; have hs1 : Sl w1 (· < w1.heap.size) A (u8s ds) := (hs.kept hk1).mono (fun k hk => Nat.lt_of_lt_of_le hk hk1.size); have he1 := he.kept hk1)
      | (go_at_call 21; refine (specBack_no A A1 c c1 ds ns w1 hs1 Hno.out (by omega)).mono ?_; rintro e w2 ⟨rfl, rfl⟩)
      | (go_at_call 22; refine (implBack_no A c _ ds w1 hs1 Hno.out (by omega) he1).mono ?_; rintro e w3 ⟨rfl, hk3⟩))
    go_ret
    exact ⟨rfl, hk1.trans hk3⟩
  by_cases hgo : ns.sum ≤ 8 * (ds.length - 1) + m
  · have hlt := backs_lt (num ds) ns ((8 * (ds.length - 1 : Nat) + m : Nat) : Int) hn
    have hbl := backs_length (num ds) ns ((8 * (ds.length - 1 : Nat) + m : Nat) : Int)
    have hdec : decide (ns.sum ≤ 8 * (ds.length - 1) + m) = true := decide_eq_true hgo
    obtain ⟨bs, hbs⟩ : ∃ bs, bs = backs (num ds) ((8 * (ds.length - 1 : Nat) + m : Nat) : Int) ns := ⟨_, rfl⟩
    rw [← hbs] at hlt hbl
    have Hbs := Lib.hid hbs
    have Hdec := Lib.hid hdec
    have Hgo := Lib.hid hgo
    have Hlt := Lib.hid hlt
    have Hbl := Lib.hid hbl
    have Hmk := Lib.hid hmk
    clear hbs hdec hgo hlt hbl hmk
    go_enter Tryd.func4, Tryd.ntmps4
    go_wp2_with (first
      | (go_at_call 16; refine Hf.out.mono ?_; rintro e w1 ⟨A1, c1, rfl, ho1, hk1⟩; have hs1 : Sl w1 (· < w1.heap.size) A (u8s ds) := (hs.kept hk1).mono (fun k hk => Nat.lt_of_lt_of_le hk hk1.size); have hn1 : Sl w1 (· < w1.heap.size) A1 (nats ns) := (Sl.of_own ho1).mono (fun k hk => hk.2))
      | (go_at_call 21; refine (specBack_any A A1 c c1 ds ns x m w1 hs1 hn1 Hmk.out hd hn (by omega) (by omega)).mono ?_; rintro e w2 ⟨A2, c2, rfl, ho2, hk2⟩; rw [← Hbs.out] at ho2; rw [Hdec.out])
      | (go_at_call 22; refine (implBack (zzBack_ok A A1 c c1 ds ns x m w2 (hs1.kept hk2) (hn1.kept hk2) Hmk.out hd hn (by omega) (by omega) Hgo.out) (by rintro e w' ⟨_, _, rfl, _⟩; exact ⟨_, _, rfl⟩)).mono ?_; rintro e w3 ⟨A3, c3, rfl, ho3, hk3⟩; rw [← Hbs.out] at ho3)
      | (go_at_call 20; refine (numbersAre_same A3 A2 ns.length c3 c2 bs Hbl.out w3 (Sl.of_own ho3) ((Sl.of_own ho2).kept hk3) Hlt.out (by omega)).mono ?_; rintro e w4 ⟨rfl, hk4⟩))
    go_ret
    exact ⟨by simp, ((hk1.trans hk2).trans hk3).trans hk4⟩
  · have hdec : decide (ns.sum ≤ 8 * (ds.length - 1) + m) = false := decide_eq_false hgo
    have Hdec := Lib.hid hdec
    have Hgo := Lib.hid hgo
    have Hmk := Lib.hid hmk
    clear hdec hgo hmk
    go_enter Tryd.func4, Tryd.ntmps4
    go_wp2_with (first
      | (go_at_call 16; refine Hf.out.mono ?_; rintro e w1 ⟨A1, c1, rfl, ho1, hk1⟩; have hs1 : Sl w1 (· < w1.heap.size) A (u8s ds) := (hs.kept hk1).mono (fun k hk => Nat.lt_of_lt_of_le hk hk1.size); have hn1 : Sl w1 (· < w1.heap.size) A1 (nats ns) := (Sl.of_own ho1).mono (fun k hk => hk.2))
      | (go_at_call 21; refine (specBack_any A A1 c c1 ds ns x m w1 hs1 hn1 Hmk.out hd hn (by omega) (by omega)).mono ?_; rintro e w2 ⟨A2, c2, rfl, ho2, hk2⟩; rw [Hdec.out]))
    refine (implBack (zzBack_bad A A1 c c1 ds ns x m w2 (hs1.kept hk2) (hn1.kept hk2) Hmk.out hd hn (by omega) (by omega) (by have := Hgo.out; omega) (he.kept (hk1.trans hk2))) (by rintro e w' ⟨_, _, _, rfl, _⟩; exact ⟨_, _, rfl⟩)).mono ?_
    rintro e w3 ⟨A3, n3, c3, rfl, hk3⟩
    go_wp2
    go_ret
    exact ⟨rfl, (hk1.trans hk2).trans hk3⟩
end Go.Proofs.YtabaholflahepaaDoor
