/-
  Contract of spec.treeBy.
-/
import Derived.Test.YtabaholflahepaaDoorTwo
namespace Go.Proofs.YtabaholflahepaaDoor
open Go.RowKit

set_option maxHeartbeats 4000000 in
set_option maxRecDepth 4000 in
theorem treeBy_any {R : Nat → Prop} (A : Option Addr) (n c : Nat) (ws : List Nat) (hn : n = ws.length) (w : World) (hs : Sl w R A (nats ws)) (hw : ∀ x ∈ ws, x < 256) (hl : ws.length ≤ 256) :
    Calls Tryd.prog 86 #[.slice A n c] w fun e w' => Kept w w' ∧ ((∃ al most b, treeP ws = some (al, most) ∧ e = .returned (.tuple #[.pointer (some ⟨b, 0, none⟩), .bool true]) ∧ w.heap.size ≤ b ∧ ∃ n, TreeAt w' b w.heap.size most n (rowsTo al most most)) ∨
      (treeP ws = none ∧ e = .returned (.tuple #[.pointer none, .bool false]))) := by
  have hn256 : n ≤ 256 := by omega
  have Hn := Lib.hid hn
  have Hw := Lib.hid hw
  clear hn hw hl
  go_enter Tryd.func86, Tryd.ntmps86
  go_wp2
  go_loopg [4, 16] (n + 1) (fun g s4 s16 wr => ∃ k s : Nat, n - k < g ∧ k ≤ n ∧ s4 = .int .i64 s ∧ s16 = .int .i64 k ∧ s ≤ 2048 * k ∧ Hid (s = wsum (ws.take k)) ∧ Hid (∀ x ∈ ws.take k, x ≤ 11) ∧ w = wr)
  case atStart => exact ⟨0, 0, by omega, by omega, rfl, rfl, by omega, rfl, (fun x hx => by cases hx), rfl⟩
  case round =>
    obtain ⟨k, s, q1, q2, rfl, rfl, q3, q4, q5, rfl⟩ := hrel
    by_cases hlt : k < n
    · obtain ⟨g, o, x, _, rfl, hcx, hxk⟩ := hs.nat (show k < ws.length by rw [← Hn.out]; exact hlt)
      have hx256 := Hw.out x (List.mem_of_getElem? hxk.out)
      by_cases h11 : 11 < x
      · have hno : treeP ws = none := by
          unfold treeP
          rw [if_pos (.inl ⟨x, List.mem_of_getElem? hxk.out, h11⟩)]
        have Hno := Lib.hid hno
        clear hno
        go_wp2
        go_ret2
        exact ⟨Keep.refl _ _, .inr ⟨Hno.out, rfl⟩⟩
      · have hpush := wsum_push hxk.out
        rw [← q4.out] at hpush
        have hall : ∀ y ∈ ws.take (k + 1), y ≤ 11 := by
          intro y hy
          rw [take_push hxk.out] at hy
          rcases List.mem_append.1 hy with hy | hy
          · exact q5.out y hy
          · simp only [List.mem_singleton] at hy; omega
        have Hpush := Lib.hid hpush
        have Hall := Lib.hid hall
        clear hpush hall
        rcases Nat.eq_zero_or_pos x with h0 | h0
        · subst h0
          go_wp2
          go_roundg (n - k)
          case measure => exact q1
          case rel => exact ⟨k + 1, s, by omega, by omega, rfl, rfl, by omega, (by show _ = _; rw [Hpush.out, wc_zero]; rfl), Hall.out, rfl⟩
        · obtain ⟨v, rfl⟩ : ∃ v, x = v + 1 := ⟨x - 1, by omega⟩
          obtain ⟨p, hp⟩ : ∃ p, p = 2 ^ v := ⟨_, rfl⟩
          have hpi : (2 : Int) ^ v = (p : Int) := by rw [two_pow_int, hp]
          have hp10 : p ≤ 1024 := by rw [hp]; exact Nat.pow_le_pow_right (by decide) (show v ≤ 10 by omega)
          have Hp := Lib.hid hp
          clear hp
          go_wp2
          go_roundg (n - k)
          case measure => exact q1
          case rel => exact ⟨k + 1, s + p, by omega, by omega, rfl, rfl, by omega, (by show _ = _; rw [Hpush.out, wc_succ, ← Hp.out]), Hall.out, rfl⟩
    · obtain rfl : k = n := by omega
      rw [List.take_of_length_le (by rw [← Hn.out]; exact Nat.le_refl _)] at q4 q5
      by_cases hs0 : s = 0
      · have hno : treeP ws = none := by
          unfold treeP
          rw [if_pos (.inr (.inl (by rw [← q4.out]; exact hs0)))]
        have Hno := Lib.hid hno
        subst hs0
        clear hno
        go_wp2
        go_ret2
        exact ⟨Keep.refl _ _, .inr ⟨Hno.out, rfl⟩⟩
      · obtain ⟨M, hM⟩ : ∃ M, M = mostW ws := ⟨_, rfl⟩
        obtain ⟨rs, hrs⟩ : ∃ x, x = restW ws := ⟨_, rfl⟩
        obtain ⟨P, hP⟩ : ∃ P, P = 2 ^ M := ⟨_, rfl⟩
        have hws0 : wsum ws ≠ 0 := by rw [← q4.out]; exact hs0
        have hlow := mostW_low hws0
        rw [← hM, ← q4.out] at hlow
        have hrp := restW_pos hws0
        rw [← hrs] at hrp
        have hM20 := mostW_le (fun x hx => Nat.le_succ_of_le (q5.out x hx)) (by rw [← Hn.out]; exact hn256)
        rw [← hM] at hM20
        have hrsP : s + rs = P := by rw [hrs, restW, ← hM, ← hP, ← q4.out]; have := hlow.2; omega
        have hM1 : 1 ≤ M := by rw [hM]; unfold mostW; omega
        have hP20 : P ≤ 1048576 := by rw [hP]; exact Nat.pow_le_pow_right (by decide) hM20
        have hPi : (2 : Int) ^ M = (P : Int) := by rw [two_pow_int, hP]
        have HM := Lib.hid hM
        have Hrs := Lib.hid hrs
        have HP := Lib.hid hP
        have Hlow := Lib.hid hlow
        have hsb : ((s : Int) == 0) = false := beq_eq_false_iff_ne.2 (by omega)
        clear hM hrs hP hlow hws0
        go_wp2
        go_loopg [7] (M + 1) (fun g s7 wr => ∃ m : Nat, M - m < g ∧ 1 ≤ m ∧ m ≤ M ∧ s7 = .int .i64 m ∧ w = wr)
        case atStart => exact ⟨1, by omega, by omega, hM1, rfl, rfl⟩
        case round =>
          obtain ⟨m, r1, r2, r3, rfl, rfl⟩ := hrel
          by_cases hm : m < M
          · obtain ⟨p, hp⟩ : ∃ p, p = 2 ^ m := ⟨_, rfl⟩
            have hpi : (2 : Int) ^ m = (p : Int) := by rw [two_pow_int, hp]
            have hps : p ≤ s := by
              have h1 : p ≤ 2 ^ (M - 1) := by rw [hp]; exact Nat.pow_le_pow_right (by decide) (by omega)
              exact Nat.le_trans h1 Hlow.out.1
            clear hp
            go_wp2
            go_roundg (M - m)
            case measure => exact r1
            case rel => exact ⟨m + 1, by omega, by omega, by omega, rfl, rfl⟩
          · obtain rfl : m = M := by omega
            have hPs : s < P := by rw [HP.out]; exact Hlow.out.2
            have hPd : decide ((P : Int) ≤ (s : Int)) = false := decide_eq_false (by omega)
            have hPn : decide (P ≤ s) = false := decide_eq_false (by omega)
            obtain ⟨U, hU⟩ : ∃ U, U = upLog rs := ⟨_, rfl⟩
            have hU20 : U ≤ 20 := by
              have h1 : U ≤ Nat.log2 rs + 1 := by rw [hU]; unfold upLog; split <;> omega
              have h2 : 2 ^ Nat.log2 rs < 2 ^ 20 := Nat.lt_of_le_of_lt (Nat.log2_self_le (by omega)) (by omega)
              have := (Nat.pow_lt_pow_iff_right (a := 2) (by decide)).1 h2
              omega
            have HU := Lib.hid hU
            clear hU
            go_wp2
            go_loopg [8] (U + 2) (fun g s8 wr => ∃ l mw : Nat, U - l < g ∧ l ≤ U ∧ s8 = .int .i64 ((l : Int) + 1) ∧ wr = w.drewN mw)
            case atStart => exact ⟨0, 0, by omega, by omega, rfl, rfl⟩
            case round =>
              obtain ⟨l, mw, t1, t2, rfl, rfl⟩ := hrel
              obtain ⟨p, hp⟩ : ∃ p, p = 2 ^ l := ⟨_, rfl⟩
              have hpi : (2 : Int) ^ l = (p : Int) := by rw [two_pow_int, hp]
              have hp20 : p ≤ 1048576 := by rw [hp]; exact Nat.pow_le_pow_right (by decide) (show l ≤ 20 by omega)
              have hcmp : p < rs ↔ l < U := by rw [hp, HU.out]; exact upLog_lt (by omega)
              have hw1 : IntKind.i64.wrap ((l : Int) + 1 - 1) = (l : Int) := by rw [IntKind.wrap_i64]; omega
              have hw2 : IntKind.i64.wrap ((P : Int) - (s : Int)) = (rs : Int) := by rw [IntKind.wrap_i64]; omega
              have hl0 : (0 : Int) ≤ (l : Int) := by omega
              have Hp := Lib.hid hp
              clear hp
              go_wp2
              go_quiet (fail)
              by_cases hlU : l < U
              · go_wp2
                go_roundg (U - l)
                case measure => exact t1
                case rel => exact ⟨l + 1, mw + nq, by omega, by omega, rfl, rfl⟩
              · obtain rfl : l = U := by omega
                clear hcmp
                rw [World.drewN_drewN]
                generalize mw + nq = mz
                by_cases hM11 : 11 < m
                · have hb1 : decide ((m : Int) > 11) = true := decide_eq_true (by omega)
                  have hb2 : decide ((11 : Int) < (m : Int)) = true := decide_eq_true (by omega)
                  have hb3 : decide (11 < m) = true := decide_eq_true hM11
                  have hno : treeP ws = none := by
                    unfold treeP
                    rw [if_pos (.inr (.inr (.inl (by rw [← HM.out]; exact hM11))))]
                  have Hno := Lib.hid hno
                  clear hno
                  go_wp2
                  go_quiet (fail)
                  go_wp2
                  go_ret2
                  exact ⟨((Keep.refl _ _).drewN _).drewN _, .inr ⟨Hno.out, rfl⟩⟩
                · have hb1 : decide ((m : Int) > 11) = false := decide_eq_false (by omega)
                  have hb2 : decide ((11 : Int) < (m : Int)) = false := decide_eq_false (by omega)
                  have hb3 : decide (11 < m) = false := decide_eq_false hM11
                  by_cases hpr : p = rs
                  · have hpow : 2 ^ Nat.log2 rs = rs := by
                      have := hpr
                      rw [Hp.out, HU.out] at this
                      exact upLog_eq.1 this
                    have hUl : l = Nat.log2 rs := by rw [HU.out, upLog, if_pos hpow]
                    have htr : treeP ws = some (ws ++ [l + 1], m) := by
                      unfold treeP
                      rw [← Hrs.out, ← HM.out, if_neg, ← hUl]
                      rintro (⟨x, hx, h⟩ | h | h | h)
                      · have := q5.out x hx; omega
                      · rw [← q4.out] at h; exact hs0 h
                      · exact hM11 h
                      · exact h hpow
                    have hts := treeP_some htr
                    have Htr := Lib.hid htr
                    have Hts := Lib.hid hts
                    subst hpr
                    clear hpow hUl htr hts
                    have hpe : ((p : Int) != (p : Int)) = false := by simp
                    go_wp2
                    go_quiet (fail)
                    generalize hWq : (w.drewN mz).drewN nq = wq
                    have hkq : Kept w wq := by rw [← hWq]; exact ((Keep.refl _ _).drewN _).drewN _
                    clear hWq
                    have hsq := hs.kept hkq
                    have h1V := Lib.hid (nats_one ws)
                    have hnl : (nats ws).length = k * 1 := by rw [nats_length, Hn.out, Nat.mul_one]
                    have Hnl := Lib.hid hnl
                    clear hnl
                    go_wp2_with (first
                      | (at_builtin; refine wpList_push rfl _ _ rfl elInt hk1 A1 k c1 (nats ws) rfl ho1 [.int .i64 ((l : Int) + 1)] rfl rfl (by simp [Value.oneCell']) (by omega) ?_; intro A2 c2 w2 ho2 hk2 hg2)
                      | (at_builtin; refine wpList_append rfl _ _ rfl elInt hkq none 0 0 [] rfl (World.ownsRow_nil _ _ _ _) k (nats ws) _ rfl (src_sl Tryd.underlying23 hsq k c Hnl.out h1V.out) (by omega) ?_; intro A1 c1 w1 ho1 hk1 hg1; simp only [Nat.zero_add, List.nil_append] at ho1))
                    obtain ⟨al, hal⟩ : ∃ al, al = ws ++ [l + 1] := ⟨_, rfl⟩
                    have hoa : w2.ownsRow w.heap.size 3 1 (.slice A2 (k + 1) c2) (k + 1) (nats al) := by
                      rw [hal, nats, List.map_append]; exact ho2
                    have hall : al.length = k + 1 := by rw [hal, List.length_append, Hn.out]; rfl
                    obtain ⟨b, hb⟩ : ∃ b, b = w2.heap.size := ⟨_, rfl⟩
                    have hwb : w.heap.size ≤ b := by rw [hb]; exact hk2.size
                    obtain ⟨W, hW⟩ : ∃ W, W = w2.alloc (.cells #[.slice none 0 0, .slice none 0 0, .int .i64 (m : Int)] 135) := ⟨_, rfl⟩
                    have hkW : Kept w W := by rw [hW]; exact hk2.alloc _
                    have hta : TreeAt W b b m 0 [] := ⟨none, 0, none, 0, by rw [hW, hb]; exact Blk.new w2 135 _, rfl, World.ownsRow_nil _ _ _ _, World.ownsRow_nil _ _ _ _, .inl rfl⟩
                    have hsa : Sl W (fun j => w.heap.size ≤ j ∧ j < w2.heap.size) A2 (nats al) := by rw [hW]; exact (Sl.of_own hoa).kept ((Keep.refl _ _).alloc _)
                    rw [← hb, ← hW]
                    rw [← hal] at Htr Hts
                    have Hall := Lib.hid hall
                    have Hb := Lib.hid hb
                    clear hal hall hb hW hoa ho1 ho2 hk1 hk2 hg1 hg2 hsq hkq
                    have hm11 : m ≤ 11 := by omega
                    have hwlen : wsum al = 2 ^ m := Hts.out.2.2.2.2.2.2.1
                    go_loopg [11] (m + 1) (fun g s11 wr => ∃ v n : Nat, m - v < g ∧ v ≤ m ∧ s11 = .int .i64 ((v : Int) + 1) ∧ TreeAt wr b b m n (rowsTo al m v) ∧ Keep (b ≤ ·) W wr)
                    case atStart => exact ⟨0, 0, by omega, by omega, rfl, hta, Keep.refl _ _⟩
                    case round =>
                      clear hta
                      obtain ⟨v, n4, v1, v2, rfl, vt, vk⟩ := hrel
                      by_cases hv : v < m
                      · have hvd : decide ((v : Int) + 1 ≤ (m : Int)) = true := decide_eq_true (by omega)
                        go_wp2
                        go_loopg [75] (k + 2) (fun g s75 wr => ∃ s n : Nat, k + 1 - s < g ∧ s ≤ k + 1 ∧ s75 = .int .i64 s ∧ TreeAt wr b b m n (rowsTo al m v ++ rowsW m (v + 1) (idxs (v + 1) 0 (al.take s))) ∧ Keep (b ≤ ·) W wr)
                        case atStart => exact ⟨0, n4, by omega, by omega, rfl, by simpa [rowsW, idxs] using vt, vk⟩
                        case round =>
                          clear vt vk
                          obtain ⟨s, n5, x1, x2, rfl, xt, xk⟩ := hrel
                          by_cases hsk : s < k + 1
                          · have hsd : decide ((s : Int) < (k : Int) + 1) = true := decide_eq_true (by omega)
                            obtain ⟨g, o, x, _, rfl, hcx, hxk⟩ := (hsa.keep xk (fun j hj hR h => by have := Hb.out; omega)).nat (show s < al.length by rw [Hall.out]; exact hsk)
                            have hpush := idxs_push (v := v + 1) hxk.out
                            by_cases hxv : x = v + 1
                            · subst hxv
                              have hxb : (((v + 1 : Nat) : Int) != (v : Int) + 1) = false := by simp
                              obtain ⟨p2, hp2⟩ : ∃ p2, p2 = 2 ^ v := ⟨_, rfl⟩
                              have hp2i : (2 : Int) ^ v = (p2 : Int) := by rw [two_pow_int, hp2]
                              have hp2l : p2 ≤ 2048 := by rw [hp2]; exact Nat.pow_le_pow_right (by decide) (show v ≤ 11 by omega)
                              rw [if_pos rfl] at hpush
                              have Hpush := Lib.hid hpush
                              have Hp2 := Lib.hid hp2
                              clear hpush hp2
                              go_wp2
                              go_loopg [86] (p2 + 1) (fun g s86 wr => ∃ j n : Nat, p2 - j < g ∧ j ≤ p2 ∧ s86 = .int .i64 j ∧ n ≤ 2048 + j ∧ TreeAt wr b b m n ((rowsTo al m v ++ rowsW m (v + 1) (idxs (v + 1) 0 (al.take s))) ++ List.replicate j (s, m - v)) ∧ Keep (b ≤ ·) W wr)
                              case atStart => exact ⟨0, n5, by omega, by omega, rfl, (by obtain ⟨_, _, _, _, _, e, _⟩ := xt; rw [e]; exact len_bound (s := s) (v := v) hwlen hm11), by simpa using xt, xk⟩
                              case round =>
                                clear xt xk
                                obtain ⟨j, n6, y1, y2, rfl, y3, ⟨A5, c5, A6, c6, yb, yn, yo1, yo2, ya⟩, yk⟩ := hrel
                                by_cases hj : j < p2
                                · have d0 : wr.cell? ⟨b, 0, none⟩ = some (.slice A5 n6 c5) := yb.cell 0
                                  have d1 : wr.cell? ⟨b, 1, none⟩ = some (.slice A6 n6 c6) := yb.cell 1
                                  have f0 := yb.frozen 0
                                  have f1 := yb.frozen 1
                                  have hmva : IntKind.i64.wrap ((m : Int) + 1) = (m : Int) + 1 := IntWalk.i64_in _ (by omega)
                                  have hmv2 : (m : Int) + 1 - ((v : Int) + 1) = ((m - v : Nat) : Int) := by omega
                                  have hmvb : IntKind.i64.wrap ((m : Int) + 1 - ((v : Int) + 1)) = ((m - v : Nat) : Int) := by rw [hmv2]; exact IntWalk.i64_in _ (by omega)
                                  have Yn := Lib.hid yn
                                  have hbl := yb.lt
                                  have ya2 : (Value.slice A6 n6 c6).ownBlock = none ∨ (Value.slice A6 n6 c6).ownBlock ≠ (Value.slice A5 n6 c5).ownBlock := by
                                    rcases ya with hh | hh
                                    · cases A6 with
                                      | none => exact .inl rfl
                                      | some a => exact .inr (by rw [hh]; simp [Value.ownBlock])
                                    · exact .inr (Ne.symm hh)
                                  have hne1 := own_ne yo1 yb (by decide)
                                  have hne2 := own_ne yo2 yb (by decide)
                                  obtain ⟨xs1, hxs1⟩ : ∃ xs1, xs1 = nats (((rowsTo al m v ++ rowsW m (v + 1) (idxs (v + 1) 0 (al.take s))) ++ List.replicate j (s, m - v)).map (·.1)) := ⟨_, rfl⟩
                                  obtain ⟨xs2, hxs2⟩ : ∃ xs2, xs2 = nats (((rowsTo al m v ++ rowsW m (v + 1) (idxs (v + 1) 0 (al.take s))) ++ List.replicate j (s, m - v)).map (·.2)) := ⟨_, rfl⟩
                                  rw [← hxs1] at yo1
                                  rw [← hxs2] at yo2
                                  have Hxs1 := Lib.hid hxs1
                                  have Hxs2 := Lib.hid hxs2
                                  clear yn hmv2 hxs1 hxs2
                                  go_wp2
                                  -- REGION 31
                                  have two0 := Two.start yb yo1 yo2 ya
                                  have two1 := two0.drew
                                  clear two0
                                  obtain ⟨S, hSd⟩ : ∃ S : World → Prop, S = fun w' => Blk w' b 135 [.slice A5 n6 c5, .slice A6 n6 c6, .int .i64 (m : Int)] := ⟨_, rfl⟩
                                  have hS : S wr.drew := by rw [hSd]; exact yb.drew
                                  refine wp_region_tillN S [21, 24] 25 #[false, false, false, false, false, false, false, false, false, false, false, false, false, false, false, false, false, false, false, false, false, false, false, false, false] rfl rfl (by kernel_rfl) ?_
                                  obtain ⟨W0, hW0⟩ : ∃ x, x = wr.drew := ⟨_, rfl⟩
                                  rw [← hW0] at hS two1 ⊢
                                  clear hW0
                                  refine wpTill_valL 0 (v := ?_) rfl (by kernel_rfl) (by kernel_rfl) (by kernel_rfl) (by kernel_rfl) (fun _ _ _ h => h) (Or.inl ⟨by rfl, ?_⟩) (fun _ => hS) ?_
                                  rotate_left
                                  · intro w9 _hSw
                                    go_simp
                                    try with_reducible rfl
                                  simp only [Act.put, List.setIfInBounds_toArray, List.set_cons_zero, List.set_cons_succ]
                                  refine wpTill_valL 1 (v := ?_) rfl (by kernel_rfl) (by kernel_rfl) (by kernel_rfl) (by kernel_rfl) (fun _ _ _ h => h) (Or.inl ⟨by rfl, ?_⟩) (fun _ => hS) ?_
                                  rotate_left
                                  · intro w9 _hSw
                                    go_simp
                                    try with_reducible rfl
                                  simp only [Act.put, List.setIfInBounds_toArray, List.set_cons_zero, List.set_cons_succ]
                                  refine wpTill_valL 2 (v := ?_) rfl (by kernel_rfl) (by kernel_rfl) (by kernel_rfl) (by kernel_rfl) (fun _ _ _ h => h) (Or.inl ⟨by rfl, ?_⟩) (fun _ => hS) ?_
                                  rotate_left
                                  · intro w9 _hSw
                                    go_simp
                                    try with_reducible rfl
                                  simp only [Act.put, List.setIfInBounds_toArray, List.set_cons_zero, List.set_cons_succ]
                                  refine wpTill_valL 3 (v := ?_) rfl (by kernel_rfl) (by kernel_rfl) (by kernel_rfl) (by kernel_rfl) (fun _ _ _ h => h) (Or.inl ⟨by rfl, ?_⟩) (fun _ => hS) ?_
                                  rotate_left
                                  · intro w9 _hSw
                                    go_simp
                                    try with_reducible rfl
                                  simp only [Act.put, List.setIfInBounds_toArray, List.set_cons_zero, List.set_cons_succ]
                                  refine wpTill_valL 4 (v := ?_) rfl (by kernel_rfl) (by kernel_rfl) (by kernel_rfl) (by kernel_rfl) (fun _ _ _ h => h) (Or.inl ⟨by rfl, ?_⟩) (fun _ => hS) ?_
                                  rotate_left
                                  · intro w9 _hSw
                                    go_simp
                                    try with_reducible rfl
                                  simp only [Act.put, List.setIfInBounds_toArray, List.set_cons_zero, List.set_cons_succ]
                                  refine wpTill_takeL 5 (v := ?_) rfl (by kernel_rfl) (by kernel_rfl) (by kernel_rfl) (by kernel_rfl) (by kernel_rfl) (fun _ _ _ h => h) (Or.inl ⟨by rfl, ?_⟩) hS ?_
                                  rotate_left
                                  · intro w9 hSw
                                    rw [hSd] at hSw
                                    have g0 : w9.cell? ⟨b, 0, none⟩ = some (.slice A5 n6 c5) := hSw.cell 0
                                    have g1 : w9.cell? ⟨b, 1, none⟩ = some (.slice A6 n6 c6) := hSw.cell 1
                                    have gl := hSw.lt
                                    go_simp
                                    try with_reducible rfl
                                  simp only [Act.put, List.setIfInBounds_toArray, List.set_cons_zero, List.set_cons_succ]
                                  refine wpTill_valL 6 (v := ?_) rfl (by kernel_rfl) (by kernel_rfl) (by kernel_rfl) (by kernel_rfl) (fun _ _ _ h => h) (Or.inl ⟨by rfl, ?_⟩) (fun _ => hS) ?_
                                  rotate_left
                                  · intro w9 _hSw
                                    go_simp
                                    try with_reducible rfl
                                  simp only [Act.put, List.setIfInBounds_toArray, List.set_cons_zero, List.set_cons_succ]
                                  refine wpTill_valL 9 (v := ?_) rfl (by kernel_rfl) (by kernel_rfl) (by kernel_rfl) (by kernel_rfl) (fun _ _ _ h => h) (Or.inl ⟨by rfl, ?_⟩) (fun _ => hS) ?_
                                  rotate_left
                                  · intro w9 _hSw
                                    go_simp
                                    try with_reducible rfl
                                  simp only [Act.put, List.setIfInBounds_toArray, List.set_cons_zero, List.set_cons_succ]
                                  refine wpTill_valL 10 (v := ?_) rfl (by kernel_rfl) (by kernel_rfl) (by kernel_rfl) (by kernel_rfl) (fun _ _ _ h => h) (Or.inl ⟨by rfl, ?_⟩) (fun _ => hS) ?_
                                  rotate_left
                                  · intro w9 _hSw
                                    go_simp
                                    try with_reducible rfl
                                  simp only [Act.put, List.setIfInBounds_toArray, List.set_cons_zero, List.set_cons_succ]
                                  refine wpTill_valL 11 (v := ?_) rfl (by kernel_rfl) (by kernel_rfl) (by kernel_rfl) (by kernel_rfl) (fun _ _ _ h => h) (Or.inl ⟨by rfl, ?_⟩) (fun _ => hS) ?_
                                  rotate_left
                                  · intro w9 _hSw
                                    go_simp
                                    try with_reducible rfl
                                  simp only [Act.put, List.setIfInBounds_toArray, List.set_cons_zero, List.set_cons_succ]
                                  refine wpTill_takeL 12 (v := ?_) rfl (by kernel_rfl) (by kernel_rfl) (by kernel_rfl) (by kernel_rfl) (by kernel_rfl) (fun _ _ _ h => h) (Or.inl ⟨by rfl, ?_⟩) hS ?_
                                  rotate_left
                                  · intro w9 hSw
                                    rw [hSd] at hSw
                                    have g0 : w9.cell? ⟨b, 0, none⟩ = some (.slice A5 n6 c5) := hSw.cell 0
                                    have g1 : w9.cell? ⟨b, 1, none⟩ = some (.slice A6 n6 c6) := hSw.cell 1
                                    have gl := hSw.lt
                                    go_simp
                                    try with_reducible rfl
                                  simp only [Act.put, List.setIfInBounds_toArray, List.set_cons_zero, List.set_cons_succ]
                                  refine wpTill_valL 13 (v := ?_) rfl (by kernel_rfl) (by kernel_rfl) (by kernel_rfl) (by kernel_rfl) (fun _ _ _ h => h) (Or.inl ⟨by rfl, ?_⟩) (fun _ => hS) ?_
                                  rotate_left
                                  · intro w9 _hSw
                                    go_simp
                                    try with_reducible rfl
                                  simp only [Act.put, List.setIfInBounds_toArray, List.set_cons_zero, List.set_cons_succ]
                                  refine wpTill_valL 14 (v := ?_) rfl (by kernel_rfl) (by kernel_rfl) (by kernel_rfl) (by kernel_rfl) (fun _ _ _ h => h) (Or.inl ⟨by rfl, ?_⟩) (fun _ => hS) ?_
                                  rotate_left
                                  · intro w9 _hSw
                                    go_simp
                                    try with_reducible rfl
                                  simp only [Act.put, List.setIfInBounds_toArray, List.set_cons_zero, List.set_cons_succ]
                                  refine wpTill_valL 15 (v := ?_) rfl (by kernel_rfl) (by kernel_rfl) (by kernel_rfl) (by kernel_rfl) (fun _ _ _ h => h) (Or.inl ⟨by rfl, ?_⟩) (fun _ => hS) ?_
                                  rotate_left
                                  · intro w9 _hSw
                                    go_simp
                                    try with_reducible rfl
                                  simp only [Act.put, List.setIfInBounds_toArray, List.set_cons_zero, List.set_cons_succ]
                                  refine wpTill_valL 16 (v := ?_) rfl (by kernel_rfl) (by kernel_rfl) (by kernel_rfl) (by kernel_rfl) (fun _ _ _ h => h) (Or.inl ⟨by rfl, ?_⟩) (fun _ => hS) ?_
                                  rotate_left
                                  · intro w9 _hSw
                                    go_simp
                                    try with_reducible rfl
                                  simp only [Act.put, List.setIfInBounds_toArray, List.set_cons_zero, List.set_cons_succ]
                                  have two0 := two1
                                  clear two1
                                  refine wpTill_ready [7, 17] (by kernel_rfl) (by simp) ?_
                                  refine AllTill.consL (i := 7) rfl (fun K hK => ?_) ?_
                                  · have HK := Lib.hid hK
                                    clear hK
                                    have two1 := two0.alloc (.cells #[.int .i64 (s : Int)] 3)
                                    have litS1 := two0.lit (.int .i64 (s : Int))
                                    obtain ⟨BS, hBS⟩ : ∃ x, x = W0.heap.size := ⟨_, rfl⟩
                                    obtain ⟨W1, hW1⟩ : ∃ x, x = W0.alloc (.cells #[.int .i64 (s : Int)] 3) := ⟨_, rfl⟩
                                    rw [← hBS] at litS1
                                    rw [← hW1] at two1 litS1
                                    go_simp
                                    rw [← hBS, ← hW1]
                                    refine HK.out _ _ (fun _ => by rw [hSd]; exact two1.1) ?_
                                    clear HK K hBS hW1
                                    simp only [List.setIfInBounds_toArray, List.set_cons_zero, List.set_cons_succ]
                                    refine wpTill_ready [8, 17] (by kernel_rfl) (by simp) ?_
                                    refine AllTill.consL (i := 8) rfl (fun K hK => ?_) ?_
                                    · have HK := Lib.hid hK
                                      clear hK
                                      refine step_app rfl (.tmp 93) (.tmp 95) rfl elInt b _ n6 xs1 rfl two1.2.2.1 1 [.int .i64 (s : Int)] (src_blk Tryd.underlying23 litS1.1 1 1 (by simp) (by simp [Value.oneCell'])) (by unfold maxLen; omega) (by omega) (Nat.le_of_lt two1.lt) ?_
                                      intro A7 c7 W2 o7 g7 h7
                                      have two2 := two1.app o7 g7 h7
                                      refine HK.out _ _ (fun _ => by rw [hSd]; exact two2.1) ?_
                                      clear HK K o7 g7 h7
                                      simp only [Act.put, List.setIfInBounds_toArray, List.set_cons_zero, List.set_cons_succ]
                                      refine wpTill_ready [17] (by kernel_rfl) (by simp) ?_
                                      refine AllTill.consL (i := 17) rfl (fun K hK => ?_) ?_
                                      · have HK := Lib.hid hK
                                        clear hK
                                        have two3 := two2.alloc (.cells #[.int .i64 ((m - v : Nat) : Int)] 3)
                                        have litT3 := two2.lit (.int .i64 ((m - v : Nat) : Int))
                                        obtain ⟨BT, hBT⟩ : ∃ x, x = W2.heap.size := ⟨_, rfl⟩
                                        obtain ⟨W3, hW3⟩ : ∃ x, x = W2.alloc (.cells #[.int .i64 ((m - v : Nat) : Int)] 3) := ⟨_, rfl⟩
                                        rw [← hBT] at litT3
                                        rw [← hW3] at two3 litT3
                                        go_simp
                                        rw [← hBT, ← hW3]
                                        refine HK.out _ _ (fun _ => by rw [hSd]; exact two3.1) ?_
                                        clear HK K hBT hW3
                                        simp only [List.setIfInBounds_toArray, List.set_cons_zero, List.set_cons_succ]
                                        refine wpTill_ready [18] (by kernel_rfl) (by simp) ?_
                                        refine AllTill.consL (i := 18) rfl (fun K hK => ?_) ?_
                                        · have HK := Lib.hid hK
                                          clear hK
                                          refine step_app rfl (.tmp 100) (.tmp 105) rfl elInt b _ n6 xs2 rfl two3.flip.2.2.1 1 [.int .i64 ((m - v : Nat) : Int)] (src_blk Tryd.underlying23 litT3.1 1 1 (by simp) (by simp [Value.oneCell'])) (by unfold maxLen; omega) (by omega) (Nat.le_of_lt two3.lt) ?_
                                          intro A8 c8 W4 o8 g8 h8
                                          have two4 := (two3.flip.app o8 g8 h8).flip
                                          refine HK.out _ _ (fun _ => by rw [hSd]; exact two4.1) ?_
                                          clear HK K o8 g8 h8
                                          simp only [Act.put, List.setIfInBounds_toArray, List.set_cons_zero, List.set_cons_succ]
                                          have hS4 : S W4 := by rw [hSd]; exact two4.1
                                          refine wpTill_valL 19 (v := ?_) rfl (by kernel_rfl) (by kernel_rfl) (by kernel_rfl) (by kernel_rfl) (fun _ _ _ h => h) (Or.inl ⟨by rfl, ?_⟩) (fun _ => hS4) ?_
                                          rotate_left
                                          · intro w9 _hSw
                                            go_simp
                                            try with_reducible rfl
                                          simp only [Act.put, List.setIfInBounds_toArray, List.set_cons_zero, List.set_cons_succ]
                                          refine wpTill_valL 20 (v := ?_) rfl (by kernel_rfl) (by kernel_rfl) (by kernel_rfl) (by kernel_rfl) (fun _ _ _ h => h) (Or.inl ⟨by rfl, ?_⟩) (fun _ => hS4) ?_
                                          rotate_left
                                          · intro w9 _hSw
                                            go_simp
                                            try with_reducible rfl
                                          simp only [Act.put, List.setIfInBounds_toArray, List.set_cons_zero, List.set_cons_succ]
                                          have yb9 := two4.1
                                          have d0 : W4.cell? ⟨b, 0, none⟩ = some (.slice A5 n6 c5) := yb9.cell 0
                                          have e0 := yb9.frozen 0
                                          have hl9 := yb9.lt
                                          refine wpTill_ready [21] (by kernel_rfl) (by simp) ?_
                                          refine AllTill.consL (i := 21) rfl (fun K hK => ?_) AllTill.nil
                                          have HK := Lib.hid hK
                                          clear hK
                                          obtain ⟨W5, hW5⟩ : ∃ x, x = W4.setCell ⟨b, 0, none⟩ (.slice A7 (n6 + 1) c7) := ⟨_, rfl⟩
                                          have y5 := yb9.set 0 (.slice A7 (n6 + 1) c7)
                                          rw [← hW5] at y5
                                          go_simp
                                          rw [← hW5]
                                          refine HK.out _ _ (fun h => absurd (h 21 (by simp)) (by decide +kernel)) ?_
                                          have Hw5 := Lib.hid hW5
                                          clear HK K d0 e0 hW5
                                          simp only [List.setIfInBounds_toArray, List.set_cons_zero, List.set_cons_succ]
                                          refine wpTill_valL 22 (v := ?_) rfl (by kernel_rfl) (by kernel_rfl) (by kernel_rfl) (by kernel_rfl) (fun _ _ _ h => h) (Or.inl ⟨by rfl, ?_⟩) (fun h => absurd (h 21 (by simp)) (by decide +kernel)) ?_
                                          rotate_left
                                          · intro w9 _hSw
                                            go_simp
                                            try with_reducible rfl
                                          simp only [Act.put, List.setIfInBounds_toArray, List.set_cons_zero, List.set_cons_succ]
                                          refine wpTill_valL 23 (v := ?_) rfl (by kernel_rfl) (by kernel_rfl) (by kernel_rfl) (by kernel_rfl) (fun _ _ _ h => h) (Or.inl ⟨by rfl, ?_⟩) (fun h => absurd (h 21 (by simp)) (by decide +kernel)) ?_
                                          rotate_left
                                          · intro w9 _hSw
                                            go_simp
                                            try with_reducible rfl
                                          simp only [Act.put, List.setIfInBounds_toArray, List.set_cons_zero, List.set_cons_succ]
                                          have d1 : W5.cell? ⟨b, 1, none⟩ = some (.slice A6 n6 c6) := y5.cell 1
                                          have e1 := y5.frozen 1
                                          have hl5 := y5.lt
                                          refine wpTill_ready [24] (by kernel_rfl) (by simp) ?_
                                          refine AllTill.consL (i := 24) rfl (fun K hK => ?_) AllTill.nil
                                          have HK := Lib.hid hK
                                          clear hK
                                          obtain ⟨W6, hW6⟩ : ∃ x, x = W5.setCell ⟨b, 1, none⟩ (.slice A8 (n6 + 1) c8) := ⟨_, rfl⟩
                                          have y6 := y5.set 1 (.slice A8 (n6 + 1) c8)
                                          rw [← hW6] at y6
                                          go_simp
                                          rw [← hW6]
                                          refine HK.out _ _ (fun h => absurd (h 21 (by simp)) (by decide +kernel)) ?_
                                          have Hw6 := Lib.hid hW6
                                          clear HK K d1 e1 hW6
                                          simp only [List.setIfInBounds_toArray, List.set_cons_zero, List.set_cons_succ]
                                          refine wpTill_done (by kernel_rfl) ?_ _
                                          have hfin := two4.tree Hxs1.out Hxs2.out Yn.out
                                          rw [← Hw5.out, ← Hw6.out] at hfin
                                          have Hfin := Lib.hid hfin
                                          clear hfin
                                          go_wp2
                                          go_roundg (p2 - j)
                                          case measure => exact y1
                                          case rel => exact ⟨j + 1, n6 + 1, by omega, by omega, rfl, by omega, by rw [List.replicate_succ', ← List.append_assoc]; exact Hfin.out.1, yk.trans Hfin.out.2⟩
                                        exact AllTill.nil
                                      exact AllTill.nil
                                    refine AllTill.consL (i := 17) rfl (fun K hK => ?_) ?_
                                    · have HK := Lib.hid hK
                                      clear hK
                                      have two2 := two1.alloc (.cells #[.int .i64 ((m - v : Nat) : Int)] 3)
                                      have litT2 := two1.lit (.int .i64 ((m - v : Nat) : Int))
                                      have litS2 := litS1.alloc (.cells #[.int .i64 ((m - v : Nat) : Int)] 3)
                                      obtain ⟨BT, hBT⟩ : ∃ x, x = W1.heap.size := ⟨_, rfl⟩
                                      obtain ⟨W2, hW2⟩ : ∃ x, x = W1.alloc (.cells #[.int .i64 ((m - v : Nat) : Int)] 3) := ⟨_, rfl⟩
                                      rw [← hBT] at litT2
                                      rw [← hW2] at two2 litT2 litS2
                                      go_simp
                                      rw [← hBT, ← hW2]
                                      refine HK.out _ _ (fun _ => by rw [hSd]; exact two2.1) ?_
                                      clear HK K hBT hW2
                                      simp only [List.setIfInBounds_toArray, List.set_cons_zero, List.set_cons_succ]
                                      refine wpTill_ready [8] (by kernel_rfl) (by simp) ?_
                                      refine AllTill.consL (i := 8) rfl (fun K hK => ?_) ?_
                                      · have HK := Lib.hid hK
                                        clear hK
                                        refine step_app rfl (.tmp 93) (.tmp 95) rfl elInt b _ n6 xs1 rfl two2.2.2.1 1 [.int .i64 (s : Int)] (src_blk Tryd.underlying23 litS2.1 1 1 (by simp) (by simp [Value.oneCell'])) (by unfold maxLen; omega) (by omega) (Nat.le_of_lt two2.lt) ?_
                                        intro A7 c7 W3 o7 g7 h7
                                        have two3 := two2.app o7 g7 h7
                                        have litT3 := litT2.app (k := n6 + 1) (c := c7) g7 h7
                                        refine HK.out _ _ (fun _ => by rw [hSd]; exact two3.1) ?_
                                        clear HK K o7 g7 h7
                                        simp only [Act.put, List.setIfInBounds_toArray, List.set_cons_zero, List.set_cons_succ]
                                        refine wpTill_ready [18] (by kernel_rfl) (by simp) ?_
                                        refine AllTill.consL (i := 18) rfl (fun K hK => ?_) ?_
                                        · have HK := Lib.hid hK
                                          clear hK
                                          refine step_app rfl (.tmp 100) (.tmp 105) rfl elInt b _ n6 xs2 rfl two3.flip.2.2.1 1 [.int .i64 ((m - v : Nat) : Int)] (src_blk Tryd.underlying23 litT3.1 1 1 (by simp) (by simp [Value.oneCell'])) (by unfold maxLen; omega) (by omega) (Nat.le_of_lt two3.lt) ?_
                                          intro A8 c8 W4 o8 g8 h8
                                          have two4 := (two3.flip.app o8 g8 h8).flip
                                          refine HK.out _ _ (fun _ => by rw [hSd]; exact two4.1) ?_
                                          clear HK K o8 g8 h8
                                          simp only [Act.put, List.setIfInBounds_toArray, List.set_cons_zero, List.set_cons_succ]
                                          have hS4 : S W4 := by rw [hSd]; exact two4.1
                                          refine wpTill_valL 19 (v := ?_) rfl (by kernel_rfl) (by kernel_rfl) (by kernel_rfl) (by kernel_rfl) (fun _ _ _ h => h) (Or.inl ⟨by rfl, ?_⟩) (fun _ => hS4) ?_
                                          rotate_left
                                          · intro w9 _hSw
                                            go_simp
                                            try with_reducible rfl
                                          simp only [Act.put, List.setIfInBounds_toArray, List.set_cons_zero, List.set_cons_succ]
                                          refine wpTill_valL 20 (v := ?_) rfl (by kernel_rfl) (by kernel_rfl) (by kernel_rfl) (by kernel_rfl) (fun _ _ _ h => h) (Or.inl ⟨by rfl, ?_⟩) (fun _ => hS4) ?_
                                          rotate_left
                                          · intro w9 _hSw
                                            go_simp
                                            try with_reducible rfl
                                          simp only [Act.put, List.setIfInBounds_toArray, List.set_cons_zero, List.set_cons_succ]
                                          have yb9 := two4.1
                                          have d0 : W4.cell? ⟨b, 0, none⟩ = some (.slice A5 n6 c5) := yb9.cell 0
                                          have e0 := yb9.frozen 0
                                          have hl9 := yb9.lt
                                          refine wpTill_ready [21] (by kernel_rfl) (by simp) ?_
                                          refine AllTill.consL (i := 21) rfl (fun K hK => ?_) AllTill.nil
                                          have HK := Lib.hid hK
                                          clear hK
                                          obtain ⟨W5, hW5⟩ : ∃ x, x = W4.setCell ⟨b, 0, none⟩ (.slice A7 (n6 + 1) c7) := ⟨_, rfl⟩
                                          have y5 := yb9.set 0 (.slice A7 (n6 + 1) c7)
                                          rw [← hW5] at y5
                                          go_simp
                                          rw [← hW5]
                                          refine HK.out _ _ (fun h => absurd (h 21 (by simp)) (by decide +kernel)) ?_
                                          have Hw5 := Lib.hid hW5
                                          clear HK K d0 e0 hW5
                                          simp only [List.setIfInBounds_toArray, List.set_cons_zero, List.set_cons_succ]
                                          refine wpTill_valL 22 (v := ?_) rfl (by kernel_rfl) (by kernel_rfl) (by kernel_rfl) (by kernel_rfl) (fun _ _ _ h => h) (Or.inl ⟨by rfl, ?_⟩) (fun h => absurd (h 21 (by simp)) (by decide +kernel)) ?_
                                          rotate_left
                                          · intro w9 _hSw
                                            go_simp
                                            try with_reducible rfl
                                          simp only [Act.put, List.setIfInBounds_toArray, List.set_cons_zero, List.set_cons_succ]
                                          refine wpTill_valL 23 (v := ?_) rfl (by kernel_rfl) (by kernel_rfl) (by kernel_rfl) (by kernel_rfl) (fun _ _ _ h => h) (Or.inl ⟨by rfl, ?_⟩) (fun h => absurd (h 21 (by simp)) (by decide +kernel)) ?_
                                          rotate_left
                                          · intro w9 _hSw
                                            go_simp
                                            try with_reducible rfl
                                          simp only [Act.put, List.setIfInBounds_toArray, List.set_cons_zero, List.set_cons_succ]
                                          have d1 : W5.cell? ⟨b, 1, none⟩ = some (.slice A6 n6 c6) := y5.cell 1
                                          have e1 := y5.frozen 1
                                          have hl5 := y5.lt
                                          refine wpTill_ready [24] (by kernel_rfl) (by simp) ?_
                                          refine AllTill.consL (i := 24) rfl (fun K hK => ?_) AllTill.nil
                                          have HK := Lib.hid hK
                                          clear hK
                                          obtain ⟨W6, hW6⟩ : ∃ x, x = W5.setCell ⟨b, 1, none⟩ (.slice A8 (n6 + 1) c8) := ⟨_, rfl⟩
                                          have y6 := y5.set 1 (.slice A8 (n6 + 1) c8)
                                          rw [← hW6] at y6
                                          go_simp
                                          rw [← hW6]
                                          refine HK.out _ _ (fun h => absurd (h 21 (by simp)) (by decide +kernel)) ?_
                                          have Hw6 := Lib.hid hW6
                                          clear HK K d1 e1 hW6
                                          simp only [List.setIfInBounds_toArray, List.set_cons_zero, List.set_cons_succ]
                                          refine wpTill_done (by kernel_rfl) ?_ _
                                          have hfin := two4.tree Hxs1.out Hxs2.out Yn.out
                                          rw [← Hw5.out, ← Hw6.out] at hfin
                                          have Hfin := Lib.hid hfin
                                          clear hfin
                                          go_wp2
                                          go_roundg (p2 - j)
                                          case measure => exact y1
                                          case rel => exact ⟨j + 1, n6 + 1, by omega, by omega, rfl, by omega, by rw [List.replicate_succ', ← List.append_assoc]; exact Hfin.out.1, yk.trans Hfin.out.2⟩
                                        exact AllTill.nil
                                      exact AllTill.nil
                                    exact AllTill.nil
                                  refine AllTill.consL (i := 17) rfl (fun K hK => ?_) ?_
                                  · have HK := Lib.hid hK
                                    clear hK
                                    have two1 := two0.alloc (.cells #[.int .i64 ((m - v : Nat) : Int)] 3)
                                    have litT1 := two0.lit (.int .i64 ((m - v : Nat) : Int))
                                    obtain ⟨BT, hBT⟩ : ∃ x, x = W0.heap.size := ⟨_, rfl⟩
                                    obtain ⟨W1, hW1⟩ : ∃ x, x = W0.alloc (.cells #[.int .i64 ((m - v : Nat) : Int)] 3) := ⟨_, rfl⟩
                                    rw [← hBT] at litT1
                                    rw [← hW1] at two1 litT1
                                    go_simp
                                    rw [← hBT, ← hW1]
                                    refine HK.out _ _ (fun _ => by rw [hSd]; exact two1.1) ?_
                                    clear HK K hBT hW1
                                    simp only [List.setIfInBounds_toArray, List.set_cons_zero, List.set_cons_succ]
                                    refine wpTill_ready [7] (by kernel_rfl) (by simp) ?_
                                    refine AllTill.consL (i := 7) rfl (fun K hK => ?_) ?_
                                    · have HK := Lib.hid hK
                                      clear hK
                                      have two2 := two1.alloc (.cells #[.int .i64 (s : Int)] 3)
                                      have litS2 := two1.lit (.int .i64 (s : Int))
                                      have litT2 := litT1.alloc (.cells #[.int .i64 (s : Int)] 3)
                                      obtain ⟨BS, hBS⟩ : ∃ x, x = W1.heap.size := ⟨_, rfl⟩
                                      obtain ⟨W2, hW2⟩ : ∃ x, x = W1.alloc (.cells #[.int .i64 (s : Int)] 3) := ⟨_, rfl⟩
                                      rw [← hBS] at litS2
                                      rw [← hW2] at two2 litS2 litT2
                                      go_simp
                                      rw [← hBS, ← hW2]
                                      refine HK.out _ _ (fun _ => by rw [hSd]; exact two2.1) ?_
                                      clear HK K hBS hW2
                                      simp only [List.setIfInBounds_toArray, List.set_cons_zero, List.set_cons_succ]
                                      refine wpTill_ready [8] (by kernel_rfl) (by simp) ?_
                                      refine AllTill.consL (i := 8) rfl (fun K hK => ?_) ?_
                                      · have HK := Lib.hid hK
                                        clear hK
                                        refine step_app rfl (.tmp 93) (.tmp 95) rfl elInt b _ n6 xs1 rfl two2.2.2.1 1 [.int .i64 (s : Int)] (src_blk Tryd.underlying23 litS2.1 1 1 (by simp) (by simp [Value.oneCell'])) (by unfold maxLen; omega) (by omega) (Nat.le_of_lt two2.lt) ?_
                                        intro A7 c7 W3 o7 g7 h7
                                        have two3 := two2.app o7 g7 h7
                                        have litT3 := litT2.app (k := n6 + 1) (c := c7) g7 h7
                                        refine HK.out _ _ (fun _ => by rw [hSd]; exact two3.1) ?_
                                        clear HK K o7 g7 h7
                                        simp only [Act.put, List.setIfInBounds_toArray, List.set_cons_zero, List.set_cons_succ]
                                        refine wpTill_ready [18] (by kernel_rfl) (by simp) ?_
                                        refine AllTill.consL (i := 18) rfl (fun K hK => ?_) ?_
                                        · have HK := Lib.hid hK
                                          clear hK
                                          refine step_app rfl (.tmp 100) (.tmp 105) rfl elInt b _ n6 xs2 rfl two3.flip.2.2.1 1 [.int .i64 ((m - v : Nat) : Int)] (src_blk Tryd.underlying23 litT3.1 1 1 (by simp) (by simp [Value.oneCell'])) (by unfold maxLen; omega) (by omega) (Nat.le_of_lt two3.lt) ?_
                                          intro A8 c8 W4 o8 g8 h8
                                          have two4 := (two3.flip.app o8 g8 h8).flip
                                          refine HK.out _ _ (fun _ => by rw [hSd]; exact two4.1) ?_
                                          clear HK K o8 g8 h8
                                          simp only [Act.put, List.setIfInBounds_toArray, List.set_cons_zero, List.set_cons_succ]
                                          have hS4 : S W4 := by rw [hSd]; exact two4.1
                                          refine wpTill_valL 19 (v := ?_) rfl (by kernel_rfl) (by kernel_rfl) (by kernel_rfl) (by kernel_rfl) (fun _ _ _ h => h) (Or.inl ⟨by rfl, ?_⟩) (fun _ => hS4) ?_
                                          rotate_left
                                          · intro w9 _hSw
                                            go_simp
                                            try with_reducible rfl
                                          simp only [Act.put, List.setIfInBounds_toArray, List.set_cons_zero, List.set_cons_succ]
                                          refine wpTill_valL 20 (v := ?_) rfl (by kernel_rfl) (by kernel_rfl) (by kernel_rfl) (by kernel_rfl) (fun _ _ _ h => h) (Or.inl ⟨by rfl, ?_⟩) (fun _ => hS4) ?_
                                          rotate_left
                                          · intro w9 _hSw
                                            go_simp
                                            try with_reducible rfl
                                          simp only [Act.put, List.setIfInBounds_toArray, List.set_cons_zero, List.set_cons_succ]
                                          have yb9 := two4.1
                                          have d0 : W4.cell? ⟨b, 0, none⟩ = some (.slice A5 n6 c5) := yb9.cell 0
                                          have e0 := yb9.frozen 0
                                          have hl9 := yb9.lt
                                          refine wpTill_ready [21] (by kernel_rfl) (by simp) ?_
                                          refine AllTill.consL (i := 21) rfl (fun K hK => ?_) AllTill.nil
                                          have HK := Lib.hid hK
                                          clear hK
                                          obtain ⟨W5, hW5⟩ : ∃ x, x = W4.setCell ⟨b, 0, none⟩ (.slice A7 (n6 + 1) c7) := ⟨_, rfl⟩
                                          have y5 := yb9.set 0 (.slice A7 (n6 + 1) c7)
                                          rw [← hW5] at y5
                                          go_simp
                                          rw [← hW5]
                                          refine HK.out _ _ (fun h => absurd (h 21 (by simp)) (by decide +kernel)) ?_
                                          have Hw5 := Lib.hid hW5
                                          clear HK K d0 e0 hW5
                                          simp only [List.setIfInBounds_toArray, List.set_cons_zero, List.set_cons_succ]
                                          refine wpTill_valL 22 (v := ?_) rfl (by kernel_rfl) (by kernel_rfl) (by kernel_rfl) (by kernel_rfl) (fun _ _ _ h => h) (Or.inl ⟨by rfl, ?_⟩) (fun h => absurd (h 21 (by simp)) (by decide +kernel)) ?_
                                          rotate_left
                                          · intro w9 _hSw
                                            go_simp
                                            try with_reducible rfl
                                          simp only [Act.put, List.setIfInBounds_toArray, List.set_cons_zero, List.set_cons_succ]
                                          refine wpTill_valL 23 (v := ?_) rfl (by kernel_rfl) (by kernel_rfl) (by kernel_rfl) (by kernel_rfl) (fun _ _ _ h => h) (Or.inl ⟨by rfl, ?_⟩) (fun h => absurd (h 21 (by simp)) (by decide +kernel)) ?_
                                          rotate_left
                                          · intro w9 _hSw
                                            go_simp
                                            try with_reducible rfl
                                          simp only [Act.put, List.setIfInBounds_toArray, List.set_cons_zero, List.set_cons_succ]
                                          have d1 : W5.cell? ⟨b, 1, none⟩ = some (.slice A6 n6 c6) := y5.cell 1
                                          have e1 := y5.frozen 1
                                          have hl5 := y5.lt
                                          refine wpTill_ready [24] (by kernel_rfl) (by simp) ?_
                                          refine AllTill.consL (i := 24) rfl (fun K hK => ?_) AllTill.nil
                                          have HK := Lib.hid hK
                                          clear hK
                                          obtain ⟨W6, hW6⟩ : ∃ x, x = W5.setCell ⟨b, 1, none⟩ (.slice A8 (n6 + 1) c8) := ⟨_, rfl⟩
                                          have y6 := y5.set 1 (.slice A8 (n6 + 1) c8)
                                          rw [← hW6] at y6
                                          go_simp
                                          rw [← hW6]
                                          refine HK.out _ _ (fun h => absurd (h 21 (by simp)) (by decide +kernel)) ?_
                                          have Hw6 := Lib.hid hW6
                                          clear HK K d1 e1 hW6
                                          simp only [List.setIfInBounds_toArray, List.set_cons_zero, List.set_cons_succ]
                                          refine wpTill_done (by kernel_rfl) ?_ _
                                          have hfin := two4.tree Hxs1.out Hxs2.out Yn.out
                                          rw [← Hw5.out, ← Hw6.out] at hfin
                                          have Hfin := Lib.hid hfin
                                          clear hfin
                                          go_wp2
                                          go_roundg (p2 - j)
                                          case measure => exact y1
                                          case rel => exact ⟨j + 1, n6 + 1, by omega, by omega, rfl, by omega, by rw [List.replicate_succ', ← List.append_assoc]; exact Hfin.out.1, yk.trans Hfin.out.2⟩
                                        exact AllTill.nil
                                      exact AllTill.nil
                                    exact AllTill.nil
                                  exact AllTill.nil
                                · obtain rfl : j = p2 := by omega
                                  go_wp2
                                  go_roundg (k + 1 - s)
                                  case measure => exact x1
                                  case rel =>
                                    refine ⟨s + 1, n6, by omega, by omega, rfl, ?_, yk⟩
                                    have e : rowsTo al m v ++ rowsW m (v + 1) (idxs (v + 1) 0 (al.take (s + 1))) = (rowsTo al m v ++ rowsW m (v + 1) (idxs (v + 1) 0 (al.take s))) ++ List.replicate j (s, m - v) := by
                                      rw [Hpush.out, rowsW_append, rowsW_one, wc_succ, ← Hp2.out, List.append_assoc, show m + 1 - (v + 1) = m - v by omega]
                                    rw [e]
                                    exact ⟨A5, c5, A6, c6, yb, yn, yo1, yo2, ya⟩
                            · rw [if_neg hxv] at hpush
                              have hxb : (((x : Nat) : Int) != (v : Int) + 1) = true := by rw [bne_iff_ne]; omega
                              have Hpush := Lib.hid hpush
                              have Hxt := Lib.hid xt
                              clear hpush xt
                              go_wp2
                              go_roundg (k + 1 - s)
                              case measure => exact x1
                              case rel => exact ⟨s + 1, n5, by omega, by omega, rfl, by rw [Hpush.out, List.append_nil]; exact Hxt.out, xk⟩
                          · obtain rfl : s = k + 1 := by omega
                            have hfull : rowsTo al m (v + 1) = rowsTo al m v ++ rowsW m (v + 1) (idxs (v + 1) 0 (al.take (k + 1))) := by
                              rw [List.take_of_length_le (by rw [Hall.out]; exact Nat.le_refl _), rowsTo_succ]
                            rw [← hfull] at xt
                            have Hxt := Lib.hid xt
                            clear xt hfull
                            go_wp2
                            go_roundg (m - v)
                            case measure => exact v1
                            case rel => exact ⟨v + 1, n5, by omega, by omega, rfl, Hxt.out, xk⟩
                      · obtain rfl : v = m := by omega
                        have Hvt := Lib.hid vt
                        clear vt
                        go_wp2
                        go_ret2
                        refine ⟨hkW.then vk (fun j hj h => by have := Hb.out; omega), .inl ⟨al, v, b, Htr.out, rfl, hwb, n4, ?_⟩⟩
                        obtain ⟨A1, c1, A2, c2, e1, e2, e3, e4, e5⟩ := Hvt.out
                        exact ⟨A1, c1, A2, c2, e1, e2, own_mono e3 hwb, own_mono e4 hwb, e5⟩
                  · have hno : treeP ws = none := by
                      unfold treeP
                      rw [if_pos (.inr (.inr (.inr fun h => hpr (by rw [Hp.out, HU.out]; rw [← Hrs.out] at h; exact upLog_eq.2 h))))]
                    have hb4 : ((p : Int) != (rs : Int)) = true := by rw [bne_iff_ne]; omega
                    have hb5 : (p != rs) = true := by rw [bne_iff_ne]; exact hpr
                    have Hno := Lib.hid hno
                    clear hno
                    go_wp2
                    go_quiet (fail)
                    go_wp2
                    go_ret2
                    exact ⟨((Keep.refl _ _).drewN _).drewN _, .inr ⟨Hno.out, rfl⟩⟩
end Go.Proofs.YtabaholflahepaaDoor
