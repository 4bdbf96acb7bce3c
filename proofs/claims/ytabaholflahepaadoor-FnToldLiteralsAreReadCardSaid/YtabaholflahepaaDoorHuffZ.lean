/-
  Contracts of ZZHuff, impl.Tree, laws.equal.
-/
import Derived.Test.YtabaholflahepaaDoorHuff
import Derived.Test.YtabaholflahepaaDoorQt
namespace Go.Proofs.YtabaholflahepaaDoor
open Go.RowKit

theorem elU16 : El Tryd.prog 144 179 (.int .u16 0) 1 2 := ⟨Tryd.underlying144, by kernel_rfl, rfl, by decide, by decide⟩

/-- Two rows of ints, neither the other's block. -/
def Duo (w : World) (base : Nat) (v1 v2 : Value) (k1 k2 : Nat) (x1 x2 : List Value) : Prop :=
  w.ownsRow base 3 1 v1 k1 x1 ∧ w.ownsRow base 3 1 v2 k2 x2 ∧ (v1.ownBlock = none ∨ v1.ownBlock ≠ v2.ownBlock) ∧ (v2.ownBlock = none ∨ v2.ownBlock ≠ v1.ownBlock)
section
variable {w w' : World} {base k1 k2 : Nat} {v1 v2 : Value} {x1 x2 : List Value}
theorem Duo.alloc (h : Duo w base v1 v2 k1 k2 x1 x2) (o : Obj) : Duo (w.alloc o) base v1 v2 k1 k2 x1 x2 := ⟨h.1.alloc _, h.2.1.alloc _, h.2.2⟩
theorem Duo.flip (h : Duo w base v1 v2 k1 k2 x1 x2) : Duo w base v2 v1 k2 k1 x2 x1 := ⟨h.2.1, h.1, h.2.2.2, h.2.2.1⟩
theorem Duo.app (h : Duo w base v1 v2 k1 k2 x1 x2) {A : Option Addr} {c : Nat} {x : Value} (ho : w'.ownsRow base 3 1 (.slice A (k1 + 1) c) (k1 + 1) (x1 ++ [x])) (hg : w.grownBy w' v1.ownBlock)
    (hor : A.map (·.block) = v1.ownBlock ∨ A = some ⟨w.heap.size, 0, none⟩) : Duo w' base (.slice A (k1 + 1) c) v2 (k1 + 1) k2 (x1 ++ [x]) x2 := by
  obtain ⟨h1, h2, ha, hb⟩ := h
  have hap := apart_new (n7 := k1 + 1) (c7 := c) hor ha (fun k hk => (h2.lt k hk).2)
  refine ⟨ho, World.ownsRow.kept h2 hg hb, hap, ?_⟩
  rcases hap with e | e
  · rw [e]
    cases v2.ownBlock with
    | none => exact .inl rfl
    | some a => exact .inr (fun h => by cases h)
  · exact .inr (Ne.symm e)
end

/-- What ZZHuff and impl.Tree hand back. -/
def ZTreePost (w : World) (ds : List Nat) (e : Ending) (w' : World) : Prop :=
  Kept w w' ∧ ((∃ al m q A1 c1 A2 c2, treeS ds = some (al, m, q) ∧ 1 ∈ al ∧ e = .returned (.tuple #[.slice A1 (2 ^ m) c1, .slice A2 (2 ^ m) c2, .int .i64 (m : Nat), .int .i64 (q : Nat), .bool true]) ∧
      w'.ownsRow w.heap.size 3 1 (.slice A1 (2 ^ m) c1) (2 ^ m) (nats ((rowsTo al m m).map (·.1))) ∧ w'.ownsRow w.heap.size 3 1 (.slice A2 (2 ^ m) c2) (2 ^ m) (nats ((rowsTo al m m).map (·.2)))) ∨
    (e = .returned (.tuple #[.slice none 0 0, .slice none 0 0, .int .i64 0, .int .i64 0, .bool false]) ∧ ∀ al m q, treeS ds = some (al, m, q) → 1 ∈ al → ds.length ≤ q))

theorem made_u16 : ∀ n : Nat, List.replicate n (Value.int .u16 0) = u16s (List.replicate n 0) := fun n => by rw [u16s, List.map_replicate]; rfl
theorem and_255 {a b : Nat} (ha : a < 256) (hb : b < 256) : bits .and .u16 ((a * 256 + b : Nat) : Int) 255 = (b : Int) := by
  have e : bits .and .u16 ((a * 256 + b : Nat) : Int) ((255 : Nat) : Int) = (((a * 256 + b) &&& 255 : Nat) : Int) := u16_and_nat _ 255 (by omega) (by decide)
  have e2 : (a * 256 + b) &&& 255 = b := by
    have h1 : (a * 256 + b) &&& 255 = (a * 256 + b) % 2 ^ 8 := and_mask (a * 256 + b) 8
    have h2 : (2 : Nat) ^ 8 = 256 := by decide
    rw [h1, h2]; omega
  rw [e2] at e
  exact e

set_option maxHeartbeats 4000000 in
set_option maxRecDepth 4000 in
theorem zzHuff_any {R : Nat → Prop} {B : Nat} (A : Option Addr) (c : Nat) (ds : List Nat) (w : World) (hs : Sl w R A (u8s ds)) (hd : Bytes ds) (hlen : ds.length < 2 ^ 24) (he : Errs B w) :
    Calls Tryd.prog 63 #[.slice A ds.length c] w (ZTreePost w ds) := by
  have hBw : B ≤ w.heap.size := by obtain ⟨_, _, _, _, _, _, _, _, _, _, _, _, _, _, h9⟩ := he; exact h9
  have Hd := Lib.hid hd
  clear hd
  go_enter Tryd.func63, Tryd.ntmps63
  go_wp2_with (first
    | (at_make; refine wpList_make rfl _ _ rfl elU16 .i64 .i64 2048 2048 rfl rfl (Nat.le_refl _) (by omega) ?_; intro w1 hk1 hg1; have hs2 := (hs.kept hk1).kept ((Keep.refl (fun _ => False) w1).alloc (.cells Tryd.zeroCells157 157)))
    | (at_builtin; refine wpList_append rfl _ _ rfl el158 (Keep.refl (fun _ => False) _) none 0 0 [] rfl (World.ownsRow_nil _ _ _ _) ds.length (u8s ds) _ rfl (src_sl Tryd.underlying22 hs2 ds.length c (by simp) (u8s_one ds)) (by omega) ?_; intro A2 c2 w2 hown2 hk4 hg5; simp only [Nat.zero_add, List.nil_append] at hown2))
  obtain ⟨g, hg⟩ : ∃ g, g = w.heap.size := ⟨_, rfl⟩
  rw [← hg] at hg1 ⊢
  have hg3 : Blk w1 g 179 (u16s (List.replicate 2048 0)) := by
    rw [Nat.mul_one, made_list _ rfl, made_u16] at hg1
    exact hg1
  have hgw := hg3.lt
  obtain ⟨rb, hrb⟩ : ∃ rb, rb = w1.heap.size := ⟨_, rfl⟩
  obtain ⟨W1, hW1⟩ : ∃ x, x = w1.alloc (.cells Tryd.zeroCells157 157) := ⟨_, rfl⟩
  have hk2 : Kept w1 W1 := by rw [hW1]; exact (Keep.refl _ _).alloc _
  have hrbk : Blk W1 rb 157 Tryd.zeroCells157.toList := by
    have := Blk.new w1 157 Tryd.zeroCells157.toList
    rw [Array.toArray_toList] at this
    rw [hW1, hrb]; exact this
  rw [← hW1] at hown2 hk4 hg5 hs2
  rw [← hrb]
  have hg4 := (hg3.kept hk2).kept hk4
  have hrb4 := hrbk.kept hk4
  have he4 := ((he.kept hk1).kept hk2).kept hk4
  have hk3 := (hk1.trans hk2).trans hk4
  have hW1s : W1.heap.size = rb + 1 := by rw [hW1, hrb]; simp
  have hrbg : g < rb := by omega
  have hgge : w.heap.size ≤ g := by omega
  have hsz := hk1.size
  have hread := readHuff_any (R := fun k => W1.heap.size ≤ k ∧ k < w2.heap.size) (B := B) rb g A2 c2 0 ds Tryd.zeroCells157.toList w2 (Sl.of_own hown2) (fun k h => h.2) (fun h => by have := h.1; omega) (fun h => by have := h.1; omega) hrb4 ⟨0, by kernel_rfl⟩ (by kernel_rfl) hg4 (by omega) (by omega) he4 Hd.out hlen
  have Hread := Lib.hid hread
  clear hread hown2 hg1 hg3 hg4 hrbk hrb4 hk2 hs2 hW1s hW1 hk4 hg5 hs he he4 hg hrb
  refine Hread.out.mono ?_
  rintro e w3 ⟨hk6, _, ⟨al, m, q, ht, h1, rfl, hb6⟩ | ⟨v, ⟨vt, vx, rfl⟩, rfl, hno⟩⟩
  · have hk7 : Kept w w3 := hk3.then hk6 (fun k hk h => by omega)
    rw [List.drop_zero] at ht
    obtain ⟨ws, hws, htp⟩ := (treeS_some ht).2.2.2
    have hts := treeP_some htp
    have hwl := (wtsIn_fine Hd.out hws).2
    have hall : al.length ≤ 256 := by rw [hts.2.2.2.2.1, List.length_append]; simp; omega
    have hm11 := hts.2.2.2.1
    obtain ⟨P, hP⟩ : ∃ P, P = 2 ^ m := ⟨_, rfl⟩
    have hPi : (2 : Int) ^ m = (P : Int) := by rw [two_pow_int, hP]
    have hP11 : P ≤ 2048 := by rw [hP]; exact Nat.pow_le_pow_right (by decide) hm11
    obtain ⟨rs, hrs⟩ : ∃ x, x = rowsTo al m m := ⟨_, rfl⟩
    have hrl : rs.length = P := by rw [hrs, rows_length hts.2.2.2.2.2.2.2, hts.2.2.2.2.2.2.1, hP]
    have hrow : ∀ k s n : Nat, rs[k]? = some (s, n) → s < 256 ∧ n < 256 := by
      intro k s n hk
      rw [hrs] at hk
      obtain ⟨v, h2, h3, h4, h5⟩ := rowsTo_mem (List.mem_of_getElem? hk)
      have := (List.getElem?_eq_some_iff.1 h4).1
      simp only at this h5
      omega
    rw [← hrs, ← hP] at hb6
    rw [Nat.zero_add]
    have Hrs := Lib.hid hrs
    have Hrl := Lib.hid hrl
    have Hrow := Lib.hid hrow
    have HP := Lib.hid hP
    have Ht := Lib.hid ht
    clear hrs hrl hrow hP ht hts htp hws hwl hall Hread hk6
    go_wp2
    go_loopg [2, 3, 28] (P + 1) (fun f s2 s3 s28 wr => ∃ k A1 c1 A2 c2, P - k < f ∧ k ≤ P ∧ s2 = .slice A1 k c1 ∧ s3 = .slice A2 k c2 ∧ s28 = .int .i64 k ∧ Duo wr w3.heap.size (.slice A1 k c1) (.slice A2 k c2) k k (nats ((rs.take k).map (·.1))) (nats ((rs.take k).map (·.2))) ∧ Kept w3 wr)
    case atStart => exact ⟨0, none, 0, none, 0, by omega, by omega, rfl, rfl, rfl, ⟨World.ownsRow_nil _ _ _ _, World.ownsRow_nil _ _ _ _, .inl rfl, .inl rfl⟩, Keep.refl _ _⟩
    case round =>
      obtain ⟨k, A1, c1, A3, c3, q1, q2, rfl, rfl, rfl, qd, qk⟩ := hrel
      by_cases hlt : k < P
      · obtain ⟨⟨s, n⟩, hx⟩ : ∃ x, rs[k]? = some x := ⟨_, List.getElem?_eq_getElem (by rw [Hrl.out]; exact hlt)⟩
        have hsn := Hrow.out k s n hx
        obtain ⟨en, hen⟩ : ∃ x, x = s * 256 + n := ⟨_, rfl⟩
        have hen16 : en < 65536 := by omega
        have cx : wr.cell? ⟨g, k, none⟩ = some (.int .u16 (en : Int)) := by
          rw [(hb6.kept qk).cell, hen]
          exact u16s_at (by rw [List.getElem?_append_left (by rw [List.length_map, Hrl.out]; exact hlt), List.getElem?_map, hx]; rfl)
        have hsh : (en : Int) / 256 = (s : Int) := by omega
        have hand : bits .and .u16 (en : Int) 255 = (n : Int) := by rw [hen]; exact and_255 hsn.1 hsn.2
        have hp1 : nats ((rs.take (k + 1)).map (·.1)) = nats ((rs.take k).map (·.1)) ++ [.int .i64 (s : Int)] := by rw [take_push hx]; simp [nats]
        have hp2 : nats ((rs.take (k + 1)).map (·.2)) = nats ((rs.take k).map (·.2)) ++ [.int .i64 (n : Int)] := by rw [take_push hx]; simp [nats]
        obtain ⟨x1, hx1⟩ : ∃ x, x = nats ((rs.take k).map (·.1)) := ⟨_, rfl⟩
        obtain ⟨x2, hx2⟩ : ∃ x, x = nats ((rs.take k).map (·.2)) := ⟨_, rfl⟩
        rw [← hx1, ← hx2] at qd
        rw [← hx1] at hp1
        rw [← hx2] at hp2
        have Hp1 := Lib.hid hp1
        have Hp2 := Lib.hid hp2
        have hws3 : w3.heap.size ≤ wr.heap.size := qk.size
        clear hp1 hp2 hx1 hx2 hen hx
        go_wp2_with (first
          | (at_builtin; refine wpList_app rfl _ _ rfl elInt w3.heap.size _ k x1 rfl (qd.alloc _).1 1 [.int .i64 (s : Int)] (src_blk Tryd.underlying23 (Blk.new wr 3 [.int .i64 (s : Int)]) 1 1 (by simp) (by simp [Value.oneCell'])) (by unfold maxLen; omega) (by omega) (by simp; omega) ?_; intro A5 c5 y1 p1 p2 p3; have qd1 := (qd.alloc (.cells #[.int .i64 (s : Int)] 3)).app p1 p2 p3; have qk1 : Kept w3 y1 := keep_grown (qk.alloc _) p2 (fun j hj => ((qd.1).lt j hj).1); have hys := qk1.size)
          | (at_builtin; refine wpList_app rfl _ _ rfl elInt w3.heap.size _ k x2 rfl (qd1.alloc _).2.1 1 [.int .i64 (n : Int)] (src_blk Tryd.underlying23 (Blk.new y1 3 [.int .i64 (n : Int)]) 1 1 (by simp) (by simp [Value.oneCell'])) (by unfold maxLen; omega) (by omega) (by simp; omega) ?_; intro A6 c6 y2 r1 r2 r3; have qd2 := ((qd1.alloc (.cells #[.int .i64 (n : Int)] 3)).flip.app r1 r2 r3).flip; have qk2 : Kept w3 y2 := keep_grown (qk1.alloc _) r2 (fun j hj => ((qd1.2.1).lt j hj).1)))
        go_roundg (P - k)
        case measure => exact q1
        case rel => exact ⟨k + 1, A5, c5, A6, c6, by omega, by omega, rfl, rfl, rfl, by rw [Hp1.out, Hp2.out]; exact qd2, qk2⟩
      · obtain rfl : k = P := by omega
        have hfull : rs.take k = rs := List.take_of_length_le (by rw [Hrl.out]; exact Nat.le_refl _)
        rw [hfull] at qd
        have hw3 := hk7.size
        go_wp2
        refine bodyPost_ret (results5 rfl _ _ _) rfl ?_
        refine ⟨hk7.trans qk, .inl ⟨al, m, q, A1, c1, A3, c3, Ht.out, h1, by rw [← HP.out]; rfl, ?_, ?_⟩⟩
        · rw [← HP.out, ← Hrs.out]; exact own_mono qd.1 hw3
        · rw [← HP.out, ← Hrs.out]; exact own_mono qd.2.1 hw3
  · have hk7 : Kept w w3 := hk3.then hk6 (fun k hk h => by omega)
    rw [List.drop_zero] at hno
    have Hno := Lib.hid hno
    clear hno Hread
    go_wp2
    refine bodyPost_ret (results5 rfl _ _ _) rfl ?_
    exact ⟨hk7, .inr ⟨rfl, fun al m q ht h => by have := Hno.out al m q ht h; omega⟩⟩

set_option maxHeartbeats 400000 in
theorem implTree_any {R : Nat → Prop} {B : Nat} (A : Option Addr) (c : Nat) (ds : List Nat) (w : World) (hs : Sl w R A (u8s ds)) (hd : Bytes ds) (hlen : ds.length < 2 ^ 24) (he : Errs B w) :
    Calls Tryd.prog 35 #[.slice A ds.length c] w (ZTreePost w ds) := by
  have hz := zzHuff_any A c ds w hs hd hlen he
  have Hz := Lib.hid hz
  clear hz hd hs he
  go_enter Tryd.func35, Tryd.ntmps35
  go_wp2_with fail
  refine Hz.out.mono ?_
  rintro e w1 ⟨hk, ⟨al, m, q, A1, c1, A2, c2, ht, h1, rfl, ho1, ho2⟩ | ⟨rfl, hno⟩⟩
  · obtain ⟨P, hP⟩ : ∃ P, P = 2 ^ m := ⟨_, rfl⟩
    rw [← hP] at ho1 ho2 ⊢
    have HP := Lib.hid hP
    have Ht := Lib.hid ht
    clear hP ht Hz
    go_wp2
    refine bodyPost_ret (results5 rfl _ _ _) rfl ?_
    refine ⟨hk, .inl ⟨al, m, q, A1, c1, A2, c2, Ht.out, h1, by rw [← HP.out]; rfl, ?_, ?_⟩⟩
    · rw [← HP.out]; exact ho1
    · rw [← HP.out]; exact ho2
  · have Hno := Lib.hid hno
    clear hno Hz
    go_wp2
    refine bodyPost_ret (results5 rfl _ _ _) rfl ?_
    exact ⟨hk, .inr ⟨rfl, Hno.out⟩⟩

theorem equal_same {R R' : Nat → Prop} (A A' : Option Addr) (n c c' : Nat) (xs : List Nat) (hn : n = xs.length) (w : World) (hs : Sl w R A (nats xs)) (hs' : Sl w R' A' (nats xs)) (hlen : n ≤ 2147483648) :
    Calls Tryd.prog 37 #[.slice A n c, .slice A' n c'] w fun e w' => e = .returned (.bool true) ∧ Kept w w' := by
  subst hn
  go_enter Tryd.func37, Tryd.ntmps37
  go_wp2
  go_loopg [13] (xs.length + 1) (fun g i wr => ∃ k : Nat, xs.length - k < g ∧ k ≤ xs.length ∧ i = .int .i64 k ∧ Kept w wr)
  case atStart => exact ⟨0, by omega, by omega, rfl, Keep.refl _ _⟩
  case round =>
    obtain ⟨k, q1, q2, rfl, qk⟩ := hrel
    by_cases hlt : k < xs.length
    · obtain ⟨g, o, x, hR, rfl, hx, hxk⟩ := (hs.kept qk).nat hlt
      obtain ⟨g', o', y, hR', rfl, hy, hyk⟩ := (hs'.kept qk).nat hlt
      obtain rfl : x = y := Option.some.inj (hxk.out.symm.trans hyk.out)
      go_wp2
      go_quiet (fail)
      go_wp2
      go_roundg (xs.length - k)
      case measure => exact q1
      case rel => exact ⟨k + 1, by omega, by omega, rfl, qk.drewN _⟩
    · go_wp2
      go_ret
      exact ⟨rfl, qk⟩
end Go.Proofs.YtabaholflahepaaDoor
