/-
  Contract of spec.weightsOf. And more of its kind (TreeG, TreeS, TreeQ).
-/
import Derived.Test.YtabaholflahepaaDoorTreeF
import Derived.Test.YtabaholflahepaaDoorProbS
import Derived.Test.YtabaholflahepaaDoorToldA
import Derived.Test.YtabaholflahepaaDoorTreeB
namespace Go.Proofs.YtabaholflahepaaDoor
open Go.RowKit

section
theorem size22 (w : World) : (sizeOf (Tryd.prog.elem 22)).run Tryd.prog w = .ok 1 w := by kernel_rfl
theorem run_back (A : Option Addr) (n c k : Nat) (hk : k ≤ n) (w : World) :
    Sem.run Tryd.prog (Instr.sliceAt 22 (.slice A n c) (some (.int .i64 (k : Int))) none none) w = .ok (.slice (if c = k then A else A.map (·.add (k * 1))) (n - k) (c - k)) w := by
  have ht : Tryd.prog.underlying 22 = some (.slice (Tryd.prog.elem 22)) := by kernel_rfl
  rw [run_sliceAt_slice w 22 _ _ _ _ ht, run_slice_l w 22 A n c ht .i64 k (by omega) (by omega), size22]
  simp [Result.andThen, sliced]
theorem Sl.back {w : World} {R : Nat → Prop} {A : Option Addr} {l : List Nat} (h : Sl w R A (u8s l)) {c k : Nat} (hl : l.length ≤ c) : Sl w R (if c = k then A else A.map (·.add (k * 1))) (u8s (l.drop k)) := by
  have := h.drop k (if c = k then A else A.map (·.add (k * 1))) (fun hk g o he => by
    subst he
    simp at hk
    rw [if_neg (by omega)]
    simp [Addr.add])
  simpa [u8s, List.map_drop] using this

/-- Weights that are compressed by FSE. -/
def wtsOf (ds : List Nat) : Option (List Nat) :=
  match desc (num ds) (8 * ds.length) 256 6 0 with
  | none => none
  | some (L, ps, q) =>
    if (ds.drop ((q + 7) / 8)).getD ((ds.drop ((q + 7) / 8)).length - 1) 0 = 0 then none
    else if 8 * ((ds.drop ((q + 7) / 8)).length - 1) + Nat.log2 ((ds.drop ((q + 7) / 8)).getD ((ds.drop ((q + 7) / 8)).length - 1) 0) < 2 * L then none
    else wts (num (ds.drop ((q + 7) / 8))) (tab L ps) 256
      (num (ds.drop ((q + 7) / 8)) / 2 ^ (8 * ((ds.drop ((q + 7) / 8)).length - 1) + Nat.log2 ((ds.drop ((q + 7) / 8)).getD ((ds.drop ((q + 7) / 8)).length - 1) 0) - L) % 2 ^ L)
      (num (ds.drop ((q + 7) / 8)) / 2 ^ (8 * ((ds.drop ((q + 7) / 8)).length - 1) + Nat.log2 ((ds.drop ((q + 7) / 8)).getD ((ds.drop ((q + 7) / 8)).length - 1) 0) - 2 * L) % 2 ^ L)
      (8 * ((ds.drop ((q + 7) / 8)).length - 1) + Nat.log2 ((ds.drop ((q + 7) / 8)).getD ((ds.drop ((q + 7) / 8)).length - 1) 0) - 2 * L) []
theorem wtsOf_none {ds : List Nat} (h : desc (num ds) (8 * ds.length) 256 6 0 = none) : wtsOf ds = none := by unfold wtsOf; rw [h]
theorem wtsOf_some {ds rs : List Nat} {L q x : Nat} {ps : List Int} (h : desc (num ds) (8 * ds.length) 256 6 0 = some (L, ps, q)) (hr : rs = ds.drop ((q + 7) / 8)) (hx : x = rs.getD (rs.length - 1) 0) :
    wtsOf ds = if x = 0 then none else if 8 * (rs.length - 1) + Nat.log2 x < 2 * L then none
      else wts (num rs) (tab L ps) 256 (num rs / 2 ^ (8 * (rs.length - 1) + Nat.log2 x - L) % 2 ^ L) (num rs / 2 ^ (8 * (rs.length - 1) + Nat.log2 x - 2 * L) % 2 ^ L) (8 * (rs.length - 1) + Nat.log2 x - 2 * L) [] := by
  subst hr hx
  unfold wtsOf
  rw [h]

/-- What weightsOf hands back. -/
def WtsPost (w : World) (ds : List Nat) (e : Ending) (w' : World) : Prop :=
  Kept w w' ∧ ((∃ ws A' c', wtsOf ds = some ws ∧ e = .returned (.tuple #[.slice A' (List.length ws) c', .bool true]) ∧ w'.ownsRow w.heap.size 3 1 (.slice A' ws.length c') ws.length (nats ws)) ∨
    (wtsOf ds = none ∧ ∃ A' n' c', e = .returned (.tuple #[.slice A' n' c', .bool false])))

set_option maxHeartbeats 4000000 in
set_option maxRecDepth 4000 in
theorem weightsOf_any {R : Nat → Prop} (A : Option Addr) (n c : Nat) (ds : List Nat) (hn : n = ds.length) (w : World) (hs : Sl w R A (u8s ds)) (hR : ∀ k, R k → k < w.heap.size) (hd : Bytes ds) (hlen : n ≤ 1048576) (hc : n ≤ c) :
    Calls Tryd.prog 85 #[.slice A n c] w (WtsPost w ds) := by
  have hp := probs_any A n c ds 6 256 hn w hs hR hd (by omega) (by decide) (by decide)
  have Hp := Lib.hid hp
  have Hn := Lib.hid hn
  have Hd := Lib.hid hd
  clear hp hn hd
  go_enter Tryd.func85, Tryd.ntmps85
  go_wp2_with fail
  refine Hp.out.mono ?_
  rintro e w1 ⟨hk1, ⟨L, ps, q, A1, c1, hde, rfl, ho⟩ | ⟨hno, rfl⟩⟩
  · have hds := desc_some hde (by decide)
    have hL6 : L ≤ 6 := hds.2.2.1
    have hL5 : 5 ≤ L := by have := hds.2.1; omega
    have hsh := hds.2.2.2.2.2.1
    have hpl := hds.2.2.2.2.2.2.1
    have hq := hds.2.2.2.2.2.2.2.2
    clear hds
    obtain ⟨qq, hqq⟩ : ∃ qq, qq = (q + 7) / 8 := ⟨_, rfl⟩
    have hqn : qq ≤ n := by rw [hqq, Hn.out]; omega
    obtain ⟨rs, hrs⟩ : ∃ rs, rs = ds.drop qq := ⟨_, rfl⟩
    have hrl : n - qq = rs.length := by rw [hrs, List.length_drop, Hn.out]
    have hs1 := hs.kept hk1
    have hsr := hs1.back (c := c) (k := qq) (by rw [← Hn.out]; exact hc)
    have hrun := run_back A n c qq hqn
    generalize (if c = qq then A else A.map (·.add (qq * 1))) = A2 at hsr hrun
    rw [← hrs] at hsr
    have hrd : Bytes rs := by rw [hrs]; intro x hx; exact Hd.out x (List.mem_of_mem_drop hx)
    have hmin : min (qq : Int) (n : Int) = (qq : Int) := by omega
    rw [← hqq]
    have hw0 := fun x hx => wtsOf_some (rs := rs) (x := x) hde (by rw [hrs, hqq]) hx
    have Hw0 := Lib.hid hw0
    have Hrl := Lib.hid hrl
    have Hrd := Lib.hid hrd
    clear hqq hrs hrl hrd hw0 hde
    rcases mark_or Hrd.out with hnm | ⟨x, m, hm⟩
    · have hlast : rs.getD (rs.length - 1) 0 = 0 := by
        rcases hnm with rfl | h
        · rfl
        · rw [List.getD_eq_getElem?_getD, h]; rfl
      have hno' : wtsOf ds = none := by rw [Hw0.out 0 hlast.symm, if_pos rfl]
      have hbk : ∀ w', Kept w1 w' → Calls Tryd.prog 45 #[.slice A2 (n - qq) (c - qq)] w' fun e w'' => e = .returned (.tuple #[.pointer none, .bool false]) ∧ w' = w'' := by
        intro w' hk
        rcases hnm with h0 | h
        · have h1 : n - qq = 0 := by rw [Hrl.out, h0]; rfl
          rw [h1]
          exact backward_none A2 (c - qq) w'
        · rw [Hrl.out]
          exact backward_zero A2 (c - qq) rs w' (hsr.kept hk) h (by rw [← Hrl.out]; omega)
      have Hno := Lib.hid hno'
      have Hbk := Lib.hid hbk
      clear hlast hno' hbk hnm Hp
      go_wp2_with (go_at_call 45; refine (Hbk.out _ (Keep.refl _ _)).mono ?_; rintro e w2 ⟨rfl, rfl⟩)
      go_ret2
      exact ⟨hk1, .inr ⟨Hno.out, _, _, _, rfl⟩⟩
    · obtain ⟨lf, hlf⟩ : ∃ lf, lf = 8 * (rs.length - 1) + m := ⟨_, rfl⟩
      have hxl : rs.getD (rs.length - 1) 0 = x := by rw [List.getD_eq_getElem?_getD, hm.last]; rfl
      have hx0 : x ≠ 0 := by have := hm.low; have := pow_pos' m; omega
      have hlog : Nat.log2 x = m := by
        have h1 := Nat.log2_self_le hx0
        have h2 : x < 2 ^ (Nat.log2 x + 1) := Nat.lt_log2_self
        have h3 := (Nat.pow_lt_pow_iff_right (a := 2) (by decide)).1 (Nat.lt_of_le_of_lt h1 hm.high)
        have h4 := (Nat.pow_lt_pow_iff_right (a := 2) (by decide)).1 (Nat.lt_of_le_of_lt hm.low h2)
        omega
      have hw1 := Hw0.out x hxl.symm
      rw [if_neg hx0, hlog, ← hlf] at hw1
      have hrl1 : 1 ≤ rs.length := by
        have := (List.getElem?_eq_some_iff.1 hm.last).1
        omega
      have hm7 : m ≤ 7 := (byte_top hm.low hm.high hm.byte).2
      have hrs8 : rs.length ≤ 1048576 := by have := Hrl.out; omega
      have hlfb : lf ≤ 8 * rs.length := by omega
      have hlfi : (lf : Int) ≤ 8388608 := by omega
      obtain ⟨N, hN⟩ : ∃ N, N = 2 ^ L := ⟨_, rfl⟩
      have h64 : N ≤ 64 := by rw [hN]; exact Nat.pow_le_pow_right (by decide) hL6
      obtain ⟨tb, htb⟩ : ∃ tb, tb = tab L ps := ⟨_, rfl⟩
      have htl : tb.length = N := by rw [htb, tab_length, hN]
      have hnext : ∀ a x, a < N → x < 2 ^ bitsS tb a → baseS tb a + x < N ∧ bitsS tb a ≤ 6 := by
        intro a x ha hx
        rw [htb] at hx ⊢
        rw [hN] at ha ⊢
        have := tab_next hsh ha hx
        exact ⟨this.1, by omega⟩
      have hbk : Calls Tryd.prog 45 #[.slice A2 (n - qq) (c - qq)] w1 fun e w' => e = .returned (.tuple #[.pointer (some ⟨w1.heap.size, 0, none⟩), .bool true]) ∧ Blk w' w1.heap.size 96 (bkCells A2 (c - qq) rs.length (lf : Int)) ∧ Kept w1 w' := by
        rw [Hrl.out, hlf]
        exact backward_ok A2 (c - qq) rs x m w1 hsr hm.last (by omega) hm.low hm.high hm.byte
      have htab : ∀ w', Kept w1 w' → Calls Tryd.prog 52 #[.slice A1 ps.length c1, .int .i64 L] w' fun e w'' => ∃ g, w'.heap.size ≤ g ∧ e = .returned (.agg #[.slice (some ⟨g, 0, none⟩) N N, .int .i64 L]) ∧ Blk w'' g 177 (flat cel3 tb) ∧ Kept w' w'' := by
        intro w' hk
        rw [htb, hN]
        exact tableOf_any A1 c1 L ps w' ((Sl.of_own ho).kept hk) hsh (by omega)
      have hrd1 : ∀ w' lv, lv ≤ 8 * (rs.length : Int) → -1000 ≤ lv → Kept w1 w' → Blk w' w1.heap.size 96 (bkCells A2 (c - qq) rs.length lv) → Calls Tryd.prog 46 #[.pointer (some ⟨w1.heap.size, 0, none⟩), .int .i64 L] w' fun e w'' =>
          e = .returned (.int .i64 (backVal (num rs) lv L : Nat)) ∧ Blk w'' w1.heap.size 96 (bkCells A2 (c - qq) rs.length (lv - L)) ∧ Keep (· = w1.heap.size) w' w'' :=
        fun w' lv h1 h2 hk hb => bkRead_any (R := R) w1.heap.size A2 (c - qq) rs lv L w' hb (hsr.kept hk) (fun h => by have := hR _ h; have := hk1.size; omega) Hrd.out (by omega) (by omega) h1 (by omega)
      obtain ⟨bb, hbb⟩ : ∃ bb, bb = w1.heap.size := ⟨_, rfl⟩
      rw [← hbb] at hbk hrd1
      have hbbw : w.heap.size ≤ bb := by rw [hbb]; exact hk1.size
      have Hbk := Lib.hid hbk
      have Htab := Lib.hid htab
      have Hrd1 := Lib.hid hrd1
      have Hw1 := Lib.hid hw1
      have Htl := Lib.hid htl
      have Hnext := Lib.hid hnext
      have HN := Lib.hid hN
      have Htb := Lib.hid htb
      have Hbb := Lib.hid hbb
      have Hsh := Lib.hid hsh
      have Hlfb := Lib.hid hlfb
      clear hxl hx0 hlog hbk htab hrd1 hw1 htl hnext hN htb hbb hsh hlfb hlf hm Hp Hw0 hm7
      go_wp2_with (first
        | (go_at_call 45; refine Hbk.out.mono ?_; rintro e w2 ⟨rfl, hb2, hk2⟩)
        | (go_at_call 52; refine (Htab.out _ hk2).mono ?_; rintro e w3 ⟨g, hg, rfl, hg3, hk3⟩; have hk13 := hk2.trans hk3; have hb3 := hb2.kept hk3))
      obtain ⟨V1, hV1⟩ : ∃ V, V = backVal (num rs) (lf : Int) L := ⟨_, rfl⟩
      obtain ⟨V2, hV2⟩ : ∃ V, V = backVal (num rs) ((lf : Int) - (L : Int)) L := ⟨_, rfl⟩
      have hV1l : V1 < N := by rw [hV1, HN.out]; exact backVal_lt _ _ _
      have hV2l : V2 < N := by rw [hV2, HN.out]; exact backVal_lt _ _ _
      have hr1 := fun w' (hk : Kept w1 w') hb => Hrd1.out w' (lf : Int) (by have := Hlfb.out; omega) (by omega) hk hb
      have hr2 := fun w' (hk : Kept w1 w') hb => Hrd1.out w' ((lf : Int) - (L : Int)) (by have := Hlfb.out; omega) (by omega) hk hb
      rw [← hV1] at hr1
      rw [← hV2] at hr2
      obtain ⟨tA, htA⟩ : ∃ x, x = w3.heap.size := ⟨_, rfl⟩
      obtain ⟨WA, hWA⟩ : ∃ x, x = w3.alloc (.cells #[.slice (some ⟨g, 0, none⟩) N N, .int .i64 (L : Int)] 104) := ⟨_, rfl⟩
      have hA : Blk WA tA 104 [.slice (some ⟨g, 0, none⟩) N N, .int .i64 (L : Int)] := by rw [hWA, htA]; exact Blk.new w3 104 _
      have hkA : Kept w3 WA := by rw [hWA]; exact (Keep.refl _ _).alloc _
      have hbA := hb3.kept hkA
      have hgA := hg3.kept hkA
      have hk1A := hk13.trans hkA
      rw [← htA, ← hWA]
      have HV1 := Lib.hid hV1
      have HV2 := Lib.hid hV2
      have Hr1 := Lib.hid hr1
      have Hr2 := Lib.hid hr2
      have HtA := Lib.hid htA
      clear hV1 hV2 hr1 hr2 htA hWA hb3 hg3 hb2 hkA hk13
      refine (Hr1.out _ hk1A hbA).mono ?_
      rintro e w4 ⟨rfl, hb4, hk4⟩
      have hk14 : Kept w1 w4 := hk1A.then hk4 (fun k hk h => by subst h; have := Hbb.out; omega)
      by_cases hsht : lf < 2 * L
      · have hno' : wtsOf ds = none := by rw [Hw1.out, if_pos hsht]
        have hneg : (lf : Int) - (L : Int) - (L : Int) < 0 := by omega
        have hnegb : decide ((lf : Int) - (L : Int) - (L : Int) < 0) = true := decide_eq_true hneg
        have Hno := Lib.hid hno'
        clear hno'
        go_wp2_with (go_at_call 46; refine (Hr2.out _ hk14 hb4).mono ?_; rintro e w5 ⟨rfl, hb5, hk5⟩; have e5 : w5.cell? ⟨bb, 1, none⟩ = some (.int .i64 ((lf : Int) - (L : Int) - (L : Int))) := hb5.cell 1; have hl5 := hb5.lt)
        go_ret2
        exact ⟨(hk1.trans (hk14.then hk5 (fun k hk h => by subst h; have := Hbb.out; omega))).alloc _, .inr ⟨Hno.out, _, _, _, rfl⟩⟩
      · obtain ⟨l0, hl0⟩ : ∃ l0, l0 = lf - 2 * L := ⟨_, rfl⟩
        have hl0i : (lf : Int) - (L : Int) - (L : Int) = (l0 : Int) := by omega
        have hva : V1 = num rs / 2 ^ (lf - L) % 2 ^ L := by rw [HV1.out]; exact backVal_in _ _ _ (by omega)
        have hvb : V2 = num rs / 2 ^ (lf - 2 * L) % 2 ^ L := by
          have h1 : (lf : Int) - (L : Int) = ((lf - L : Nat) : Int) := by omega
          rw [HV2.out, h1, backVal_in _ _ _ (by omega)]
          congr 3
          omega
        have hw2 : wtsOf ds = wts (num rs) tb 256 V1 V2 l0 [] := by rw [Hw1.out, if_neg hsht, ← hva, ← hvb, ← hl0, Htb.out]
        have hl0b : l0 ≤ lf := by omega
        have Hw2 := Lib.hid hw2
        clear hl0 hva hvb hw2
        go_wp2_with (go_at_call 46; refine (Hr2.out _ hk14 hb4).mono ?_; rintro e w5 ⟨rfl, hb5, hk5⟩; rw [hl0i] at hb5; have e5 : w5.cell? ⟨bb, 1, none⟩ = some (.int .i64 (l0 : Int)) := hb5.cell 1; have hl5 := hb5.lt)
        obtain ⟨gS, hgS⟩ : ∃ x, x = w5.heap.size := ⟨_, rfl⟩
        obtain ⟨W, hW⟩ : ∃ x, x = w5.alloc (.cells #[.int .i64 (V1 : Int), .int .i64 (V2 : Int)] 224) := ⟨_, rfl⟩
        have hk15 := hk14.then hk5 (fun k hk h => by subst h; have := Hbb.out; omega)
        have hS0 : Blk W gS 224 [.int .i64 (V1 : Int), .int .i64 (V2 : Int)] := by rw [hW, hgS]; exact Blk.new w5 224 _
        have hkW : Kept w5 W := by rw [hW]; exact (Keep.refl _ _).alloc _
        have hAbb : tA ≠ bb := fun h => by have := hA.ne hbA (by decide); omega
        have hgbb : g ≠ bb := fun h => by have := hgA.ne hbA (by decide); omega
        have hA0 : Blk W tA 104 [.slice (some ⟨g, 0, none⟩) N N, .int .i64 (L : Int)] := ((hA.keep hk4 hAbb).keep hk5 hAbb).kept hkW
        have hg0 : Blk W g 177 (flat cel3 tb) := ((hgA.keep hk4 hgbb).keep hk5 hgbb).kept hkW
        have hb0 := hb5.kept hkW
        have hkw0 : Kept w1 W := hk15.trans hkW
        have hgw : bb ≤ gS := by rw [hgS, Hbb.out]; exact hk15.size
        rw [← hgS, ← hW]
        clear hW hgS hk15 hkW hb5 e5 hb4 hk5 hbA hgA hA hk1A hk14 hk4 Hr1 Hr2 Hrd1 Htab Hbk hrun ho hs1 HV1 HV2 hl0i
        go_loopg [11, 12] 257 (fun f s11 s12 wr => ∃ (k a b l : Nat) (out : List Nat) (A' : Option Addr) (c' tg : Nat), 256 - k < f ∧ k ≤ 255 ∧ s11 = .slice A' k c' ∧ s12 = .int .i64 tg ∧ (tg = 0 ∧ Blk wr gS 224 [.int .i64 (a : Int), .int .i64 (b : Int)] ∨ tg = 1 ∧ Blk wr gS 224 [.int .i64 (b : Int), .int .i64 (a : Int)]) ∧
          a < N ∧ b < N ∧ l ≤ lf ∧ wr.ownsRow bb 3 1 (.slice A' k c') k (nats out) ∧ Hid (k = out.length) ∧ Hid (wtsOf ds = wts (num rs) tb (256 - k) a b l out) ∧ Blk wr bb 96 (bkCells A2 (c - qq) rs.length (l : Int)) ∧ Blk wr tA 104 [.slice (some ⟨g, 0, none⟩) N N, .int .i64 (L : Int)] ∧ Blk wr g 177 (flat cel3 tb) ∧ Kept w1 wr)
        case atStart => exact ⟨0, V1, V2, l0, [], none, 0, 0, by omega, by omega, rfl, rfl, .inl ⟨rfl, hS0⟩, hV1l, hV2l, hl0b, World.ownsRow_nil _ _ _ _, rfl, Hw2.out, hb0, hA0, hg0, hkw0⟩
        case round =>
          clear hS0 hb0 hA0 hg0 hkw0
          obtain ⟨k, a, b, l, out, A', c', tg, q1, q2, rfl, rfl, qS, qa, qb, ql, qo, qol, qw, qB, qA, qg, qk⟩ := hrel
          obtain ⟨cs, htg, qS, e2, e3, hset⟩ : ∃ cs, tg ≤ 1 ∧ Blk wr gS 224 cs ∧ cs[tg]? = some (Value.int .i64 (a : Int)) ∧ cs[1 - tg]? = some (Value.int .i64 (b : Int)) ∧
              ∀ (x : Nat) wz, Blk wz gS 224 (cs.set tg (.int .i64 (x : Int))) → (1 - tg = 0 ∧ Blk wz gS 224 [.int .i64 (b : Int), .int .i64 (x : Int)] ∨ 1 - tg = 1 ∧ Blk wz gS 224 [.int .i64 (x : Int), .int .i64 (b : Int)]) := by
            rcases qS with ⟨rfl, h⟩ | ⟨rfl, h⟩
            · exact ⟨_, by omega, h, rfl, rfl, fun x wz h => .inr ⟨rfl, h⟩⟩
            · exact ⟨_, by omega, h, rfl, rfl, fun x wz h => .inl ⟨rfl, h⟩⟩
          obtain ⟨ti, hti⟩ : ∃ ti, ti = 1 - tg := ⟨_, rfl⟩
          have htw : IntKind.i64.wrap (1 - (tg : Int)) = (ti : Int) := by rw [IntWalk.i64_in _ (by omega)]; omega
          have hti2 : (1 : Int) - (tg : Int) = (ti : Int) := by omega
          rw [← hti] at e3 hset
          have hti4 : 1 - tg = ti := hti.symm
          have hti5 : ti ≤ 1 := by omega
          have htw2 : IntKind.i64.wrap (ti : Int) = (ti : Int) := IntWalk.i64_in _ (by omega)
          clear hti
          have e4 : wr.cell? ⟨gS, tg, none⟩ = some (.int .i64 (a : Int)) := by rw [qS.cell tg]; exact e2
          have hta := tab_get (tb := tb) (a := a) (by rw [Htl.out]; exact qa)
          have htb' := tab_get (tb := tb) (a := b) (by rw [Htl.out]; exact qb)
          obtain ⟨sa, hsa⟩ : ∃ x, x = symOf tb a := ⟨_, rfl⟩
          obtain ⟨sb, hsb⟩ : ∃ x, x = symOf tb b := ⟨_, rfl⟩
          rw [← hsa] at hta
          rw [← hsb] at htb'
          have e5 : wr.cell? ⟨g, a * 3, none⟩ = some (.int .i64 (sa : Int)) := qg.row cel3_length (j := 0) hta rfl
          have e6 : wr.cell? ⟨tA, 0, none⟩ = some (.slice (some ⟨g, 0, none⟩) N N) := qA.cell 0
          have l1 := qS.lt
          have l2 := qA.lt
          have l3 := qg.lt
          have htg2 : (tg : Int) < 2 := by omega
          have hti3 : (ti : Int) < 2 := by omega
          have n1 := own_ne qo qS (by decide)
          have n2 := own_ne qo qA (by decide)
          have n3 := own_ne qo qg (by decide)
          have n4 := own_ne qo qB (by decide)
          have hbbs : bb ≤ wr.heap.size := by rw [Hbb.out]; exact qk.size
          have n5 : gS ≠ bb := fun h => by have := qS.ne qB (by decide); omega
          have n6 : tA ≠ gS := qA.ne qS (by decide)
          have n7 : g ≠ gS := qg.ne qS (by decide)
          have hf : 256 - k = (256 - (k + 1)) + 1 := by omega
          obtain ⟨bt, hbt⟩ : ∃ x, x = bitsS tb a := ⟨_, rfl⟩
          obtain ⟨X, hX⟩ : ∃ X, X = baseS tb a + backVal (num rs) (l : Int) bt := ⟨_, rfl⟩
          have hbX := Hnext.out a (backVal (num rs) (l : Int) bt) qa (by rw [hbt]; exact backVal_lt _ _ _)
          rw [← hX, ← hbt] at hbX
          have hXN := hbX.1
          have hb6 := hbX.2
          have hbs := (Hnext.out a 0 qa (pow_pos' _)).1
          have hnx : ∀ w', Kept w1 w' → Blk w' g 177 (flat cel3 tb) → Blk w' bb 96 (bkCells A2 (c - qq) rs.length (l : Int)) → Calls Tryd.prog 104 #[.agg #[.slice (some ⟨g, 0, none⟩) N N, .int .i64 (L : Int)], .pointer (some ⟨bb, 0, none⟩), .int .i64 a] w' fun e w'' =>
              e = .returned (.int .i64 (X : Nat)) ∧ Blk w'' bb 96 (bkCells A2 (c - qq) rs.length ((l : Int) - (bt : Int))) ∧ Keep (· = bb) w' w'' := fun w' hk hg hb => by
            rw [hX, hbt]
            exact next_any (R := R) g bb A2 (c - qq) N a tb rs (l : Int) (L : Int) w' hg hb (hsr.kept hk) (fun h => by have := hR _ h; omega) Hrd.out (by omega) (by rw [Htl.out]; exact qa) Htl.out (by omega) (by omega) (by omega) (by have := Hlfb.out; omega) (by omega)
          have Hnx := Lib.hid hnx
          have HX := Lib.hid hX
          have Hbt := Lib.hid hbt
          clear hnx hX hbt hbX hbs
          have Hset := Lib.hid hset
          have Htab := Lib.hid htb'
          have Hsa := Lib.hid hsa
          have Hsb := Lib.hid hsb
          have He2 := Lib.hid e2
          have He3 := Lib.hid e3
          clear hset hta htb' hsa hsb e2 e3
          go_wp2
          go_region_law (refine step_app rfl (.tmp 51) (.tmp 60) rfl elInt bb _ k (nats out) rfl (own_drew (qo.alloc _)) 1 [.int .i64 (sa : Int)] (src_blk Tryd.underlying23 (Blk.new _ 3 [.int .i64 (sa : Int)]).drew 1 1 (by simp) (by simp [Value.oneCell'])) (by unfold maxLen; omega) (by omega) (by simp; omega) ?_; intro A9 c9 w9 o9 g9 _h9; have yS := blk_grown (qS.alloc _).drew g9 n1; have yA := blk_grown (qA.alloc _).drew g9 n2; have yg := blk_grown (qg.alloc _).drew g9 n3; have yB := blk_grown (qB.alloc _).drew g9 n4; have hk9 : Kept w1 w9 := keep_grown (qk.alloc _).drew g9 (fun j hj => by rw [← Hbb.out]; exact (qo.lt j hj).1))
          all_goals
            clear e4 e5 e6 l1 l2 l3 n1 n2 n3 n4 qS qA qg qB qk
            have e4 : w9.cell? ⟨gS, tg, none⟩ = some (.int .i64 (a : Int)) := by rw [yS.cell tg]; exact He2.out
            have e6 : w9.cell? ⟨tA, 0, none⟩ = some (.slice (some ⟨g, 0, none⟩) N N) := yA.cell 0
            have e7 : w9.cell? ⟨tA, 1, none⟩ = some (.int .i64 (L : Int)) := yA.cell 1
            have l1 := yS.lt
            have l2 := yA.lt
            go_wp2
            go_region_law (go_simp; go_at_call 104; refine (Hnx.out _ hk9.drew yg.drew yB.drew).mono ?_; rintro e w2 ⟨rfl, zB, hkk⟩; have zS := yS.drew.keep hkk n5; have e8 : w2.cell? ⟨gS, tg, none⟩ = some (.int .i64 (a : Int)) := (by rw [zS.cell tg]; exact He2.out); have e9 := zS.frozen tg; have l9 := zS.lt)
            all_goals
              obtain ⟨W5, hW5⟩ : ∃ x, x = w2.setCell ⟨gS, tg, none⟩ (.int .i64 (X : Int)) := ⟨_, rfl⟩
              have vS : Blk W5 gS 224 (cs.set tg (.int .i64 (X : Int))) := by rw [hW5]; exact zS.set tg _
              have vS2 := Hset.out X W5 vS
              have vB : Blk W5 bb 96 (bkCells A2 (c - qq) rs.length ((l : Int) - (bt : Int))) := by rw [hW5]; exact zB.far (Ne.symm n5) _
              have vA : Blk W5 tA 104 [.slice (some ⟨g, 0, none⟩) N N, .int .i64 (L : Int)] := by rw [hW5]; exact (yA.drew.keep hkk hAbb).far n6 _
              have vg : Blk W5 g 177 (flat cel3 tb) := by rw [hW5]; exact (yg.drew.keep hkk hgbb).far n7 _
              have vo : W5.ownsRow bb 3 1 (.slice A9 (k + 1) c9) (k + 1) (nats out ++ [.int .i64 (sa : Int)]) := by
                rw [hW5]
                have m1 := own_ne o9 yB (by decide)
                have m2 := own_ne o9 yS (by decide)
                exact own_keep (own_keep (own_drew o9) hkk (fun j hj h => m1 (h ▸ hj))) ((Keep.refl (· = gS) w2).set (p := ⟨gS, tg, none⟩) (.inl rfl) _) (fun j hj h => m2 (h ▸ hj))
              have vk : Kept w1 W5 := by
                rw [hW5]
                exact (hk9.drew.then hkk (fun j hj h => by subst h; have := Hbb.out; omega)).set (p := ⟨gS, tg, none⟩) (.inr (by show _ ≤ gS; have := Hbb.out; omega)) _
              rw [← hW5]
              have hlen1 : (nats (out ++ [sa])) = nats out ++ [.int .i64 (sa : Int)] := by simp [nats]
              rw [← hlen1] at vo
              have hW' := qw.out
              rw [hf] at hW'
              have e1 : W5.cell? ⟨bb, 1, none⟩ = some (.int .i64 ((l : Int) - (bt : Int))) := vB.cell 1
              have lb := vB.lt
              clear hW5 hlen1 zS zB yS yA yg yB hk9 hkk o9 e4 e6 e7 e8 e9 l9 l1 l2 g9
              by_cases hbl : l < bt
              · have hnegb : decide ((l : Int) - (bt : Int) < 0) = true := decide_eq_true (by omega)
                have hne2 : (l : Int) - (bt : Int) < 0 := by omega
                have f1 : W5.cell? ⟨gS, ti, none⟩ = some (.int .i64 (b : Int)) := by
                  rw [vS.cell ti, List.getElem?_set_ne (by omega)]
                  exact He3.out
                have f2 : W5.cell? ⟨tA, 0, none⟩ = some (.slice (some ⟨g, 0, none⟩) N N) := vA.cell 0
                have f3 : W5.cell? ⟨g, b * 3, none⟩ = some (.int .i64 (sb : Int)) := vg.row cel3_length (j := 0) Htab.out rfl
                have l1 := vS.lt
                have l2 := vA.lt
                have l3 := vg.lt
                have hends : (k + 2 ≤ 255 ∧ wtsOf ds = some (out ++ [sa] ++ [sb])) ∨ (255 < k + 2 ∧ wtsOf ds = none) := by
                  rcases Nat.lt_or_ge 255 (k + 2) with h2 | h2
                  · refine .inr ⟨h2, ?_⟩
                    rw [hW']
                    exact wts_end_bad (by rw [← Hbt.out]; exact hbl) (by rw [← qol.out]; exact h2)
                  · refine .inl ⟨h2, ?_⟩
                    rw [hW', wts_end (by rw [← Hbt.out]; exact hbl) (by rw [← qol.out]; exact h2), ← Hsa.out, ← Hsb.out]
                    simp
                have Hends := Lib.hid hends
                clear hends hW'
                have hbb5 : bb ≤ W5.heap.size := by rw [Hbb.out]; exact vk.size
                go_wp2
                go_region_law (refine step_app rfl (.tmp 75) (.tmp 85) rfl elInt bb _ (k + 1) _ rfl (own_drew (vo.alloc _)) 1 [.int .i64 (sb : Int)] (src_blk Tryd.underlying23 (Blk.new _ 3 [.int .i64 (sb : Int)]).drew 1 1 (by simp) (by simp [Value.oneCell'])) (by unfold maxLen; omega) (by omega) (by simp; omega) ?_; intro A8 c8 w8 o8 g8 _h8; have hk8 : Kept w1 w8 := keep_grown (vk.alloc _).drew g8 (fun j hj => by rw [← Hbb.out]; exact (vo.lt j hj).1))
                all_goals
                  rcases Hends.out with ⟨h2, h3⟩ | ⟨h2, h3⟩
                  · have hle : decide ((k : Int) + 1 + 1 ≤ 255) = true := decide_eq_true (by omega)
                    have Hno := Lib.hid h3
                    clear h3
                    go_wp2
                    go_ret2
                    refine ⟨hk1.trans hk8, .inl ⟨_, A8, c8, Hno.out, ?_, ?_⟩⟩
                    · simp [← qol.out]
                    · rw [show (out ++ [sa] ++ [sb]).length = k + 1 + 1 by simp [← qol.out], show nats (out ++ [sa] ++ [sb]) = nats (out ++ [sa]) ++ [.int .i64 (sb : Int)] by simp [nats]]
                      exact own_mono o8 hbbw
                  · have hle : decide ((k : Int) + 1 + 1 ≤ 255) = false := decide_eq_false (by omega)
                    have Hno := Lib.hid h3
                    clear h3
                    go_wp2
                    go_ret2
                    exact ⟨hk1.trans hk8, .inr ⟨Hno.out, _, _, _, rfl⟩⟩
              · have hnegb : decide ((l : Int) - (bt : Int) < 0) = false := decide_eq_false (by omega)
                have hne2 : ¬ (l : Int) - (bt : Int) < 0 := by omega
                have hli : (l : Int) - (bt : Int) = ((l - bt : Nat) : Int) := by omega
                by_cases h2 : 255 < k + 1
                · have h3 : wtsOf ds = none := by
                    rw [hW']
                    exact wts_bad (by rw [← Hbt.out]; omega) (by rw [← qol.out]; exact h2)
                  have Hno := Lib.hid h3
                  have hgt : decide ((k : Int) + 1 > 255) = true := decide_eq_true (by omega)
                  have hgt2 : decide (255 < (k : Int) + 1) = true := decide_eq_true (by omega)
                  clear h3 hW'
                  go_wp2
                  go_ret2
                  exact ⟨hk1.trans vk, .inr ⟨Hno.out, _, _, _, rfl⟩⟩
                · have h3 : wtsOf ds = wts (num rs) tb (256 - (k + 1)) b X (l - bt) (out ++ [sa]) := by
                    have e : X = baseS tb a + num rs / 2 ^ (l - bt) % 2 ^ bt := by rw [HX.out, backVal_in _ _ _ (by omega)]
                    rw [hW', wts_step (by rw [← Hbt.out]; omega) (by rw [← qol.out]; omega), ← Hbt.out, ← Hsa.out, e]
                  have Hst := Lib.hid h3
                  have hgt : decide ((k : Int) + 1 > 255) = false := decide_eq_false (by omega)
                  have hgt2 : decide (255 < (k : Int) + 1) = false := decide_eq_false (by omega)
                  clear h3 hW'
                  go_wp2
                  go_roundg (256 - k)
                  case measure => exact q1
                  case rel =>
                    exact ⟨k + 1, b, X, l - bt, out ++ [sa], A9, c9, ti, by omega, by omega, rfl, rfl, vS2, qb, hXN, by omega, vo, by show _ = _; rw [List.length_append, ← qol.out]; rfl, Hst.out, by rw [← hli]; exact vB, vA, vg, vk⟩
  · have hno' := wtsOf_none hno
    have Hno := Lib.hid hno'
    clear hno hno' Hp
    go_wp2
    go_ret2
    exact ⟨hk1, .inr ⟨Hno.out, _, _, _, rfl⟩⟩
end

section
theorem symOf_lt {L : Nat} {ps : List Int} (h : IsShares L ps) (hl : ps.length ≤ 256) (a : Nat) : symOf (tab L ps) a < 256 := by
  by_cases ha : a < 2 ^ L
  · have hg := tab_get (tb := tab L ps) (a := a) (by rw [tab_length]; exact ha)
    have hc : (tab L ps)[a]? = some (cellAt L ps a) := by simp [tab, ha]
    have he := Option.some.inj (hg.symm.trans hc)
    simp only [cellAt, Prod.mk.injEq] at he
    have := sym_lt h ha
    rw [he.1]
    omega
  · have : (tab L ps)[a]? = none := List.getElem?_eq_none (by rw [tab_length]; omega)
    unfold symOf
    rw [List.getD_eq_getElem?_getD, this]
    decide

theorem wts_fine {N : Nat} {tb : List (Nat × Nat × Nat)} (hs : ∀ a, symOf tb a < 256) : ∀ (f a b L : Nat) (out ws : List Nat), (∀ x ∈ out, x < 256) → wts N tb f a b L out = some ws → (∀ x ∈ ws, x < 256) ∧ ws.length ≤ 255
  | 0, _, _, _, _, _, _, h => by simp [wts] at h
  | f + 1, a, b, L, out, ws, ho, h => by
    by_cases h1 : L < bitsS tb a
    · by_cases h2 : out.length + 2 ≤ 255
      · rw [wts_end h1 h2] at h
        obtain rfl := Option.some.inj h
        refine ⟨fun x hx => ?_, by simp; omega⟩
        rcases List.mem_append.1 hx with hx | hx
        · exact ho x hx
        · simp only [List.mem_cons, List.not_mem_nil, or_false] at hx
          rcases hx with rfl | rfl
          · exact hs a
          · exact hs b
      · rw [wts_end_bad h1 (by omega)] at h
        cases h
    · by_cases h2 : out.length + 1 ≤ 255
      · rw [wts_step (by omega) h2] at h
        refine wts_fine hs f _ _ _ _ ws (fun x hx => ?_) h
        rcases List.mem_append.1 hx with hx | hx
        · exact ho x hx
        · simp only [List.mem_singleton] at hx
          subst hx
          exact hs a
      · rw [wts_bad (by omega) (by omega)] at h
        cases h

theorem wtsOf_fine {ds ws : List Nat} (h : wtsOf ds = some ws) : (∀ x ∈ ws, x < 256) ∧ ws.length ≤ 255 := by
  unfold wtsOf at h
  split at h
  · cases h
  · rename_i L ps q hde
    have hds := desc_some hde (by decide)
    have hsh := hds.2.2.2.2.2.1
    have hpl := hds.2.2.2.2.2.2.1
    split at h
    · cases h
    · split at h
      · cases h
      · exact wts_fine (symOf_lt hsh (by omega)) _ _ _ _ _ _ (fun x hx => by cases hx) h

/-- Half-bytes behind the head. -/
def nibAt (ds : List Nat) (i : Nat) : Nat := ds.getD (1 + i / 2) 0 / 2 ^ (4 - i % 2 * 4) % 16
def nibs (ds : List Nat) (n : Nat) : List Nat := (List.range n).map (nibAt ds)
theorem nibs_succ (ds : List Nat) (n : Nat) : nibs ds (n + 1) = nibs ds n ++ [nibAt ds n] := by simp [nibs, List.range_succ]
theorem nibs_length (ds : List Nat) (n : Nat) : (nibs ds n).length = n := by simp [nibs]
theorem nibAt_lt (ds : List Nat) (i : Nat) : nibAt ds i < 16 := Nat.mod_lt _ (by decide)
theorem nibs_lt {ds : List Nat} {n x : Nat} (h : x ∈ nibs ds n) : x < 16 := by
  simp only [nibs, List.mem_map] at h
  obtain ⟨i, _, rfl⟩ := h
  exact nibAt_lt ds i

/-- How many bytes lie behind the head. -/
def bodyOf (h : Nat) : Nat := if 128 ≤ h then (h - 126) / 2 else h
/-- The weights that a description tells. -/
def wtsIn (ds : List Nat) : Option (List Nat) := if 128 ≤ ds.getD 0 0 then some (nibs ds (ds.getD 0 0 - 127)) else wtsOf ((ds.drop 1).take (ds.getD 0 0))
/-- The tree of a description, and how long the description is. -/
def treeS (ds : List Nat) : Option (List Nat × Nat × Nat) :=
  if ds.length = 0 then none
  else if ds.length < 1 + bodyOf (ds.getD 0 0) then none
  else (wtsIn ds).bind fun ws => (treeP ws).map fun t => (t.1, t.2, 1 + bodyOf (ds.getD 0 0))
theorem wtsIn_fine {ds ws : List Nat} (hd : Bytes ds) (h : wtsIn ds = some ws) : (∀ x ∈ ws, x < 256) ∧ ws.length ≤ 255 := by
  unfold wtsIn at h
  split at h
  · obtain rfl := Option.some.inj h
    refine ⟨fun x hx => Nat.lt_of_lt_of_le (nibs_lt hx) (by decide), ?_⟩
    rw [nibs_length]
    have : ds.getD 0 0 < 256 := by
      rw [List.getD_eq_getElem?_getD]
      cases hg : ds[0]? with
      | none => decide
      | some x => exact hd x (List.mem_of_getElem? hg)
    omega
  · exact wtsOf_fine h
end

section
theorem pr_pos {N T S : Nat} : ∀ (n : Nat) (z : Bool) (pos left : Nat) (out ps : List Int) (e : Nat), T - pos < n → pr N T S z pos left out = some (ps, e) → pos ≤ e := by
  intro n
  induction n with
  | zero => intro z pos left out ps e h; omega
  | succ n ih =>
    intro z pos left out ps e hn he
    cases z with
    | true =>
      by_cases h : T < pos + 2 ∨ S < out.length + rdb N pos 2
      · rw [pr_zeros_bad h] at he; cases he
      · rw [pr_zeros (by omega) (by omega)] at he
        have := ih _ _ _ _ _ _ (by omega) he
        omega
    | false =>
      by_cases h0 : left = 0
      · subst h0
        rw [pr_done] at he
        simp only [Option.some.injEq, Prod.mk.injEq] at he
        omega
      · by_cases h : T < pos + wof N pos left ∨ S ≤ out.length
        · rw [pr_bad h0 h] at he; cases he
        · have hw := wof_pos N pos h0
          rw [pr_step h0 (by omega) (by omega)] at he
          have := ih _ _ _ _ _ _ (by omega) he
          omega

/-- What is told within K bits behind bit s. -/
def cutAt (s K : Nat) (r : Option (List Int × Nat)) : Option (List Int × Nat) := r.bind fun x => if x.2 ≤ s + K then some (x.1, x.2 - s) else none
theorem cutAt_none (s K : Nat) : cutAt s K none = none := rfl
theorem cutAt_late {s K p : Nat} {r : Option (List Int × Nat)} (h : ∀ ps e, r = some (ps, e) → p ≤ e) (hp : s + K < p) : cutAt s K r = none := by
  cases r with
  | none => rfl
  | some x =>
    have := h x.1 x.2 rfl
    simp only [cutAt, Option.bind_some]
    rw [if_neg (by omega)]

theorem pr_window {N' N s K T S : Nat} (H : ∀ pos n, pos + n ≤ K → rdb N' pos n = rdb N (s + pos) n) (hK : s + K ≤ T) :
    ∀ (n : Nat) (z : Bool) (pos left : Nat) (out : List Int), K - pos < n → pos ≤ K → pr N' K S z pos left out = cutAt s K (pr N T S z (s + pos) left out) := by
  intro n
  induction n with
  | zero => intro z pos left out h; omega
  | succ n ih =>
    intro z pos left out hn hp
    cases z with
    | true =>
      by_cases h1 : K < pos + 2
      · rw [pr_zeros_bad (.inl h1)]
        by_cases h2 : T < s + pos + 2 ∨ S < out.length + rdb N (s + pos) 2
        · rw [pr_zeros_bad h2, cutAt_none]
        · rw [pr_zeros (by omega) (by omega)]
          exact (cutAt_late (fun ps e he => pr_pos _ _ _ _ _ _ _ (Nat.lt_succ_self _) he) (by omega)).symm
      · have e := H pos 2 (by omega)
        by_cases h2 : S < out.length + rdb N (s + pos) 2
        · rw [pr_zeros_bad (.inr (by rw [e]; exact h2)), pr_zeros_bad (.inr h2), cutAt_none]
        · rw [pr_zeros (by omega) (by rw [e]; omega), pr_zeros (by omega) (by omega), e, ih _ _ _ _ (by omega) (by omega), Nat.add_assoc]
    | false =>
      by_cases h0 : left = 0
      · subst h0
        rw [pr_done, pr_done]
        simp only [cutAt, Option.bind_some]
        rw [if_pos (by omega), Nat.add_sub_cancel_left]
      · by_cases hv : pos + vk left ≤ K
        · have e := H pos (vk left) hv
          have ew : wof N' pos left = wof N (s + pos) left := by unfold wof; rw [e]
          by_cases hw : pos + wof N (s + pos) left ≤ K
          · have ev : vof N' pos left = vof N (s + pos) left := by
              unfold vof
              rw [e]
              by_cases hf : rdb N (s + pos) (vk left) < vfew left
              · rw [if_pos hf, if_pos hf]
              · have e2 : wof N (s + pos) left = vk left + 1 := by unfold wof; rw [if_neg hf]
                rw [e2] at hw
                rw [H pos (vk left + 1) (by omega)]
            have hwp := wof_pos N (s + pos) h0
            by_cases hS : S ≤ out.length
            · rw [pr_bad h0 (.inr hS), pr_bad h0 (.inr hS), cutAt_none]
            · rw [pr_step h0 (by rw [ew]; exact hw) (by omega), pr_step h0 (by omega) (by omega), ev, ew, ih _ _ _ _ (by omega) hw, Nat.add_assoc]
          · rw [pr_bad h0 (.inl (by rw [ew]; omega))]
            by_cases h2 : T < s + pos + wof N (s + pos) left ∨ S ≤ out.length
            · rw [pr_bad h0 h2, cutAt_none]
            · rw [pr_step h0 (by omega) (by omega)]
              exact (cutAt_late (fun ps e he => pr_pos _ _ _ _ _ _ _ (Nat.lt_succ_self _) he) (by omega)).symm
        · have w1 : vk left ≤ wof N' pos left := by unfold wof; split <;> omega
          have w2 : vk left ≤ wof N (s + pos) left := by unfold wof; split <;> omega
          rw [pr_bad h0 (.inl (by omega))]
          by_cases h2 : T < s + pos + wof N (s + pos) left ∨ S ≤ out.length
          · rw [pr_bad h0 h2, cutAt_none]
          · rw [pr_step h0 (by omega) (by omega)]
            exact (cutAt_late (fun ps e he => pr_pos _ _ _ _ _ _ _ (Nat.lt_succ_self _) he) (by omega)).symm

theorem desc_window {N' N s K T S M : Nat} (H : ∀ pos n, pos + n ≤ K → rdb N' pos n = rdb N (s + pos) n) (hK : s + K ≤ T) (L : Nat) (ps : List Int) (e : Nat) :
    desc N' K S M 0 = some (L, ps, e) ↔ desc N T S M s = some (L, ps, s + e) ∧ e ≤ K := by
  unfold desc
  by_cases h4 : K < 4
  · rw [if_pos (.inl (by omega))]
    constructor
    · intro h; cases h
    · rintro ⟨h, he⟩
      split at h
      · cases h
      · obtain ⟨⟨qs, e'⟩, h1, h2⟩ := Option.map_eq_some_iff.1 h
        have := pr_pos _ _ _ _ _ _ _ (Nat.lt_succ_self _) h1
        simp only [Prod.mk.injEq] at h2
        omega
  · have e4 := H 0 4 (by omega)
    rw [Nat.add_zero] at e4
    rw [e4]
    by_cases hM : M < rdb N s 4 + 5
    · rw [if_pos (.inr hM), if_pos (.inr hM)]
      constructor
      · intro h; cases h
      · rintro ⟨h, _⟩; cases h
    · rw [if_neg (by omega), if_neg (by omega), Nat.zero_add, pr_window H hK _ _ 4 _ _ (Nat.lt_succ_self _) (by omega)]
      cases hp : pr N T S false (s + 4) (2 ^ (rdb N s 4 + 5)) [] with
      | none => simp [cutAt]
      | some x =>
        have := pr_pos _ _ _ _ _ x.1 x.2 (Nat.lt_succ_self _) hp
        simp only [cutAt, Option.bind_some, Option.map_some]
        by_cases hx : x.2 ≤ s + K
        · rw [if_pos hx]
          simp only [Option.map_some, Option.some.injEq, Prod.mk.injEq]
          constructor
          · rintro ⟨rfl, rfl, rfl⟩
            exact ⟨⟨rfl, rfl, by omega⟩, by omega⟩
          · rintro ⟨⟨rfl, rfl, h⟩, _⟩
            exact ⟨rfl, rfl, by omega⟩
        · rw [if_neg hx]
          simp only [Option.map_none, Option.some.injEq, Prod.mk.injEq]
          constructor
          · intro h; cases h
          · rintro ⟨⟨rfl, rfl, h⟩, _⟩
            omega

/-- A window of bytes. -/
theorem rdb_window {ds : List Nat} (hd : Bytes ds) {o h pos n : Nat} (hf : pos + n ≤ 8 * h) : rdb (num ((ds.drop o).take h)) pos n = rdb (num ds) (8 * o + pos) n := by
  by_cases hl : h ≤ (ds.drop o).length
  · have hd2 : Bytes (ds.drop o) := fun x hx => hd x (List.mem_of_mem_drop hx)
    have hd3 : Bytes ((ds.drop o).take h) := fun x hx => hd2 x (List.mem_of_mem_take hx)
    have e1 : num (ds.drop o) = num ((ds.drop o).take h) + num ((ds.drop o).drop h) * 2 ^ (8 * h) := by
      have := num_append ((ds.drop o).take h) ((ds.drop o).drop h)
      rw [List.take_append_drop, List.length_take, Nat.min_eq_left hl] at this
      exact this
    have e2 : num ((ds.drop o).take h) < 2 ^ (8 * h) := by
      have := num_lt hd3
      rwa [List.length_take, Nat.min_eq_left hl] at this
    have e3 : num (ds.drop o) % 2 ^ (8 * h) = num ((ds.drop o).take h) := by rw [e1, Nat.add_mul_mod_self_right, Nat.mod_eq_of_lt e2]
    unfold rdb
    rw [← e3, mod_pow_div (by omega), mod_pow_mod (by omega), ← num_drop hd, div_pow_div]
  · rw [List.take_of_length_le (by omega), ← num_drop hd]
    unfold rdb
    rw [div_pow_div]

/-- Weights by turns, read out of other numbers. -/
theorem wts_window {N' N s K : Nat} (H : ∀ pos n, pos + n ≤ K → rdb N' pos n = rdb N (s + pos) n) {L n : Nat} (hL : L ≤ K) (hn : n ≤ L) : N' / 2 ^ (L - n) % 2 ^ n = N / 2 ^ (s + L - n) % 2 ^ n := by
  have := H (L - n) n (by omega)
  unfold rdb at this
  rw [this]
  congr 3
  omega

/-- How a description that tells a tree begins. -/
theorem treeS_some {ds al : List Nat} {m q : Nat} (h : treeS ds = some (al, m, q)) : ds ≠ [] ∧ q = 1 + bodyOf (ds.getD 0 0) ∧ q ≤ ds.length ∧ ∃ ws, wtsIn ds = some ws ∧ treeP ws = some (al, m) := by
  unfold treeS at h
  split at h
  · cases h
  · split at h
    · cases h
    · obtain ⟨ws, h1, h2⟩ := Option.bind_eq_some_iff.1 h
      obtain ⟨⟨al', m'⟩, h3, h4⟩ := Option.map_eq_some_iff.1 h2
      simp only [Prod.mk.injEq] at h4
      obtain ⟨rfl, rfl, rfl⟩ := h4
      refine ⟨?_, rfl, by omega, ws, h1, h3⟩
      rintro rfl
      simp at *
theorem treeS_of {ds al ws : List Nat} {m : Nat} (h0 : 1 + bodyOf (ds.getD 0 0) ≤ ds.length) (h1 : wtsIn ds = some ws) (h2 : treeP ws = some (al, m)) : treeS ds = some (al, m, 1 + bodyOf (ds.getD 0 0)) := by
  unfold treeS
  rw [if_neg (by omega), if_neg (by omega), h1]
  simp [h2]

/-- The weight 1 comes as often as it must. -/
theorem one_even {al : List Nat} {m : Nat} (hs : wsum al = 2 ^ m) (hm : 1 ≤ m) : al.count 1 % 2 = 0 := by
  have h : ∀ l : List Nat, wsum l % 2 = l.count 1 % 2 := by
    intro l
    induction l with
    | nil => rfl
    | cons x r ih =>
      have e : wsum (x :: r) = wc x + wsum r := by simp [wsum]
      rw [e, List.count_cons]
      rcases Nat.eq_zero_or_pos x with h0 | h0
      · subst h0
        simp [wc_zero, ih]
      · obtain ⟨v, rfl⟩ : ∃ v, x = v + 1 := ⟨x - 1, by omega⟩
        rw [wc_succ]
        cases v with
        | zero => simp; omega
        | succ u =>
          have : ¬ u + 1 + 1 = 1 := by omega
          rw [Nat.pow_succ]
          simp only [beq_iff_eq, if_neg this]
          omega
  rw [← h, hs]
  obtain ⟨v, rfl⟩ : ∃ v, m = v + 1 := ⟨m - 1, by omega⟩
  rw [Nat.pow_succ]
  omega
end
end Go.Proofs.YtabaholflahepaaDoor
