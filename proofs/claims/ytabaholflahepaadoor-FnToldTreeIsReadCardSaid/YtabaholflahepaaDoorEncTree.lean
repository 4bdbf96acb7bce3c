/-
  Contracts of (*writer).treeBytes, spec.TreeTold.
-/
import Derived.Test.YtabaholflahepaaDoorEncFse
namespace Go.Proofs.YtabaholflahepaaDoor
open Go.RowKit

theorem u8s_append (a b : List Nat) : u8s (a ++ b) = u8s a ++ u8s b := by simp [u8s]
theorem Bytes.append {a b : List Nat} (ha : Bytes a) (hb : Bytes b) : Bytes (a ++ b) := fun x hx => (List.mem_append.1 hx).elim (ha x) (hb x)
theorem bytes_two : Bytes [0, 0] := by unfold Bytes; decide

/-- What is owned of two kinds lies apart. -/
theorem own_apart {w : World} {base base' n n' size size' : Nat} {e e' : TypeId} {v v' : Value} {xs xs' : List Value} (h : w.ownsRow base e size v n xs) (h' : w.ownsRow base' e' size' v' n' xs') (hne : e ≠ e') :
    v.ownBlock = none ∨ v.ownBlock ≠ v'.ownBlock := by
  rcases h.2 with ⟨rfl, _⟩ | ⟨g, cap, cur, rfl, _, hh, _⟩
  · exact .inl rfl
  · refine .inr fun heq => ?_
    rcases h'.2 with ⟨rfl, _⟩ | ⟨g', cap', cur', rfl, _, hh', _⟩
    · simp [Value.ownBlock] at heq
    · have : g = g' := by simpa [Value.ownBlock] using heq
      subst this
      rw [hh] at hh'
      injection hh' with hh'
      injection hh' with _ ht
      exact hne ht

section
theorem Lens.two {l : List Nat} {m : Nat} (h : Lens l m) : 2 ≤ l.length := by
  refine Nat.le_of_not_lt fun hlt => ?_
  have hp := h.pos
  obtain ⟨x, hx⟩ : ∃ x, l = [x] := by
    match l, hp, hlt with
    | [x], _, _ => exact ⟨x, rfl⟩
  have h1 := h.last
  have h2 := h.full
  have h3 := h.one
  have h4 := h.le
  subst hx
  simp only [List.length_singleton, Nat.sub_self, List.getD_cons_zero] at h1
  have h5 := h4 x (List.mem_singleton.2 rfl)
  have e : wtsBy m [x] = [wtOf m x] := rfl
  rw [e, wsum_one, wc_wt h1 h5] at h2
  have h6 := (Nat.pow_lt_pow_iff_right (a := 2) (by decide)).2 (show m - x < m by omega)
  omega
theorem wtsBy_take (m : Nat) (l : List Nat) (k : Nat) : wtsBy m (l.take k) = (wtsBy m l).take k := by simp [wtsBy]
theorem wtsBy_push {m k x : Nat} {l : List Nat} (h : l[k]? = some x) : wtsBy m (l.take (k + 1)) = wtsBy m (l.take k) ++ [wtOf m x] := by rw [take_push h]; simp [wtsBy]
theorem or_four {a b : Nat} (ha : a < 16) (hb : b < 16) : Go.bits .or .i64 ((a : Int) * 16) (b : Int) = ((a * 16 + b : Nat) : Int) := by
  have h1 : ((a : Int) * 16) = ((a * 16 : Nat) : Int) := by omega
  have h2 : b ||| a * 2 ^ 4 = b + a * 2 ^ 4 := or_shift (by omega)
  have h3 : (2 : Nat) ^ 4 = 16 := by decide
  rw [h3] at h2
  rw [h1, i64_or_nat _ _ (by omega) (by omega), Nat.or_comm, h2]
  congr 1
  omega

set_option maxHeartbeats 8000000 in
set_option maxRecDepth 4000 in
theorem treeBytes_any {R R' : Nat → Prop} (wb cb k m : Nat) (A : Option Addr) (c : Nat) (l : List Nat) (w : World) (hw : w.cell? ⟨wb, 0, none⟩ = some (.pointer (some ⟨cb, 0, none⟩))) (hwc : wb ≠ cb) (hc : Chz w R cb k) (hRcb : ¬ R cb) (hRw : ∀ j, R j → j < w.heap.size) (hk : k ≤ 1073740000)
    (hs : Sl w R' A (nats l)) (_hR' : ¬ R' cb) (hcap : l.length ≤ c) (hL : Lens l m) :
    Calls Tryd.prog 62 #[.pointer (some ⟨wb, 0, none⟩), .slice A l.length c] w (WbPost R cb k 20 (wtsBy m (l.take (l.length - 1))) w) := by
  obtain ⟨M, hM⟩ : ∃ M, M = l.length := ⟨_, rfl⟩
  have hM2 : 2 ≤ M := by rw [hM]; exact hL.two
  have hM256 : M ≤ 256 := by rw [hM]; exact hL.size
  have hm1 := hL.one
  have hm11 := hL.top
  have hcbw : cb < w.heap.size := by obtain ⟨_, _, _, _, hb, _⟩ := hc; exact hb.lt
  have HL := Lib.hid hL
  have HM := Lib.hid hM
  have Hc := Lib.hid hc
  have HRw := Lib.hid hRw
  rw [← hM] at hcap ⊢
  clear hL hM hc hRw
  have hneq := fun (w : World) (a : Option Addr) (n c n' c' : Nat) => run_neq_slice_nil_any (P := Tryd.prog) w 22 5 a n c n' c' Tryd.underlying22
  go_enter Tryd.func62, Tryd.ntmps62
  go_wp2
  go_loopg [5, 18] (M + 1) (fun g s5 s18 wr => ∃ i mx : Nat, M - i < g ∧ i ≤ M ∧ s18 = .int .i64 i ∧ s5 = .int .i64 mx ∧ mx ≤ 11 ∧ Hid ((∀ x ∈ l.take i, x ≤ mx) ∧ (mx = 0 ∨ mx ∈ l.take i)) ∧ w = wr)
  case atStart => exact ⟨0, 0, by omega, by omega, rfl, rfl, by omega, ⟨by simp, .inl rfl⟩, rfl⟩
  case round =>
    obtain ⟨i, mx, q1, q2, rfl, rfl, q3, q4, rfl⟩ := hrel
    by_cases hi : i < M
    · obtain ⟨g, o, x, hRx, rfl, hcx, hxk⟩ := hs.nat (k := i) (by rw [← HM.out]; exact hi)
      have hxm : x ≤ 11 := by have := HL.out.le x (List.mem_of_getElem? hxk.out); omega
      obtain ⟨y, hy⟩ : ∃ y, y = max mx x := ⟨_, rfl⟩
      have hyi : max (mx : Int) (x : Int) = (y : Int) := by omega
      have hst : (∀ z ∈ l.take (i + 1), z ≤ y) ∧ (y = 0 ∨ y ∈ l.take (i + 1)) := by
        rw [take_push hxk.out]
        refine ⟨fun z hz => ?_, ?_⟩
        · rcases List.mem_append.1 hz with hz | hz
          · have := q4.out.1 z hz; omega
          · rw [List.mem_singleton.1 hz]; omega
        · rw [List.mem_append, List.mem_singleton]
          by_cases h : mx ≤ x
          · right; right; omega
          · rcases q4.out.2 with h0 | h0
            · omega
            · right; left; rw [show y = mx by omega]; exact h0
      have Hst := Lib.hid hst
      have hyb : y ≤ 11 := by omega
      clear hst hy
      go_wp2
      go_roundg (M - i)
      case measure => exact q1
      case rel => exact ⟨i + 1, y, by omega, by omega, rfl, rfl, hyb, Hst.out, rfl⟩
    · obtain rfl : M = i := by omega
      have hmx : mx = m := by
        rw [List.take_of_length_le (by rw [← HM.out]; exact Nat.le_refl _)] at q4
        have h1 := q4.out.1 m HL.out.has
        rcases q4.out.2 with h2 | h2
        · omega
        · have := HL.out.le mx h2; omega
      subst hmx
      clear q1 q2 hi q3 q4
      obtain ⟨M1, rfl⟩ : ∃ x, M = x + 1 := ⟨M - 1, by omega⟩
      obtain ⟨ws, hws⟩ : ∃ x, x = wtsBy mx (l.take M1) := ⟨_, rfl⟩
      have hwl : ws.length = M1 := by rw [hws, wtsBy_length, List.length_take, ← HM.out]; omega
      have hw11 : ∀ x ∈ ws, x < 12 := fun x hx => by
        rw [hws] at hx
        obtain ⟨y, _, rfl⟩ := List.mem_map.1 hx
        have := wt_le mx y
        omega
      rw [Nat.add_sub_cancel, ← hws]
      have Hws := Lib.hid hws
      have Hwl := Lib.hid hwl
      have Hw11 := Lib.hid hw11
      clear hws hwl hw11
      go_wp2
      go_loopg [8, 32] (M1 + 1) (fun g s8 s32 wr => ∃ (i : Nat) (A' : Option Addr) (c' : Nat), M1 - i < g ∧ i ≤ M1 ∧ s32 = .int .i64 i ∧ s8 = .slice A' i c' ∧ wr.ownsRow w.heap.size 3 1 (.slice A' i c') i (nats (ws.take i)) ∧ Kept w wr)
      case atStart => exact ⟨0, none, 0, by omega, by omega, rfl, rfl, by simpa [nats] using World.ownsRow_nil _ _ _ _, Keep.refl _ _⟩
      case round =>
        obtain ⟨i, A', c', q1, q2, rfl, rfl, qo, qk⟩ := hrel
        by_cases hi : i < M1
        · obtain ⟨g, o, x, hRx, rfl, hcx, hxk⟩ := (hs.kept qk).nat (k := i) (by rw [← HM.out]; omega)
          have hxm : x ≤ mx := HL.out.le x (List.mem_of_getElem? hxk.out)
          have hxt : (l.take M1)[i]? = some x := by rw [List.getElem?_take, if_pos hi]; exact hxk.out
          have hwi : ws[i]? = some (wtOf mx x) := by rw [Hws.out, wtsBy, List.getElem?_map, hxt]; rfl
          have hpu := take_push hwi
          obtain ⟨y, hy⟩ : ∃ y, y = wtOf mx x := ⟨_, rfl⟩
          rw [← hy] at hpu
          have Hpu := Lib.hid hpu
          clear hpu hwi hxt
          by_cases hx0 : 0 < x
          · have hyi : (mx : Int) + 1 - (x : Int) = (y : Int) := by rw [hy, wtOf, if_neg (by omega)]; omega
            clear hy
            go_wp2_with (at_builtin; refine wpList_push rfl _ _ rfl elInt qk A' i c' _ rfl qo [.int .i64 (y : Int)] rfl rfl (by simp [Value.oneCell']) (by omega) ?_; intro A2 c2 w2 ho2 hk2 hg2)
            go_roundg (M1 - i)
            case measure => exact q1
            case rel => exact ⟨i + 1, A2, c2, by omega, by omega, rfl, rfl, by rw [Hpu.out, nats_push]; exact ho2, hk2⟩
          · obtain rfl : x = 0 := by omega
            have hy0 : y = 0 := by rw [hy]; rfl
            subst hy0
            clear hy
            have hcx0 : wr.cell? ⟨g, o + i, none⟩ = some (.int .i64 0) := hcx
            clear hcx
            go_wp2_with (at_builtin; refine wpList_push rfl _ _ rfl elInt qk A' i c' _ rfl qo [.int .i64 0] rfl rfl (by simp [Value.oneCell']) (by omega) ?_; intro A2 c2 w2 ho2 hk2 hg2)
            go_roundg (M1 - i)
            case measure => exact q1
            case rel => exact ⟨i + 1, A2, c2, by omega, by omega, rfl, rfl, by rw [Hpu.out, nats_push]; exact ho2, hk2⟩
        · obtain rfl : M1 = i := by omega
          rw [List.take_of_length_le (by rw [Hwl.out]; exact Nat.le_refl _)] at qo
          obtain ⟨g7, rfl, hg7b, hg7l⟩ := own_some qo (by omega)
          have hch := chooser_any cb k 2 wr (Hc.out.kept qk) hRcb (by omega) (by decide) (by decide)
          have hwb := fun k' w' (hk' : k' ≤ k + 1) (hkk : Keep (· = cb) wr w') (hcz : Chz w' R cb k') =>
            weightBytes_any (R' := fun j => w.heap.size ≤ j ∧ j < wr.heap.size) wb cb k' (some ⟨g7, 0, none⟩) c' ws w' (hkk.cell (qk.cell hw (fun h => h)) hwc) hwc hcz hRcb (fun j hj => by have := HRw.out j hj; have := qk.size; have := hkk.size; omega) (by omega) ((Sl.of_own qo).keep hkk (fun j _ h1 h2 => by omega)) (fun h => by omega) (fun j hj => by have := hkk.size; omega) Hw11.out (by rw [Hwl.out]; omega) (by rw [Hwl.out]; omega)
          rw [Hwl.out] at hwb
          have hwat := fun w' (hkk : Keep (· = cb) wr w') j (hj : j < ws.length) => hkk.cell ((qo.cellAt j (by rw [Nat.mul_one, ← Hwl.out]; exact hj)).trans (nats_at hj)) (fun h => by simp only at h; omega)
          have Hch := Lib.hid hch
          have Hwb := Lib.hid hwb
          have Hwat := Lib.hid hwat
          have Hqk := Lib.hid qk
          have hqks := qk.size
          have ew := qk.cell hw (fun h => h)
          have hM1b : ((M1 : Int) == 0) = false := beq_eq_false_iff_ne.2 (by omega)
          clear hch hwb hwat q1 q2 hi qo qk
          by_cases hsel : 128 < M1
          · go_wp2_with (go_at_call 61; (with_reducible refine Hch.out.mono ?_); rintro e w1 ⟨v, k1, rfl, hv, hk1, tc1, hkk1⟩; have hv2 : v = 0 ∨ v = 1 := (by omega); clear hv; have e1 := hkk1.cell ew hwc; rcases hv2 with rfl | rfl)
            all_goals
              go_wp2_with (go_at_call 83; (with_reducible refine (Hwb.out k1 w1 hk1 hkk1 tc1).mono ?_); rintro e w2 ⟨k2, hk2, tc2, hkk2, rfl | ⟨g9, n9, c9, zs, rfl, hn9, hn9b, ho9, ht9⟩⟩)
              all_goals
                have hkk := hkk1.trans hkk2
                try go_wp2
                go_ret
                first
                  | exact ⟨k2, by omega, tc2, (Kept.any Hqk.out (· = cb)).trans hkk, .inl rfl⟩
                  | exact ⟨k2, by omega, tc2, (Kept.any Hqk.out (· = cb)).trans hkk, .inr ⟨g9, n9, c9, zs, rfl, hn9, hn9b, own_mono ho9 (by have := hkk1.size; omega), by rw [Nat.add_sub_cancel, ← Hws.out]; exact ht9⟩⟩
          · go_wp2_with (first
              | (go_at_call 61; (with_reducible refine Hch.out.mono ?_); rintro e w1 ⟨v, k1, rfl, hv, hk1, tc1, hkk1⟩; have hv2 : v = 0 ∨ v = 1 := (by omega); clear hv; have e1 := hkk1.cell ew hwc; rcases hv2 with rfl | rfl)
              | (go_at_call 83; (with_reducible refine (Hwb.out k1 w1 hk1 hkk1 tc1).mono ?_); rintro e w2 ⟨k2, hk2, tc2, hkk2, rfl | ⟨g9, n9, c9, zs, rfl, hn9, hn9b, ho9, ht9⟩⟩))
            · have Hkk1 := Lib.hid hkk1
              have hwc2 := fun j (hj : j < ws.length) => Hwat.out w1 Hkk1.out j hj
              have hw16 : ∀ j, ws.getD j 0 < 16 := fun j => by
                rw [List.getD_eq_getElem?_getD]
                cases hj : ws[j]? with
                | none => simp
                | some x => have := Hw11.out x (List.mem_of_getElem? hj); simpa using (by omega : x < 16)
              have Hwc2 := Lib.hid hwc2
              have Hw16 := Lib.hid hw16
              have hbb := Hkk1.out.size
              clear hwc2 hw16 Hwat Hwb Hch
              try go_wp2
              obtain ⟨go, hgo⟩ : ∃ x, x = w1.heap.size := ⟨_, rfl⟩
              obtain ⟨Wd, hWd⟩ : ∃ x, x = w1.alloc (.cells #[.int .u8 (127 + (M1 : Int))] 5) := ⟨_, rfl⟩
              have hbd : Blk Wd go 5 (u8s (pairs ws 0)) := by
                rw [hWd, hgo]
                refine Blk.cast (Blk.new w1 5 [.int .u8 (127 + (M1 : Int))]) ?_
                simp [pairs, u8s, Hwl.out]
              have hkd : Kept w1 Wd := by rw [hWd]; exact (Keep.refl _ _).alloc _
              have hgw : w1.heap.size ≤ go := by rw [hgo]; exact Nat.le_refl _
              have hod := own_of_blk (base := w1.heap.size) (n := 1) hbd hgw (by rw [u8s_length, pairs_length]) (by unfold maxLen; omega)
              rw [← hgo, ← hWd]
              clear hgo hWd hbd
              go_loopg [13, 14] (M1 + 2) (fun gg s13 s14 wr2 => ∃ (kk : Nat) (A3 : Option Addr) (c3 : Nat), M1 + 1 - 2 * kk < gg ∧ 2 * kk ≤ M1 + 1 ∧ s14 = .int .i64 ((2 * kk : Nat) : Int) ∧ s13 = .slice A3 (kk + 1) c3 ∧ wr2.ownsRow w1.heap.size 5 1 (.slice A3 (kk + 1) c3) (kk + 1) (u8s (pairs ws kk)) ∧ Kept w1 wr2)
              case atStart => exact ⟨0, some ⟨go, 0, none⟩, 1, by omega, by omega, rfl, rfl, hod, hkd⟩
              case round =>
                clear hod hkd
                obtain ⟨kk, A3, c3, t1, t2, rfl, rfl, tow, tk⟩ := hrel
                obtain ⟨i2, hi2⟩ : ∃ x, x = 2 * kk := ⟨_, rfl⟩
                have hi2n : (i2 : Int) + 2 = ((2 * (kk + 1) : Nat) : Int) := by omega
                have Hi2n := Lib.hid hi2n
                rw [← hi2]
                have Hi2 := Lib.hid hi2
                clear hi2n
                by_cases hlt : i2 < M1
                · obtain ⟨x, hx⟩ : ∃ x, x = ws.getD i2 0 := ⟨_, rfl⟩
                  obtain ⟨y, hy⟩ : ∃ y, y = ws.getD (i2 + 1) 0 := ⟨_, rfl⟩
                  have hx16 : x < 16 := by rw [hx]; exact Hw16.out i2
                  have hy16 : y < 16 := by rw [hy]; exact Hw16.out (i2 + 1)
                  have ex := tk.cell (Hwc2.out i2 (by rw [Hwl.out]; exact hlt)) (fun h => h)
                  rw [← hx] at ex
                  have hpk : pk ws kk = x * 16 + y := by rw [pk, ← hi2, ← hx, ← hy]
                  have hpu : u8s (pairs ws (kk + 1)) = u8s (pairs ws kk) ++ [.int .u8 ((x * 16 + y : Nat) : Int)] := by rw [pairs_push, hpk]; simp [u8s]
                  have Hpu := Lib.hid hpu
                  clear hpk hpu hx
                  by_cases hl1 : i2 + 1 < M1
                  · have ey := tk.cell (Hwc2.out (i2 + 1) (by rw [Hwl.out]; exact hl1)) (fun h => h)
                    rw [← hy] at ey
                    have hor := or_four hx16 hy16
                    obtain ⟨v9, hv9⟩ : ∃ v, v = x * 16 + y := ⟨_, rfl⟩
                    rw [← hv9] at hor Hpu
                    have hv256 : v9 < 256 := by omega
                    clear hy hv9 hi2
                    go_wp2_with (at_builtin; refine wpList_push rfl _ _ rfl elByte tk A3 (kk + 1) c3 _ rfl tow [.int .u8 (v9 : Int)] rfl rfl (by simp [Value.oneCell']) (by omega) ?_; intro A6 c6 w6 ho6 hk6 hg6)
                    go_roundg (M1 + 1 - i2)
                    case measure => have := Hi2.out; omega
                    case rel => exact ⟨kk + 1, A6, c6, by have := Hi2.out; omega, by have := Hi2.out; omega, by rw [Hi2n.out], rfl, by rw [Hpu.out]; exact ho6, hk6⟩
                  · have hy0 : y = 0 := by rw [hy, List.getD_eq_getElem?_getD, List.getElem?_eq_none (by rw [Hwl.out]; omega)]; rfl
                    subst hy0
                    have hv16 : (x : Int) * 16 = ((x * 16 : Nat) : Int) := by omega
                    obtain ⟨v9, hv9⟩ : ∃ v, v = x * 16 := ⟨_, rfl⟩
                    rw [← hv9] at hv16
                    rw [Nat.add_zero, ← hv9] at Hpu
                    have hv256 : v9 < 256 := by omega
                    clear hy hv9 hi2
                    go_wp2_with (at_builtin; refine wpList_push rfl _ _ rfl elByte tk A3 (kk + 1) c3 _ rfl tow [.int .u8 (v9 : Int)] rfl rfl (by simp [Value.oneCell']) (by omega) ?_; intro A6 c6 w6 ho6 hk6 hg6)
                    go_roundg (M1 + 1 - i2)
                    case measure => have := Hi2.out; omega
                    case rel => exact ⟨kk + 1, A6, c6, by have := Hi2.out; omega, by have := Hi2.out; omega, by rw [Hi2n.out], rfl, by rw [Hpu.out]; exact ho6, hk6⟩
                · have hkk : kk = (ws.length + 1) / 2 := by rw [Hwl.out]; omega
                  have hpt := pairs_told (ws := ws) (fun x hx => by have := Hw11.out x hx; omega) (by rw [Hwl.out]; omega) (by rw [Hwl.out]; omega)
                  rw [← hkk] at hpt
                  have Hpt := Lib.hid hpt
                  have hkkb : kk ≤ 200 := by omega
                  obtain ⟨g3, rfl, hg3b, hg3l⟩ := own_some tow (by omega)
                  have Hto := Lib.hid tow
                  clear hpt hkk tow hi2
                  go_wp2
                  go_ret
                  refine ⟨k1, by omega, tc1.kept tk, ((Kept.any Hqk.out (· = cb)).trans Hkk1.out).then tk (fun _ _ h => h.elim), .inr ⟨g3, kk + 1, c3, pairs ws kk, rfl, by show _ = _; rw [pairs_length], by omega, ?_, by rw [Nat.add_sub_cancel, ← Hws.out]; exact Hpt.out⟩⟩
                  exact own_mono Hto.out (by omega)
            · have Hkk2 := Lib.hid (hkk1.trans hkk2)
              have hwc2 := fun j (hj : j < ws.length) => Hwat.out w2 Hkk2.out j hj
              have hw16 : ∀ j, ws.getD j 0 < 16 := fun j => by
                rw [List.getD_eq_getElem?_getD]
                cases hj : ws[j]? with
                | none => simp
                | some x => have := Hw11.out x (List.mem_of_getElem? hj); simpa using (by omega : x < 16)
              have Hwc2 := Lib.hid hwc2
              have Hw16 := Lib.hid hw16
              have hbb := Hkk2.out.size
              clear hwc2 hw16 Hwat Hwb Hch
              try go_wp2
              obtain ⟨go, hgo⟩ : ∃ x, x = w2.heap.size := ⟨_, rfl⟩
              obtain ⟨Wd, hWd⟩ : ∃ x, x = w2.alloc (.cells #[.int .u8 (127 + (M1 : Int))] 5) := ⟨_, rfl⟩
              have hbd : Blk Wd go 5 (u8s (pairs ws 0)) := by
                rw [hWd, hgo]
                refine Blk.cast (Blk.new w2 5 [.int .u8 (127 + (M1 : Int))]) ?_
                simp [pairs, u8s, Hwl.out]
              have hkd : Kept w2 Wd := by rw [hWd]; exact (Keep.refl _ _).alloc _
              have hgw : w2.heap.size ≤ go := by rw [hgo]; exact Nat.le_refl _
              have hod := own_of_blk (base := w2.heap.size) (n := 1) hbd hgw (by rw [u8s_length, pairs_length]) (by unfold maxLen; omega)
              rw [← hgo, ← hWd]
              clear hgo hWd hbd
              go_loopg [13, 14] (M1 + 2) (fun gg s13 s14 wr2 => ∃ (kk : Nat) (A3 : Option Addr) (c3 : Nat), M1 + 1 - 2 * kk < gg ∧ 2 * kk ≤ M1 + 1 ∧ s14 = .int .i64 ((2 * kk : Nat) : Int) ∧ s13 = .slice A3 (kk + 1) c3 ∧ wr2.ownsRow w2.heap.size 5 1 (.slice A3 (kk + 1) c3) (kk + 1) (u8s (pairs ws kk)) ∧ Kept w2 wr2)
              case atStart => exact ⟨0, some ⟨go, 0, none⟩, 1, by omega, by omega, rfl, rfl, hod, hkd⟩
              case round =>
                clear hod hkd
                obtain ⟨kk, A3, c3, t1, t2, rfl, rfl, tow, tk⟩ := hrel
                obtain ⟨i2, hi2⟩ : ∃ x, x = 2 * kk := ⟨_, rfl⟩
                have hi2n : (i2 : Int) + 2 = ((2 * (kk + 1) : Nat) : Int) := by omega
                have Hi2n := Lib.hid hi2n
                rw [← hi2]
                have Hi2 := Lib.hid hi2
                clear hi2n
                by_cases hlt : i2 < M1
                · obtain ⟨x, hx⟩ : ∃ x, x = ws.getD i2 0 := ⟨_, rfl⟩
                  obtain ⟨y, hy⟩ : ∃ y, y = ws.getD (i2 + 1) 0 := ⟨_, rfl⟩
                  have hx16 : x < 16 := by rw [hx]; exact Hw16.out i2
                  have hy16 : y < 16 := by rw [hy]; exact Hw16.out (i2 + 1)
                  have ex := tk.cell (Hwc2.out i2 (by rw [Hwl.out]; exact hlt)) (fun h => h)
                  rw [← hx] at ex
                  have hpk : pk ws kk = x * 16 + y := by rw [pk, ← hi2, ← hx, ← hy]
                  have hpu : u8s (pairs ws (kk + 1)) = u8s (pairs ws kk) ++ [.int .u8 ((x * 16 + y : Nat) : Int)] := by rw [pairs_push, hpk]; simp [u8s]
                  have Hpu := Lib.hid hpu
                  clear hpk hpu hx
                  by_cases hl1 : i2 + 1 < M1
                  · have ey := tk.cell (Hwc2.out (i2 + 1) (by rw [Hwl.out]; exact hl1)) (fun h => h)
                    rw [← hy] at ey
                    have hor := or_four hx16 hy16
                    obtain ⟨v9, hv9⟩ : ∃ v, v = x * 16 + y := ⟨_, rfl⟩
                    rw [← hv9] at hor Hpu
                    have hv256 : v9 < 256 := by omega
                    clear hy hv9 hi2
                    go_wp2_with (at_builtin; refine wpList_push rfl _ _ rfl elByte tk A3 (kk + 1) c3 _ rfl tow [.int .u8 (v9 : Int)] rfl rfl (by simp [Value.oneCell']) (by omega) ?_; intro A6 c6 w6 ho6 hk6 hg6)
                    go_roundg (M1 + 1 - i2)
                    case measure => have := Hi2.out; omega
                    case rel => exact ⟨kk + 1, A6, c6, by have := Hi2.out; omega, by have := Hi2.out; omega, by rw [Hi2n.out], rfl, by rw [Hpu.out]; exact ho6, hk6⟩
                  · have hy0 : y = 0 := by rw [hy, List.getD_eq_getElem?_getD, List.getElem?_eq_none (by rw [Hwl.out]; omega)]; rfl
                    subst hy0
                    have hv16 : (x : Int) * 16 = ((x * 16 : Nat) : Int) := by omega
                    obtain ⟨v9, hv9⟩ : ∃ v, v = x * 16 := ⟨_, rfl⟩
                    rw [← hv9] at hv16
                    rw [Nat.add_zero, ← hv9] at Hpu
                    have hv256 : v9 < 256 := by omega
                    clear hy hv9 hi2
                    go_wp2_with (at_builtin; refine wpList_push rfl _ _ rfl elByte tk A3 (kk + 1) c3 _ rfl tow [.int .u8 (v9 : Int)] rfl rfl (by simp [Value.oneCell']) (by omega) ?_; intro A6 c6 w6 ho6 hk6 hg6)
                    go_roundg (M1 + 1 - i2)
                    case measure => have := Hi2.out; omega
                    case rel => exact ⟨kk + 1, A6, c6, by have := Hi2.out; omega, by have := Hi2.out; omega, by rw [Hi2n.out], rfl, by rw [Hpu.out]; exact ho6, hk6⟩
                · have hkk : kk = (ws.length + 1) / 2 := by rw [Hwl.out]; omega
                  have hpt := pairs_told (ws := ws) (fun x hx => by have := Hw11.out x hx; omega) (by rw [Hwl.out]; omega) (by rw [Hwl.out]; omega)
                  rw [← hkk] at hpt
                  have Hpt := Lib.hid hpt
                  have hkkb : kk ≤ 200 := by omega
                  obtain ⟨g3, rfl, hg3b, hg3l⟩ := own_some tow (by omega)
                  have Hto := Lib.hid tow
                  clear hpt hkk tow hi2
                  go_wp2
                  go_ret
                  refine ⟨k2, by omega, tc2.kept tk, ((Kept.any Hqk.out (· = cb)).trans Hkk2.out).then tk (fun _ _ h => h.elim), .inr ⟨g3, kk + 1, c3, pairs ws kk, rfl, by show _ = _; rw [pairs_length], by omega, ?_, by rw [Nat.add_sub_cancel, ← Hws.out]; exact Hpt.out⟩⟩
                  exact own_mono Hto.out (by omega)
            · have hkk := hkk1.trans hkk2
              go_ret
              exact ⟨k2, by omega, tc2, (Kept.any Hqk.out (· = cb)).trans hkk, .inr ⟨g9, n9, c9, zs, rfl, hn9, hn9b, own_mono ho9 (by have := hkk1.size; omega), by rw [Nat.add_sub_cancel, ← Hws.out]; exact ht9⟩⟩
end

section
theorem own_cap {w : World} {base n size : Nat} {e : TypeId} {A : Option Addr} {c : Nat} {xs : List Value} (h : w.ownsRow base e size (.slice A n c) n xs) : n ≤ c := by
  rcases h.2 with ⟨_, h0⟩ | ⟨g, cap, cur, hv, hb, hg, hnc, _⟩
  · omega
  · injection hv with h1 h2 h3
    omega

/-- What spec.TreeTold hands back: nothing, or a description and how many bits each symbol has. -/
def TreeToldPost (w : World) (e : Ending) (w' : World) : Prop :=
  Kept w w' ∧ ((∃ v, e = .returned (.tuple #[.slice none 0 0, v])) ∨
    ∃ g n c zs A' n' c' l m, e = .returned (.tuple #[.slice (some ⟨g, 0, none⟩) n c, .slice A' n' c']) ∧ Hid (n = List.length zs) ∧ Hid (n' = List.length l) ∧ n ≤ 256 ∧ w'.ownsRow w.heap.size 5 1 (.slice (some ⟨g, 0, none⟩) n c) n (u8s zs) ∧
      w'.ownsRow w.heap.size 3 1 (.slice A' n' c') n' (nats l) ∧ Hid (Lens l m ∧ TellsW zs (wtsBy m (l.take (l.length - 1)))))

set_option maxHeartbeats 4000000 in
set_option maxRecDepth 4000 in
theorem treeTold_any (A : Option Addr) (c : Nat) (cs : List Int) (A' : Option Addr) (c' : Nat) (xs : List Int) (w : World) (hs : Sl w (· < w.heap.size) A (i64s cs)) (hs' : Sl w (· < w.heap.size) A' (i64s xs)) (hx : I64s xs) (hlen : cs.length ≤ 2147483647) (hlen' : xs.length ≤ 2147483647) :
    Calls Tryd.prog 34 #[.slice A cs.length c, .slice A' xs.length c'] w (TreeToldPost w) := by
  have Hx := Lib.hid hx
  clear hx
  go_enter Tryd.func34, Tryd.ntmps34
  go_wp2
  go_loopg [6, 13] (cs.length + 1) (fun g s6 s13 wr => ∃ i u : Nat, cs.length - i < g ∧ i ≤ cs.length ∧ s13 = .int .i64 i ∧ s6 = .int .i64 u ∧ u ≤ i ∧ Hid (u = (posAt 0 (cs.take i)).length) ∧ w = wr)
  case atStart => exact ⟨0, 0, by omega, by omega, rfl, rfl, by omega, rfl, rfl⟩
  case round =>
    obtain ⟨i, u, q1, q2, rfl, rfl, q3, q4, rfl⟩ := hrel
    by_cases hlt : i < cs.length
    · obtain ⟨g, o, x, hR, rfl, hcx, hxk⟩ := hs.i64 hlt
      have hpu := posAt_push hxk.out
      have Hpu := Lib.hid hpu
      clear hpu
      by_cases hpos : 0 < x
      · go_wp2
        go_roundg (cs.length - i)
        case measure => exact q1
        case rel => exact ⟨i + 1, u + 1, by omega, by omega, rfl, rfl, by omega, by show _ = _; rw [Hpu.out, if_pos hpos, List.length_append, ← q4.out]; rfl, rfl⟩
      · go_wp2
        go_roundg (cs.length - i)
        case measure => exact q1
        case rel => exact ⟨i + 1, u, by omega, by omega, rfl, rfl, by omega, by show _ = _; rw [Hpu.out, if_neg (by omega), List.append_nil]; exact q4.out, rfl⟩
    · obtain ⟨M, hM⟩ : ∃ M, M = cs.length := ⟨_, rfl⟩
      obtain rfl : i = M := by omega
      rw [hM, List.take_length] at q4
      by_cases hu : u < 2
      · go_wp2
        go_ret2
        exact ⟨Keep.refl _ _, .inl ⟨_, rfl⟩⟩
      by_cases h256 : 256 < i
      · go_wp2
        go_ret2
        exact ⟨Keep.refl _ _, .inl ⟨_, rfl⟩⟩
      have HM := Lib.hid hM
      rw [← hM]
      clear hM hlt q1 q2
      go_upto_region 11 with (fail)
      obtain ⟨cb, hcb⟩ : ∃ x, x = w.heap.size := ⟨_, rfl⟩
      obtain ⟨wb, hwb⟩ : ∃ x, x = cb + 1 := ⟨_, rfl⟩
      obtain ⟨W, hW⟩ : ∃ x, x = (w.alloc (.cells #[.slice A' xs.length c', .int .i64 0] 122)).alloc (.cells #[.pointer (some ⟨w.heap.size, 0, none⟩), .slice none 0 0, .int .i64 0, .int .i64 0, .slice none 0 0, .pointer none, .pointer none, .pointer none, .int .i64 0, .int .i64 0, .int .i64 0, .map none, .int .i64 0] 128) := ⟨_, rfl⟩
      rw [← hW, ← hcb, ← hwb]
      have hkW : Kept w W := by rw [hW]; exact ((Keep.refl _ _).alloc _).alloc _
      have hcz : Chz W (· < w.heap.size) cb 0 := by
        refine ⟨A', xs.length, c', xs, ?_, rfl, hs'.kept hkW, Hx.out, hlen'⟩
        rw [hW, hcb]
        exact (Blk.new w 122 [.slice A' xs.length c', .int .i64 0]).alloc _
      have hwb0 : W.cell? ⟨wb, 0, none⟩ = some (.pointer (some ⟨cb, 0, none⟩)) := by
        have hb := Blk.new (w.alloc (.cells #[.slice A' xs.length c', .int .i64 0] 122)) 128 [.pointer (some ⟨w.heap.size, 0, none⟩), .slice none 0 0, .int .i64 0, .int .i64 0, .slice none 0 0, .pointer none, .pointer none, .pointer none, .int .i64 0, .int .i64 0, .int .i64 0, .map none, .int .i64 0]
        have e : (w.alloc (.cells #[.slice A' xs.length c', .int .i64 0] 122)).heap.size = wb := by rw [hwb, hcb]; simp
        rw [e] at hb
        rw [hW, hb.cell 0, hcb]
        rfl
      have hWs : W.heap.size = wb + 1 := by rw [hW, hwb, hcb]; simp
      have hcbw : w.heap.size ≤ cb := by rw [hcb]; exact Nat.le_refl _
      have hR : ¬ cb < w.heap.size := by omega
      have hne : wb ≠ cb := by omega
      have hcw : cb < W.heap.size := by omega
      have hch := chooser_any cb 0 2 W hcz hR (by omega) (by decide) (by decide)
      have hcl := fun d w' (hk : Keep (· = cb) W w') => codeLengths_any A c cs d w' ((hs.kept hkW).keep hk (fun j _ h1 h2 => by omega)) (by rw [← HM.out]; omega) (by rw [← q4.out]; omega)
      rw [← HM.out] at hcl
      have Hch := Lib.hid hch
      have Hcl := Lib.hid hcl
      clear hch hcl hcb hwb hW
      go_wp2_with (first
        | (go_at_call 61; (with_reducible refine Hch.out.mono ?_); rintro e w1 ⟨v, k1, rfl, hv, hk1, tc1, hkk1⟩; clear hv)
        | (go_at_call 60; (with_reducible refine (Hcl.out _ w1 hkk1).mono ?_); rintro e w2 ⟨A2, c2, l, m, rfl, hL, hpos, ho2, hk2⟩; have hkk2 := hkk1.kept hk2; have hcap2 := own_cap ho2; have ho2s := ho2.lt; have htb := treeBytes_any (R' := fun j => w1.heap.size ≤ j ∧ j < w2.heap.size) wb cb k1 m A2 c2 l w2 (hkk2.cell hwb0 hne) hne (tc1.kept hk2) hR (fun j hj => (by have h1 := hkk2.size; omega)) (by omega) (Sl.of_own ho2) (fun h => (by have h1 := hkk1.size; omega)) hcap2 hL; obtain ⟨n2, hn2⟩ : ∃ x, x = List.length l := ⟨_, rfl⟩; have Htb := Lib.hid htb; have HL := Lib.hid hL; have Ho2 := Lib.hid ho2; have Hn2 := Lib.hid hn2; clear htb hL hpos ho2 hcap2 ho2s hn2)
        | (go_at_call 62; (with_reducible refine Htb.out.mono ?_); rintro e w3 ⟨k3, hk3, tc3, hkk3, rfl | ⟨g, n, c9, zs, rfl, hn, hnb, ho3, ht⟩⟩))
      · have hkf : Kept w w3 := hkW.then (hkk2.trans hkk3) (fun j hj h => by omega)
        go_wp2
        go_ret2
        exact ⟨hkf, .inl ⟨_, rfl⟩⟩
      · have hkf : Kept w w3 := hkW.then (hkk2.trans hkk3) (fun j hj h => by omega)
        have hs1 := hkk1.size
        have hs3 := hkk3.size
        go_wp2
        go_ret2
        exact ⟨hkf, .inr ⟨g, n, c9, zs, A2, _, c2, l, m, rfl, hn, rfl, hnb, own_mono ho3 (by have := hkk2.size; omega), own_mono (own_keep Ho2.out hkk3 (fun j hj h => by have := (Ho2.out.lt j hj).1; omega)) (by omega), HL.out, ht⟩⟩
end
end Go.Proofs.YtabaholflahepaaDoor
