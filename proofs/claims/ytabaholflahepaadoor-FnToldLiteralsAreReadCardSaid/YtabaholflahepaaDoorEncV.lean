/-
  Contract of (spec.writer).huffman.
-/
import Derived.Test.YtabaholflahepaaDoorEncI
namespace Go.Proofs.YtabaholflahepaaDoor
open Go.RowKit

theorem u64_or_natV (a b : Nat) (ha : a < 9223372036854775808) (hb : b < 9223372036854775808) : Go.bits .or .u64 (a : Int) (b : Int) = ((a ||| b : Nat) : Int) := by
  have hx : a ||| b < 2 ^ 63 := Nat.or_lt_two_pow (by omega) (by omega)
  show IntKind.u64.wrap ((BitVec.ofInt 64 (a : Int) ||| BitVec.ofInt 64 (b : Int)).toNat : Int) = _
  rw [IntKind.wrap_u64]
  simp only [BitVec.toNat_or, BitVec.ofInt_natCast, BitVec.toNat_ofNat]
  rw [Nat.mod_eq_of_lt (by omega), Nat.mod_eq_of_lt (by omega)]
  omega
/-- What huffman hands back: nothing, or literals that are read as this text. -/
def HufTold (R : Nat → Prop) (wb cb k : Nat) (t : List Nat) (w : World) (e : Ending) (w' : World) : Prop :=
  Keep (fun j => j = wb ∨ j = cb) w w' ∧ (∃ wv, Blk w' wb 128 wv ∧ wv[0]? = some (.pointer (some ⟨cb, 0, none⟩)) ∧ wv.length = 13) ∧ (∃ k', k' ≤ k + 40 ∧ Chz w' R cb k') ∧
  (e = .returned (.slice none 0 0) ∨ ∃ g n c D, e = .returned (.slice (some ⟨g, 0, none⟩) n c) ∧ Hid (n = List.length D) ∧ 0 < n ∧ n ≤ 1048576 ∧ w'.ownsRow w.heap.size 5 1 (.slice (some ⟨g, 0, none⟩) n c) n (u8s D) ∧ Hid (Bytes D ∧ ∀ tl, litS (D ++ tl) = (1, t, n)))

/-- The piece of a text that goes into stream j. -/
def pieceW (t : List Nat) (q j : Nat) : List Nat := (t.take (min ((j + 1) * q) t.length)).drop (j * q)
theorem pieceW_mem {t : List Nat} {q j x : Nat} (h : x ∈ pieceW t q j) : x ∈ t := List.mem_of_mem_take (List.mem_of_mem_drop h)
theorem pieceW_length (t : List Nat) (q j : Nat) : (pieceW t q j).length = min ((j + 1) * q) t.length - j * q := by
  rw [pieceW, List.length_drop, List.length_take]
  omega
theorem pieceW_all {t : List Nat} {q : Nat} (h3 : 3 * q < t.length) (h4 : t.length ≤ 4 * q) : t = pieceW t q 0 ++ (pieceW t q 1 ++ (pieceW t q 2 ++ pieceW t q 3)) := by
  have e : ∀ j, j < 3 → pieceW t q j = (t.drop (j * q)).take q := fun j hj => by
    have : (j + 1) * q ≤ 3 * q := Nat.mul_le_mul_right _ (by omega)
    rw [pieceW, List.drop_take, Nat.min_eq_left (by omega), Nat.succ_mul, Nat.add_sub_cancel_left]
  have e3 : pieceW t q 3 = t.drop (3 * q) := by
    rw [pieceW, Nat.min_eq_right (by omega), List.take_length]
  have s : ∀ k k', k' = k + q → (t.drop k).take q ++ t.drop k' = t.drop k := fun k k' hk => by
    rw [hk, ← List.drop_drop, List.take_append_drop]
  rw [e 0 (by decide), e 1 (by decide), e 2 (by decide), e3, s (2 * q) (3 * q) (by omega), s (1 * q) (2 * q) (by omega), s (0 * q) (1 * q) (by omega), Nat.zero_mul, List.drop_zero]
/-- A slice over a block of its own. -/
def ownSl (p : Nat × List Nat) : Value := .slice (some ⟨p.1, 0, none⟩) p.2.length p.2.length
/-- Of the four streams i are told. -/
def FourAt (w : World) (g4 m : Nat) (l t : List Nat) (q i : Nat) : Prop :=
  ∃ gs : List (Nat × List Nat), gs.length = i ∧ Blk w g4 228 (gs.map ownSl ++ List.replicate (4 - i) (.slice none 0 0)) ∧ ∀ j p, gs[j]? = some p → Stream l m (pieceW t q j) p.2 ∧ Blk w p.1 5 (u8s p.2) ∧ g4 < p.1
section
variable {w w' : World} {g4 m q i : Nat} {l t : List Nat}
theorem FourAt.zero (w : World) (m : Nat) (l t : List Nat) (q : Nat) : FourAt (w.alloc (.cells #[.slice none 0 0, .slice none 0 0, .slice none 0 0, .slice none 0 0] 228)) w.heap.size m l t q 0 :=
  ⟨[], rfl, Blk.new w 228 [.slice none 0 0, .slice none 0 0, .slice none 0 0, .slice none 0 0], fun j p h => by simp at h⟩
theorem FourAt.kept (h : FourAt w g4 m l t q i) (hk : Kept w w') : FourAt w' g4 m l t q i := by
  obtain ⟨gs, h1, h2, h3⟩ := h
  exact ⟨gs, h1, h2.kept hk, fun j p hj => ⟨(h3 j p hj).1, (h3 j p hj).2.1.kept hk, (h3 j p hj).2.2⟩⟩
theorem FourAt.cell (h : FourAt w g4 m l t q i) (hi : i < 4) : w.cell? ⟨g4, i, none⟩ = some (.slice none 0 0) ∧ w.frozen? ⟨g4, i, none⟩ = false ∧ g4 < w.heap.size := by
  obtain ⟨gs, h1, h2, h3⟩ := h
  refine ⟨?_, h2.frozen i, h2.lt⟩
  rw [h2.cell, List.getElem?_append_right (by simp; omega), List.length_map, h1, Nat.sub_self, List.getElem?_replicate, if_pos (by omega)]
theorem FourAt.push (h : FourAt w g4 m l t q i) (hi : i < 4) {gz : Nat} {S : List Nat} (hS : Stream l m (pieceW t q i) S) (hb : Blk w gz 5 (u8s S)) (hg : g4 < gz) : FourAt (w.setCell ⟨g4, i, none⟩ (ownSl (gz, S))) g4 m l t q (i + 1) := by
  obtain ⟨gs, h1, h2, h3⟩ := h
  refine ⟨gs ++ [(gz, S)], by simp [h1], Blk.cast (h2.set i _) ?_, fun j p hj => ?_⟩
  · obtain ⟨k, hk⟩ : ∃ k, 4 - i = k + 1 := ⟨4 - i - 1, by omega⟩
    rw [hk, show 4 - (i + 1) = k by omega, List.replicate_succ, List.set_append_right _ _ (by simp; omega), List.length_map, h1, Nat.sub_self]
    simp
  · by_cases hj2 : j < i
    · rw [List.getElem?_append_left (by omega)] at hj
      have h4 := h3 j p hj
      exact ⟨h4.1, h4.2.1.far (by simp only; omega) _, h4.2.2⟩
    · rw [List.getElem?_append_right (by omega)] at hj
      obtain ⟨h5, h6⟩ := List.getElem?_eq_some_iff.1 hj
      simp at h5
      obtain rfl : j = i := by omega
      simp at h6
      subst h6
      exact ⟨hS, hb.far (by simp only; omega) _, hg⟩
theorem FourAt.four (h : FourAt w g4 m l t q 4) : ∃ z0 S0 z1 S1 z2 S2 z3 S3, Blk w g4 228 [ownSl (z0, S0), ownSl (z1, S1), ownSl (z2, S2), ownSl (z3, S3)] ∧
    (Stream l m (pieceW t q 0) S0 ∧ Blk w z0 5 (u8s S0) ∧ g4 < z0) ∧ (Stream l m (pieceW t q 1) S1 ∧ Blk w z1 5 (u8s S1) ∧ g4 < z1) ∧ (Stream l m (pieceW t q 2) S2 ∧ Blk w z2 5 (u8s S2) ∧ g4 < z2) ∧ (Stream l m (pieceW t q 3) S3 ∧ Blk w z3 5 (u8s S3) ∧ g4 < z3) := by
  obtain ⟨gs, h1, h2, h3⟩ := h
  match gs, h1 with
  | [a, b, c, d], _ => exact ⟨a.1, a.2, b.1, b.2, c.1, c.2, d.1, d.2, h2, h3 0 a rfl, h3 1 b rfl, h3 2 c rfl, h3 3 d rfl⟩
end
theorem run_four0 (w : World) (a b c d : Value) : Sem.run Tryd.prog (Instr.index 228 (.agg #[a, b, c, d]) (.int .i64 0)) w = .ok a w := by kernel_rfl
theorem run_four1 (w : World) (a b c d : Value) : Sem.run Tryd.prog (Instr.index 228 (.agg #[a, b, c, d]) (.int .i64 1)) w = .ok b w := by kernel_rfl
theorem run_four2 (w : World) (a b c d : Value) : Sem.run Tryd.prog (Instr.index 228 (.agg #[a, b, c, d]) (.int .i64 2)) w = .ok c w := by kernel_rfl
theorem run_four3 (w : World) (a b c d : Value) : Sem.run Tryd.prog (Instr.index 228 (.agg #[a, b, c, d]) (.int .i64 3)) w = .ok d w := by kernel_rfl
/-- The lengths that stand ahead of the streams. -/
def lowersW (szs : List Nat) (k : Nat) : List Nat := ((szs.take k).map (lowB · 2)).flatten
theorem lowersW_push {szs : List Nat} {k L : Nat} (h : szs[k]? = some L) : lowersW szs (k + 1) = lowersW szs k ++ lowB L 2 := by
  rw [lowersW, take_push h, List.map_append, List.flatten_append]
  simp [lowersW]
def catW (hdr : List Nat) (Ss : List (List Nat)) (k : Nat) : List Nat := hdr ++ (Ss.take k).flatten

set_option maxHeartbeats 8000000 in
set_option maxRecDepth 20000 in
theorem huffman_any {R RT RC : Nat → Prop} (wb cb k gc d : Nat) (wv : List Value) (A : Option Addr) (c : Nat) (t : List Nat) (cs : List Int) (kd : Nat) (w : World) (hw : Blk w wb 128 wv) (hw0 : wv[0]? = some (.pointer (some ⟨cb, 0, none⟩))) (hw4 : wv[4]? = some (.slice none 0 0)) (hwl : wv.length = 13)
    (hc : Chz w R cb k) (hRc : ¬ R cb) (hRwb : ¬ R wb) (hRl : ∀ j, R j → j < w.heap.size) (hwc : wb ≠ cb) (hk : k ≤ 1073739000)
    (hs : Sl w RT A (u8s t)) (hTl : ∀ j, RT j → j < w.heap.size) (hTw : ¬ RT wb) (hTc : ¬ RT cb) (hcap : t.length ≤ c) (hd : Bytes t) (hn : t.length ≤ 65536) (hn0 : 0 < t.length)
    (hs2 : Sl w RC (some ⟨gc, 0, none⟩) (i64s cs)) (hRC : ∀ j, RC j → j ≠ wb ∧ j ≠ cb) (hcl : cs.length = 256) (hcn : ∀ x ∈ t, ∃ v, cs[x]? = some v ∧ 0 < v) (hdi : d = (posAt 0 cs).length) :
    Calls Tryd.prog 90 #[.pointer (some ⟨wb, 0, none⟩), .slice A t.length c, .slice (some ⟨gc, 0, none⟩) 256 256, .int .i64 (d : Int), .int .i64 (kd : Int)] w (HufTold R wb cb k t w) := by
  have e4 : w.cell? ⟨wb, 4, none⟩ = some (.slice none 0 0) := by rw [hw.cell]; exact hw4
  have e0 : w.cell? ⟨wb, 0, none⟩ = some (.pointer (some ⟨cb, 0, none⟩)) := by rw [hw.cell]; exact hw0
  have f4 := hw.frozen 4
  have hwlt := hw.lt
  have hcblt : cb < w.heap.size := by obtain ⟨_, _, _, _, hb, _⟩ := hc; exact hb.lt
  obtain ⟨n, hnn⟩ : ∃ n, n = t.length := ⟨_, rfl⟩
  have hneq := fun (w : World) (a : Option Addr) (n c n' c' : Nat) => run_neq_slice_nil_any (P := Tryd.prog) w 23 3 a n c n' c' Tryd.underlying23
  have heq2 := fun (w : World) (a : Option Addr) (n c n' c' : Nat) => Lib.run_eql_slice_nil (P := Tryd.prog) w 22 5 a n c n' c' Tryd.underlying22
  have Hw := Lib.hid hw
  have Hc := Lib.hid hc
  have Hs := Lib.hid hs
  have Hs2 := Lib.hid hs2
  have Hd := Lib.hid hd
  have Hcn := Lib.hid hcn
  have HRl := Lib.hid hRl
  have HTl := Lib.hid hTl
  have HRC := Lib.hid hRC
  have Hdi := Lib.hid hdi
  rw [← hnn] at hcap hn hn0 ⊢
  have Hnn := Lib.hid hnn
  have hcell2 : ∀ j, j < 256 → ∃ v : Int, w.cell? ⟨gc, j, none⟩ = some (.int .i64 v) := fun j hj => by
    obtain ⟨g, o, x, _, he, hx, _⟩ := hs2.i64 (k := j) (by omega)
    obtain ⟨rfl, rfl⟩ : gc = g ∧ 0 = o := by simpa using he
    exact ⟨x, by rw [← hx, Nat.zero_add]⟩
  have Hcell2 := Lib.hid hcell2
  clear hw hc hs hs2 hd hcn hRl hTl hRC hdi hnn hcell2
  go_enter Tryd.func90, Tryd.ntmps90
  go_wp2
  go_loopg [11, 37] 257 (fun f s11 s37 wr => ∃ i : Nat, 256 - i < f ∧ i ≤ 256 ∧ s37 = .int .i64 i ∧ s11 = .bool false ∧ w = wr)
  case atStart => exact ⟨0, by omega, by omega, rfl, by first | rfl | simp, rfl⟩
  case round =>
    obtain ⟨i, q1, q2, rfl, rfl, rfl⟩ := hrel
    by_cases hlt : i < 256
    · obtain ⟨v, hcv⟩ := Hcell2.out i hlt
      go_wp2
      go_roundg (256 - i)
      case measure => exact q1
      case rel => exact ⟨i + 1, by omega, by omega, rfl, rfl, rfl⟩
    · obtain ⟨wz, hwz⟩ : ∃ x, x = w := ⟨_, rfl⟩
      go_upto_region 8 with (fail)
      go_cut [72] from 67 to 72 (fun s72 wx => s72 = .bool true ∧ wz = wx)
      case first =>
        go_wp2_with fail
        all_goals
          go_meet
          case rel => exact ⟨rfl, hwz⟩
      case rest =>
      obtain ⟨rfl, rfl⟩ := hcut
      subst hwz
      by_cases hd2 : d < 2
      · go_wp2
        go_ret
        exact ⟨Keep.refl _ _, ⟨wv, Hw.out, hw0, hwl⟩, ⟨k, by omega, Hc.out⟩, .inl rfl⟩
      have hch := chooser_any (R := R) cb k 2 wz Hc.out hRc (by omega) (by decide) (by decide)
      have hcl2 := fun dd w' (hk : Keep (· = cb) wz w') => codeLengths_any (R := RC) (some ⟨gc, 0, none⟩) 256 cs dd w' (Hs2.out.keep hk (fun j _ h1 h2 => (HRC.out j h1).2 h2)) (by omega) (by have := Hdi.out; omega)
      rw [hcl] at hcl2
      have Hch := Lib.hid hch
      have Hcl := Lib.hid hcl2
      clear hch hcl2
      go_upto_region 15 with (first
        | (go_at_call 61; (with_reducible refine Hch.out.mono ?_); rintro e w1 ⟨v, k1, rfl, hv, hk1, tc1, hkk1⟩; clear hv)
        | (go_at_call 60; (with_reducible refine (Hcl.out _ w1 hkk1).mono ?_); rintro e w2 ⟨A2, c2, l, m, rfl, hL, hpos, ho2, hk2⟩; have hkk2 := hkk1.kept hk2; have hcap2 := own_cap ho2; have ho2s := ho2.lt; have htb := treeBytes_any (R' := fun j => w1.heap.size ≤ j ∧ j < w2.heap.size) wb cb k1 m A2 c2 l w2 (hkk2.cell e0 hwc) hwc (tc1.kept hk2) hRc (fun j hj => (by have h1 := hkk2.size; have := HRl.out j hj; omega)) (by omega) (Sl.of_own ho2) (fun h => (by have h1 := hkk1.size; omega)) hcap2 hL; obtain ⟨n2, hn2⟩ : ∃ x, x = List.length l := ⟨_, rfl⟩; have Htb := Lib.hid htb; have HL := Lib.hid hL; have Hpos := Lib.hid hpos; have Ho2 := Lib.hid ho2; have Hn2 := Lib.hid hn2; clear htb hL hpos ho2 hcap2 ho2s hn2)
        | (go_at_call 62; (with_reducible refine Htb.out.mono ?_); rintro e w3 ⟨k3, hk3, tc3, hkk3, rfl | ⟨g3, n3, c9, zs, rfl, hn3, hnb, ho3, ht⟩⟩))
      · have hkf := hkk2.trans hkk3
        go_ret
        exact ⟨hkf.mono (fun j _ h => .inr h), ⟨wv, Hw.out.keep hkf hwc, hw0, hwl⟩, ⟨k3, by omega, tc3⟩, .inl rfl⟩
      have hk03 := hkk2.trans hkk3
      have hw3 := Hw.out.keep hk03 hwc
      have e43 : w3.cell? ⟨wb, 4, none⟩ = some (.slice none 0 0) := hk03.cell e4 hwc
      have f43 := hw3.frozen 4
      have HT := Lib.hid ht
      have hs1 := hkk1.size
      have hs2w := hkk2.size
      have hs3 := hkk3.size
      clear ht Htb e4 f4 Hcl Hch hkk1 hkk2 hk2 tc1 Hcell2
      go_upto_region 16 with (fail)
      obtain ⟨W4, hW4⟩ : ∃ x, x = w3.setCell ⟨wb, 4, none⟩ (.slice A2 l.length c2) := ⟨_, rfl⟩
      have hw4b : Blk W4 wb 128 (wv.set 4 (.slice A2 l.length c2)) := by rw [hW4]; exact hw3.set 4 _
      have hk34 : Keep (· = wb) w3 W4 := by rw [hW4]; exact (Keep.refl (· = wb) w3).set (p := ⟨wb, 4, none⟩) (.inl rfl) _
      rw [← hW4]
      have hk04 : Keep (fun j => j = wb ∨ j = cb) wz W4 := (hk03.mono (fun j _ h => .inr h)).trans (hk34.mono (fun j _ h => .inl h))
      have tc4 : Chz W4 R cb k3 := tc3.keep hk34 (fun h => hwc h.symm) (fun j _ h1 h2 => hRwb (h2 ▸ h1))
      have hsl4 := (Sl.of_own Ho2.out).keep hkk3 (fun j _ h1 h2 => by omega)
      have hsl5 := hsl4.keep hk34 (fun j _ h1 h2 => by omega)
      have hco := codesOf_any A2 c2 m l W4 hsl5 HL.out
      rw [← Hn2.out] at hco
      have Hco := Lib.hid hco
      have ho34 := own_keep ho3 hk34 (fun j hj h => by have := (ho3.lt j hj).1; omega)
      have Ho3 := Lib.hid ho34
      have Hsl5 := Lib.hid hsl5
      have hx4 : W4.cell? ⟨wb, 4, none⟩ = some (.slice A2 l.length c2) := by rw [hw4b.cell, List.getElem?_set_self (by omega)]
      have hx0 : W4.cell? ⟨wb, 0, none⟩ = some (.pointer (some ⟨cb, 0, none⟩)) := by rw [hw4b.cell, List.getElem?_set_ne (by decide)]; exact hw0
      rw [← Hn2.out] at hx4
      have hs4 := hk34.size
      have Htc4 := Lib.hid tc4
      have Hw4b := Lib.hid hw4b
      clear hco hW4 hw3 e43 f43 hsl4 hsl5 ho3 ho34 tc4 tc3 hw4b hk34
      go_upto_region 18 with (go_at_call 108; (with_reducible refine Hco.out.mono ?_); rintro e w5 ⟨gco, rfl, hgco, hbco, hk5⟩)
      have tc5 := Htc4.out.kept hk5
      have hx05 := hk5.cell hx0 (fun h => h)
      have hch2 := chooser_any (R := R) cb k3 2 w5 tc5 hRc (by omega) (by decide) (by decide)
      have Hch2 := Lib.hid hch2
      have Htc5 := Lib.hid tc5
      have Hbco := Lib.hid hbco
      have HW4 := Lib.hid (show cb < gco by omega)
      clear hch2 tc5 hbco
      go_cut [18] from 99 to 112 (fun s18 wx => ∃ (four : Bool) (k5 : Nat), s18 = .bool four ∧ (four = true → 6 ≤ n) ∧ k5 ≤ k3 + 1 ∧ Hid (Chz wx R cb k5) ∧ Keep (· = cb) w5 wx)
      case first =>
        by_cases h6 : 6 ≤ n
        · go_wp2_with (go_at_call 61; (with_reducible refine Hch2.out.mono ?_); rintro e w6 ⟨v6, k6, rfl, hv6, hk6, tc6, hkk6⟩)
          all_goals
            go_meet
            case rel => first | exact ⟨true, k6, rfl, fun _ => h6, hk6, tc6, hkk6⟩ | exact ⟨false, k6, rfl, fun h => (by cases h), hk6, tc6, hkk6⟩ | exact ⟨_, k6, rfl, fun _ => h6, hk6, tc6, hkk6⟩
        · go_wp2
          go_meet
          case rel => exact ⟨false, k3, rfl, fun h => (by cases h), by omega, Htc5.out, Keep.refl _ _⟩
      case rest =>
      obtain ⟨four, k5, rfl, h46, hk5', tc6, hk56⟩ := hcut
      have hk06 : Keep (fun j => j = wb ∨ j = cb) wz wc := (hk04.kept hk5).trans (hk56.mono (fun j _ h => .inr h))
      have hk46 : Keep (· = cb) W4 wc := (Kept.any hk5 _).trans hk56
      have Hk04 := Lib.hid hk04
      have hx46 := hk46.cell hx4 hwc
      have hx06 := hk46.cell hx0 hwc
      clear Htc5 hx05 Hch2 hk04
      obtain ⟨q, hq⟩ : ∃ q, q = (n + 3) / 4 := ⟨_, rfl⟩
      have hqi : ((n : Int) + 3) / 4 = (q : Int) := by omega
      have hqn : 3 * q ≤ n + 3 := by omega
      have Hq := Lib.hid hq
      clear hq
      go_upto_region 20 with (fail)
      try rw [hqi]
      go_cut [123] from 116 to 122 (fun s123 wx => ∃ b : Bool, s123 = .bool b ∧ (four = true → b = false → 3 * q < n) ∧ wc = wx)
      case first =>
        cases four with
        | false =>
          go_wp2
          go_meet
          case rel => exact ⟨false, rfl, fun h => (by cases h), rfl⟩
        | true =>
          by_cases h3 : 3 * q < n
          · go_wp2
            go_meet
            case rel => exact ⟨_, rfl, fun _ _ => h3, rfl⟩
          · have hb1 : decide ((n : Int) - 3 * (q : Int) < 1) = true := decide_eq_true (by omega)
            go_wp2
            go_meet
            case rel => first | exact ⟨true, rfl, fun _ h => (by cases h), rfl⟩ | exact ⟨_, rfl, fun _ h => (by simp at h; omega), rfl⟩
      case rest =>
      obtain ⟨b, rfl, hb3, hww⟩ := hcut
      subst hww
      go_upto_if 123 with (fail)
      go_cut [18] from 116 to 122 (fun s18 wx => ∃ f2 : Bool, s18 = .bool f2 ∧ (f2 = true → 6 ≤ n ∧ 3 * q < n) ∧ Hid (Chz wx R cb k5) ∧ Keep (fun j => j = wb ∨ j = cb) wz wx ∧ Keep (· = cb) W4 wx ∧ Hid (Blk wx gco 3 (nats (codesAll (wtsBy m l) m))))
      case first =>
        cases b with
        | false =>
          go_wp2
          go_meet
          case rel => exact ⟨four, rfl, fun h => ⟨h46 h, hb3 h trivial⟩, tc6, hk06, hk46, Hbco.out.keep hk56 (fun h => by have := HW4.out; omega)⟩
        | true =>
          go_wp2
          go_meet
          case rel => exact ⟨false, rfl, fun h => (by cases h), tc6, hk06, hk46, Hbco.out.keep hk56 (fun h => by have := HW4.out; omega)⟩
      case rest =>
      clear hb3 h46 tc6 hk06 hk46 hk56 hx46 hx06 Hbco
      obtain ⟨f2, rfl, hf2, tc7, hk07, hk47, hbc7⟩ := hcut
      have hx47 := hk47.cell hx4 hwc
      have hx07 := hk47.cell hx0 hwc
      have hal : (codesAll (wtsBy m l) m).length = n2 := by rw [codesAll_length, wtsBy_length, Hn2.out]
      have hcode : ∀ x ∈ codesAll (wtsBy m l) m, x < 1099511627776 := fun x hx => by
        obtain ⟨s, _, rfl⟩ := List.mem_map.1 hx
        split
        · rename_i hv
          have h1 := code_lt (fun w hw => wtsBy_le w hw) HL.out.full hv
          have h2 : 2 ^ (m + 1 - (wtsBy m l).getD s 0) ≤ 2 ^ 12 := Nat.pow_le_pow_right (by decide) (by have := HL.out.top; omega)
          omega
        · omega
      have hsym : ∀ x ∈ t, x < l.length ∧ 0 < l.getD x 0 := fun x hx => by
        obtain ⟨v, h1, h2⟩ := Hcn.out x hx
        have h3 := Hpos.out x v h1 h2
        refine ⟨Classical.byContradiction fun h => ?_, by omega⟩
        rw [List.getD_eq_getElem?_getD, List.getElem?_eq_none (by omega)] at h3
        exact h3 rfl
      have hs47 := hk47.size
      have hstr := fun (w' : World) (hk : Kept wc w') (A' : Option Addr) (c' : Nat) (t' : List Nat) (hs' : Sl w' RT A' (u8s t')) (ht' : ∀ x ∈ t', x ∈ t) (hl' : t'.length ≤ 1048576) => stream_any (R := RT) (R2 := (· = gco)) wb A' (some ⟨gco, 0, none⟩) A2 c' n2 c2 t' (codesAll (wtsBy m l) m) l w' hs' (fun j hj => by have := HTl.out j hj; have := hk07.size; have := hk.size; omega) (Sl.blk (hbc7.out.kept hk)) (fun j hj => by rw [hj]; exact (hbc7.out.kept hk).lt) ((Hsl5.out.keep hk47 (fun j _ h1 h2 => by omega)).kept hk) (fun j hj => by have := hk.size; omega) (by rw [← Hn2.out]; exact hk.cell hx47 (fun h => h)) (by have := hk.size; omega) (fun x hx => Nat.le_trans (HL.out.le x hx) HL.out.top) hcode (fun x hx => ⟨(hsym x (ht' x hx)).1, by rw [hal, Hn2.out]; exact (hsym x (ht' x hx)).1⟩) hl'
      simp only [hal] at hstr
      have Hstr := Lib.hid hstr
      have Hsym := Lib.hid hsym
      have Htc7 := Lib.hid tc7.out
      have Hk07 := Lib.hid hk07
      have hsW := Hs.out.keep hk07 (fun j _ h1 h2 => by rcases h2 with rfl | rfl; exact hTw h1; exact hTc h1)
      have HsW := Lib.hid hsW
      clear hstr hsym hcode hal tc7 hk07 hsW hbc7
      have hw7 := Hw4b.out.keep hk47 hwc
      have hw70 : (wv.set 4 (.slice A2 l.length c2))[0]? = some (.pointer (some ⟨cb, 0, none⟩)) := by rw [List.getElem?_set_ne (by decide)]; exact hw0
      have hw7l : (wv.set 4 (.slice A2 l.length c2)).length = 13 := by rw [List.length_set]; exact hwl
      have hnil : ∀ w', Keep (fun j => j = wb ∨ j = cb) wz w' → Blk w' wb 128 (wv.set 4 (.slice A2 l.length c2)) → (∃ k', k' ≤ k + 40 ∧ Chz w' R cb k') → HufTold R wb cb k t wz (.returned (.slice none 0 0)) w' := fun w' hk hb hch => ⟨hk, ⟨_, hb, hw70, hw7l⟩, hch, .inl rfl⟩
      have Hnil := Lib.hid hnil
      have Hw7 := Lib.hid hw7
      clear hnil hw7
      cases f2 with
      | true =>
        obtain ⟨h6, h3q⟩ := hf2 rfl
        obtain ⟨ga, oa, _, hA, _⟩ := HsW.out.get (by rw [u8s_length, ← Hnn.out]; exact hn0)
        subst hA
        clear hf2 hneq
        go_upto_region 27 with (fail)
        obtain ⟨g4, hg4⟩ : ∃ x, x = wc.heap.size := ⟨_, rfl⟩
        obtain ⟨W5, hW5⟩ : ∃ x, x = wc.alloc (.cells #[.slice none 0 0, .slice none 0 0, .slice none 0 0, .slice none 0 0] 228) := ⟨_, rfl⟩
        rw [← hW5, ← hg4]
        have hkW5 : Kept wc W5 := by rw [hW5]; exact (Keep.refl _ _).alloc _
        have hfo : FourAt W5 g4 m l t q 0 := by rw [hW5, hg4]; exact FourAt.zero wc m l t q
        have hg4c : wc.heap.size ≤ g4 := by omega
        have hwl7 := Hw7.out.lt
        have hcl7 : cb < wc.heap.size := by omega
        clear hW5 hg4
        go_wp2
        go_loopg [131] 5 (fun f s131 wr => ∃ j : Nat, 4 - j < f ∧ j ≤ 4 ∧ s131 = .int .i64 j ∧ FourAt wr g4 m l t q j ∧ Kept wc wr)
        case atStart => exact ⟨0, by omega, by omega, rfl, hfo, hkW5⟩
        case round =>
          clear hfo hkW5
          obtain ⟨j, r1, r2, rfl, rF, rk⟩ := hrel
          by_cases hj : j < 4
          · obtain ⟨B, hB⟩ : ∃ B, B = j * q := ⟨_, rfl⟩
            obtain ⟨F, hF⟩ : ∃ F, F = (j + 1) * q := ⟨_, rfl⟩
            have hFB : F = B + q := by rw [hF, hB, Nat.succ_mul]
            have hB3 : B ≤ 3 * q := by rw [hB]; exact Nat.mul_le_mul_right _ (by omega)
            have hB1 : (j : Int) * (q : Int) = (B : Int) := by rw [hB]; exact (Int.natCast_mul j q).symm
            obtain ⟨E, hE⟩ : ∃ E, E = min F n := ⟨_, rfl⟩
            have hF1 : ((j : Int) + 1) * (q : Int) = (F : Int) := by rw [hF, Int.natCast_mul]; rfl
            have hF4 : F ≤ 100000 := by omega
            have hE1 : min (F : Int) (n : Int) = (E : Int) := by omega
            have hBE : B < E := by omega
            have hEn : E ≤ n := by omega
            obtain ⟨M, hMs⟩ : ∃ M, E - B = M := ⟨_, rfl⟩
            have hMn : M ≤ n := by omega
            have hM0 : 0 < M := by omega
            have hpl : (pieceW t q j).length = M := by rw [pieceW_length, ← Hnn.out, ← hF, ← hB, ← hE, hMs]
            have hsp : Sl wc RT (some ⟨ga, oa + B, none⟩) (u8s (pieceW t q j)) := by
              have h1 := (HsW.out.take E).drop B (some ⟨ga, oa + B, none⟩) (fun _ g o h => by injection h with h; injection h with h1 h2; rw [h1, h2])
              rw [pieceW, ← Hnn.out, ← hF, ← hB, ← hE, u8s, List.map_drop, List.map_take]
              exact h1
            have hp := Hstr.out wr rk (some ⟨ga, oa + B, none⟩) (c - B) (pieceW t q j) (hsp.kept rk) (fun x hx => pieceW_mem hx) (by omega)
            rw [hpl] at hp
            have Hp := Lib.hid hp
            have hcB : ¬ c = B := by omega
            have HF := Lib.hid rF
            clear hp hsp rF hF hB hE hFB
            go_wp2_with (go_at_call 109; (with_reducible refine Hp.out.mono ?_); rintro e w8 ⟨gz, S, hz1, rfl, hz2, hz3, hz4, hz5, hk8⟩; have hS : Stream l m (pieceW t q j) S := ⟨hz1, hz4, hz5⟩; rw [← hz1]; have hc8 := HF.out.kept hk8; obtain ⟨e8, f8, l8⟩ := hc8.cell hj; have h8 : g4 < gz := Nat.lt_of_lt_of_le (HF.out.cell hj).2.2 hz2; have hP8 := hc8.push hj hS hz3 h8; have HP8 := Lib.hid hP8; clear hz1 hz2 hz3 hz4 hz5 hc8 hS hP8 h8)
            go_roundg (4 - j)
            case measure => exact r1
            case rel => exact ⟨j + 1, by omega, by omega, rfl, HP8.out, (rk.trans hk8).set (p := ⟨g4, j, none⟩) (.inr hg4c) _⟩
          · obtain rfl : j = 4 := by omega
            obtain ⟨z0, S0, z1, S1, z2, S2, z3, S3, hb4, ⟨p0, b0, y0⟩, ⟨p1, b1, y1⟩, ⟨p2, b2, y2⟩, p3, b3, y3⟩ := rF.four
            obtain ⟨w6, hw6⟩ : ∃ x, x = wr := ⟨_, rfl⟩
            have hq16 : q ≤ 16384 := by have := Hq.out; omega
            have hSl : ∀ (j : Nat) (S : List Nat), (pieceW t q j).length ≤ 16384 → Stream l m (pieceW t q j) S → S.length ≤ 32768 := fun j S hj h => by
              have h1 := flen_toldB (codesAll (wtsBy m l) m) l (fun x hx => Nat.le_trans (HL.out.le x hx) HL.out.top) (pieceW t q j)
              have h2 := h.1
              rw [hbAll_length] at h2
              omega
            have h4q : n ≤ 4 * q := by have := Hq.out; omega
            have hpl : ∀ j, j < 3 → (pieceW t q j).length = q := fun j hj => by
              have : (j + 1) * q ≤ 3 * q := Nat.mul_le_mul_right _ (by omega)
              rw [pieceW_length, ← Hnn.out, Nat.min_eq_left (by omega), Nat.succ_mul, Nat.add_sub_cancel_left]
            have hpl3 : (pieceW t q 3).length = n - 3 * q := by rw [pieceW_length, ← Hnn.out, Nat.min_eq_right (by omega)]
            have hl0 := hSl 0 S0 (by rw [hpl 0 (by decide)]; exact hq16) p0
            have hl1 := hSl 1 S1 (by rw [hpl 1 (by decide)]; exact hq16) p1
            have hl2 := hSl 2 S2 (by rw [hpl 2 (by decide)]; exact hq16) p2
            have hl3 := hSl 3 S3 (by rw [hpl3]; omega) p3
            have hall : strV (lowB S0.length 2 ++ (lowB S1.length 2 ++ (lowB S2.length 2 ++ (S0 ++ (S1 ++ (S2 ++ S3)))))) m (rowsTo (wtsBy m l) m m) n true = (1, t) :=
              strV_four HL.out Hnn.out Hq.out h6 (pieceW_all (by rw [← Hnn.out]; exact h3q) (by rw [← Hnn.out]; exact h4q)) (hpl 0 (by decide)) (hpl 1 (by decide)) (hpl 2 (by decide)) (by rw [hpl3]; omega) p0 p1 p2 p3 (fun x hx => (Hsym.out x hx).2) (by omega) (by omega) (by omega)
            have hby : Bytes S0 ∧ Bytes S1 ∧ Bytes S2 ∧ Bytes S3 := ⟨p0.2.1, p1.2.1, p2.2.1, p3.2.1⟩
            obtain ⟨L0, hL0⟩ : ∃ x, x = S0.length := ⟨_, rfl⟩
            obtain ⟨L1, hL1⟩ : ∃ x, x = S1.length := ⟨_, rfl⟩
            obtain ⟨L2, hL2⟩ : ∃ x, x = S2.length := ⟨_, rfl⟩
            obtain ⟨L3, hL3⟩ : ∃ x, x = S3.length := ⟨_, rfl⟩
            rw [ownSl, ownSl, ownSl, ownSl] at hb4
            simp only at hb4
            rw [← hL0, ← hL1, ← hL2, ← hL3] at hb4
            rw [← hL0] at hl0
            rw [← hL1] at hl1
            rw [← hL2] at hl2
            rw [← hL3] at hl3
            rw [← hL0, ← hL1, ← hL2] at hall
            rw [← hw6] at hb4 b0 b1 b2 b3 rk ⊢
            have HB4 := Lib.hid hb4
            have HB0 := Lib.hid b0
            have HB1 := Lib.hid b1
            have HB2 := Lib.hid b2
            have HB3 := Lib.hid b3
            have HL0 := Lib.hid hL0
            have HL1 := Lib.hid hL1
            have HL2 := Lib.hid hL2
            have HL3 := Lib.hid hL3
            have Hall := Lib.hid hall
            have Hby := Lib.hid hby
            clear rF hb4 p0 b0 y0 p1 b1 y1 p2 b2 y2 p3 b3 y3 hSl hpl hpl3 hall hby hL0 hL1 hL2 hL3 hw6 r1
            go_wp2
            go_loopg [20, 151] 4 (fun f s20 s151 wx => ∃ (k N : Nat) (A : Option Addr) (c : Nat), 3 - k < f ∧ k ≤ 3 ∧ s151 = .int .i64 k ∧ Hid (N = 2 * k) ∧ N ≤ 6 ∧ s20 = .slice A N c ∧ wx.ownsRow w6.heap.size 5 1 (.slice A N c) N (u8s (lowersW [L0, L1, L2] k)) ∧ Kept w6 wx)
            case atStart => exact ⟨0, 0, none, 0, by omega, by omega, rfl, rfl, by omega, rfl, World.ownsRow_nil _ _ _ _, Keep.refl _ _⟩
            case round =>
              obtain ⟨j, N, A1, c1, s1, s2, rfl, sN, sN6, rfl, so, sk⟩ := hrel
              by_cases hj3 : j < 3
              · obtain ⟨z, L, e8, hL, hLb⟩ : ∃ z L : Nat, wr.cell? ⟨g4, j, none⟩ = some (.slice (some ⟨z, 0, none⟩) L L) ∧ [L0, L1, L2][j]? = some L ∧ L ≤ 32768 := by
                  have hb := HB4.out.kept sk
                  rcases (by omega : j = 0 ∨ j = 1 ∨ j = 2) with rfl | rfl | rfl
                  · exact ⟨z0, L0, hb.cell 0, rfl, hl0⟩
                  · exact ⟨z1, L1, hb.cell 1, rfl, hl1⟩
                  · exact ⟨z2, L2, hb.cell 2, rfl, hl2⟩
                have hpush := lowersW_push hL
                have Hpush := Lib.hid hpush
                have hlow := fun (w' : World) => (show Calls Tryd.prog 91 #[.int .u64 (L : Int), .int .i64 2] w' _ from low_any L 2 (by decide) (by omega) w')
                have Hlow := Lib.hid hlow
                clear hpush hL hlow
                go_wp2_with (first
                  | (go_at_call 91; (with_reducible refine (Hlow.out _).mono ?_); rintro e w12 ⟨A12, c12, rfl, ho12, hk12⟩)
                  | (at_builtin; refine wpList_append rfl _ _ rfl elByte (sk.trans hk12) A1 N c1 (u8s (lowersW [L0, L1, L2] j)) rfl (own_kept so hk12) 2 (u8s (lowB L 2)) _ rfl (src_sl Tryd.underlying22 (Sl.of_own ho12) 2 c12 (by rw [u8s_length, lowB_length]) (u8s_one _)) (by omega) ?_; intro A13 c13 w13 ho13 hk13 hg13))
                go_roundg (3 - j)
                case measure => exact s1
                case rel => exact ⟨j + 1, N + 2, A13, c13, by omega, by omega, rfl, by show _ = _; have := sN.out; omega, by have := sN.out; omega, rfl, by rw [Hpush.out, u8s_append]; exact ho13, hk13⟩
              · obtain rfl : j = 3 := by omega
                obtain rfl : N = 6 := sN.out
                obtain ⟨w7, hw7⟩ : ∃ x, x = wr := ⟨_, rfl⟩
                rw [← hw7] at so sk ⊢
                have hb := HB4.out.kept sk
                have c0 : w7.cell? ⟨g4, 0, none⟩ = some (.slice (some ⟨z0, 0, none⟩) L0 L0) := hb.cell 0
                have c1' : w7.cell? ⟨g4, 1, none⟩ = some (.slice (some ⟨z1, 0, none⟩) L1 L1) := hb.cell 1
                have c2' : w7.cell? ⟨g4, 2, none⟩ = some (.slice (some ⟨z2, 0, none⟩) L2 L2) := hb.cell 2
                have c3' : w7.cell? ⟨g4, 3, none⟩ = some (.slice (some ⟨z3, 0, none⟩) L3 L3) := hb.cell 3
                clear hw7 hb sN s1
                go_wp2
                go_loopg [20, 164] 5 (fun f s20 s164 wx => ∃ (k N : Nat) (A : Option Addr) (c : Nat) (D : List Nat), 4 - k < f ∧ k ≤ 4 ∧ s164 = .int .i64 k ∧ N ≤ 6 + 32768 * k ∧ s20 = .slice A N c ∧ Hid (D = catW (lowersW [L0, L1, L2] 3) [S0, S1, S2, S3] k) ∧ Hid (N = D.length) ∧ wx.ownsRow w6.heap.size 5 1 (.slice A N c) N (u8s D) ∧ Kept w6 wx)
                case atStart => exact ⟨0, 6, A1, c1, lowersW [L0, L1, L2] 3, by omega, by omega, rfl, by omega, rfl, by show _ = _; simp [catW], by show _ = _; simp [lowersW, lowB_length], so, sk⟩
                case round =>
                clear so c0 c1' c2' c3'
                obtain ⟨j, N20, A20, c20, D20, t1, t2, rfl, t3, rfl, tD, tN, tow, tk⟩ := hrel
                by_cases hj4 : j < 4
                rcases (by omega : j = 0 ∨ j = 1 ∨ j = 2 ∨ j = 3) with rfl | rfl | rfl | rfl
                · -- stream 0
                  have hix := fun w a b c d => run_four0 w a b c d
                  go_wp2_with (at_builtin; refine wpList_append rfl _ _ rfl elByte tk A20 N20 c20 (u8s D20) rfl tow L0 (u8s S0) _ rfl (src_blk Tryd.underlying22 (HB0.out.kept tk) L0 L0 (by rw [u8s_length, ← HL0.out, Nat.mul_one]) (u8s_one S0)) (by omega) ?_; intro A21 c21 w21 ho21 hk21 hg21)
                  go_roundg (4 - 0)
                  case measure => exact t1
                  case rel => exact ⟨1, N20 + L0, A21, c21, D20 ++ S0, by omega, by omega, rfl, by omega, rfl, by show _ = _; rw [tD.out]; simp [catW], by show _ = _; rw [List.length_append, ← tN.out, ← HL0.out], by rw [u8s_append]; exact ho21, hk21⟩
                · -- stream 1
                  have hix := fun w a b c d => run_four1 w a b c d
                  go_wp2_with (at_builtin; refine wpList_append rfl _ _ rfl elByte tk A20 N20 c20 (u8s D20) rfl tow L1 (u8s S1) _ rfl (src_blk Tryd.underlying22 (HB1.out.kept tk) L1 L1 (by rw [u8s_length, ← HL1.out, Nat.mul_one]) (u8s_one S1)) (by omega) ?_; intro A21 c21 w21 ho21 hk21 hg21)
                  go_roundg (4 - 1)
                  case measure => exact t1
                  case rel => exact ⟨2, N20 + L1, A21, c21, D20 ++ S1, by omega, by omega, rfl, by omega, rfl, by show _ = _; rw [tD.out]; simp [catW], by show _ = _; rw [List.length_append, ← tN.out, ← HL1.out], by rw [u8s_append]; exact ho21, hk21⟩
                · -- stream 2
                  have hix := fun w a b c d => run_four2 w a b c d
                  go_wp2_with (at_builtin; refine wpList_append rfl _ _ rfl elByte tk A20 N20 c20 (u8s D20) rfl tow L2 (u8s S2) _ rfl (src_blk Tryd.underlying22 (HB2.out.kept tk) L2 L2 (by rw [u8s_length, ← HL2.out, Nat.mul_one]) (u8s_one S2)) (by omega) ?_; intro A21 c21 w21 ho21 hk21 hg21)
                  go_roundg (4 - 2)
                  case measure => exact t1
                  case rel => exact ⟨3, N20 + L2, A21, c21, D20 ++ S2, by omega, by omega, rfl, by omega, rfl, by show _ = _; rw [tD.out]; simp [catW], by show _ = _; rw [List.length_append, ← tN.out, ← HL2.out], by rw [u8s_append]; exact ho21, hk21⟩
                · -- stream 3
                  have hix := fun w a b c d => run_four3 w a b c d
                  go_wp2_with (at_builtin; refine wpList_append rfl _ _ rfl elByte tk A20 N20 c20 (u8s D20) rfl tow L3 (u8s S3) _ rfl (src_blk Tryd.underlying22 (HB3.out.kept tk) L3 L3 (by rw [u8s_length, ← HL3.out, Nat.mul_one]) (u8s_one S3)) (by omega) ?_; intro A21 c21 w21 ho21 hk21 hg21)
                  go_roundg (4 - 3)
                  case measure => exact t1
                  case rel => exact ⟨4, N20 + L3, A21, c21, D20 ++ S3, by omega, by omega, rfl, by omega, rfl, by show _ = _; rw [tD.out]; simp [catW], by show _ = _; rw [List.length_append, ← tN.out, ← HL3.out], by rw [u8s_append]; exact ho21, hk21⟩
                · obtain rfl : j = 4 := by omega
                  obtain ⟨w8, hw8⟩ : ∃ x, x = wr := ⟨_, rfl⟩
                  rw [← hw8] at tow tk ⊢
                  have hD : D20 = lowB L0 2 ++ (lowB L1 2 ++ (lowB L2 2 ++ (S0 ++ (S1 ++ (S2 ++ S3))))) := by
                    rw [tD.out]
                    simp [catW, lowersW]
                  have hDs : strV D20 m (rowsTo (wtsBy m l) m m) n true = (1, t) := by rw [hD]; exact Hall.out
                  have hDb : Bytes D20 := by
                    rw [hD]
                    exact (lowB_bytes _ _).append ((lowB_bytes _ _).append ((lowB_bytes _ _).append (Hby.out.1.append (Hby.out.2.1.append (Hby.out.2.2.1.append Hby.out.2.2.2)))))
                  have hk8 : Kept wc w8 := rk.trans tk
                  have hk48 : Keep (· = cb) W4 w8 := hk47.kept hk8
                  have ho8 := own_keep Ho3.out hk48 (fun j hj h => by have := (Ho3.out.lt j hj).1; omega)
                  have hw28 : w2.heap.size ≤ w8.heap.size := by have := hk48.size; omega
                  have hg3 := (Ho3.out.lt g3 rfl).1
                  have HDs := Lib.hid hDs
                  have HDb := Lib.hid hDb
                  have HN := Lib.hid tN.out
                  have Hto := Lib.hid tow
                  have Ho8 := Lib.hid ho8
                  clear hDs hDb hD tD tow hw8 ho8 Hall Hby HB0 HB1 HB2 HB3 HB4 t1
                  go_upto_region 46 with (at_builtin; refine wpList_app rfl _ _ rfl elByte w2.heap.size (.slice (some ⟨g3, 0, none⟩) n3 c9) n3 (u8s zs) rfl Ho8.out N20 (u8s D20) (src_sl Tryd.underlying22 (Sl.of_own Hto.out) N20 c20 (by rw [u8s_length, ← tN.out, Nat.mul_one]) (u8s_one D20)) (by unfold maxLen; omega) (by omega) hw28 ?_; intro A9 cap9 w9 p1 p2 p3)
                  obtain ⟨T, hT⟩ : ∃ x, x = n3 + N20 := ⟨_, rfl⟩
                  rw [← hT] at p1 ⊢
                  have hk89 : Keep (· = g3) w8 w9 := (Keep.refl (· = g3) w8).grown p2 (fun j hj => .inl (Option.some.inj hj).symm)
                  have hk09 : Keep (fun j => j = wb ∨ j = cb) wz w9 := (Hk07.out.kept hk8).then hk89 (fun j hj h => by omega)
                  have hw9 := (Hw7.out.kept hk8).keep hk89 (fun h => by omega)
                  have htc9 := (Htc7.out.kept hk8).keep hk89 (fun h => by omega) (fun j _ h1 h2 => by have := HRl.out j h1; omega)
                  have hT4 : T ≤ 131400 := by omega
                  have d09 : w9.cell? ⟨wb, 0, none⟩ = some (.pointer (some ⟨cb, 0, none⟩)) := by rw [hw9.cell]; exact hw70
                  have hw29 : w2.heap.size ≤ w9.heap.size := Nat.le_trans hw28 hk89.size
                  have hch3 := chooser_any (R := R) cb k5 3 w9 htc9 hRc (by omega) (by decide) (by decide)
                  have Hch3 := Lib.hid hch3
                  have Hk09 := Lib.hid hk09
                  have Hw9 := Lib.hid hw9
                  have Hp1 := Lib.hid p1
                  have HTT := Lib.hid hT
                  obtain ⟨X, hX⟩ : ∃ x, x = max n T := ⟨_, rfl⟩
                  have hXi : max (n : Int) (T : Int) = (X : Int) := by omega
                  have hXb : X ≤ 140000 := by omega
                  have hXn : n ≤ X := by omega
                  have hXT : T ≤ X := by omega
                  clear hX hT hk09 hw9 htc9 p1 p2 p3 hk89 hch3
                  go_upto_region 49 with (go_at_call 61; (with_reducible refine Hch3.out.mono ?_); rintro e w10 ⟨v10, k10, rfl, hv10, hk10', tc10, hkk10⟩)
                  have hk010 := Hk09.out.trans (hkk10.mono (fun j _ h => .inr h))
                  have hw10 := Hw9.out.keep hkk10 hwc
                  have hp10 := own_keep Hp1.out hkk10 (fun j hj h => by have := (Hp1.out.lt j hj).1; omega)
                  have hw210 : wz.heap.size ≤ w10.heap.size := by have := hkk10.size; omega
                  have Hk010 := Lib.hid hk010
                  have Hw10 := Lib.hid hw10
                  have Hp10 := Lib.hid hp10
                  have Htc10 := Lib.hid tc10
                  have hkx : k10 ≤ k + 40 := by omega
                  clear hk010 hw10 hp10 tc10 hkk10 Hch3 d09 Hp1 Hk09 Hw9
                  go_loopg [27] 4 (fun f s27 wx => ∃ g : Nat, 1 ≤ g ∧ g ≤ 3 ∧ 3 - g < f ∧ s27 = .int .i64 g ∧ Kept w10 wx)
                  case atStart => exact ⟨1 + v10, by omega, by omega, by omega, rfl, Keep.refl _ _⟩
                  case round =>
                  obtain ⟨g, x1, x2, x3, rfl, xk⟩ := hrel
                  obtain ⟨LIM, hlim⟩ : ∃ LIM : Nat, (g = 1 ∧ LIM = 1024) ∨ (g = 2 ∧ LIM = 16384) ∨ (g = 3 ∧ LIM = 262144) := by
                    rcases (by omega : g = 1 ∨ g = 2 ∨ g = 3) with rfl | rfl | rfl
                    · exact ⟨_, .inl ⟨rfl, rfl⟩⟩
                    · exact ⟨_, .inr (.inl ⟨rfl, rfl⟩)⟩
                    · exact ⟨_, .inr (.inr ⟨rfl, rfl⟩)⟩
                  have hA1 : (wr.alloc (.cells #[.int .i64 1024, .int .i64 1024, .int .i64 16384, .int .i64 262144] 3)).cell? ⟨wr.heap.size, g, none⟩ = some (.int .i64 (LIM : Int)) := by
                    have hb := Blk.new wr 3 [.int .i64 1024, .int .i64 1024, .int .i64 16384, .int .i64 262144]
                    rcases hlim with ⟨rfl, rfl⟩ | ⟨rfl, rfl⟩ | ⟨rfl, rfl⟩
                    · exact hb.cell 1
                    · exact hb.cell 2
                    · exact hb.cell 3
                  have qk2 := xk.alloc (.cells #[.int .i64 1024, .int .i64 1024, .int .i64 16384, .int .i64 262144] 3)
                  by_cases hX10 : LIM ≤ X
                  · have hg3' : g + 1 ≤ 3 := by omega
                    clear hlim
                    go_wp2
                    go_roundg (3 - g)
                    case measure => exact x3
                    case rel => exact ⟨g + 1, by omega, by omega, by omega, rfl, qk2⟩
                  go_upto_region 53 with (fail)
                  obtain ⟨w11, hw11⟩ : ∃ x, x = wr.alloc (.cells #[.int .i64 1024, .int .i64 1024, .int .i64 16384, .int .i64 262144] 3) := ⟨_, rfl⟩
                  rw [← hw11] at qk2 ⊢
                  clear hA1 hw11 x3 hv10
                  rcases hlim with ⟨rfl, rfl⟩ | ⟨rfl, rfl⟩ | ⟨rfl, rfl⟩
                  · -- form 1
                    go_upto_region 57 with (fail)
                    generalize hW10 : World.alloc w11 _ = W10
                    have hk10 : Kept w10 W10 := hW10 ▸ qk2.alloc _
                    clear qk2 hW10
                    obtain ⟨V, hV⟩ : ∃ V, V = T * 16384 + n * 16 + 6 := ⟨_, rfl⟩
                    have hnl : n < 1024 := by omega
                    have hTl' : T < 1024 := by omega
                    have hw1 : IntKind.u64.wrap ((T : Int) * 16384) = (T : Int) * 16384 := by rw [IntKind.wrap_u64]; omega
                    have hw2 : IntKind.i64.wrap ((n : Int) * 16) = (n : Int) * 16 := by rw [IntKind.wrap_i64]; omega
                    have hw3 : IntKind.u64.wrap (T : Int) = (T : Int) := by rw [IntKind.wrap_u64]; omega
                    have hw4 : IntKind.i64.wrap 14 = 14 := by decide
                    have hw5 : IntKind.i64.wrap 4 = 4 := by decide
                    have ho1 : Go.bits .or .i64 ((n : Int) * 16) 4 = (n : Int) * 16 + 4 := by
                      have h := i64_or_nat (n * 16) 4 (by omega) (by omega)
                      have e : n * 16 ||| 4 = n * 16 + 4 := by
                        have h2 := or_shift (a := 4) (c := n) (n := 4) (by decide)
                        rw [Nat.or_comm, show (16 : Nat) = 2 ^ 4 by decide, h2]; omega
                      rw [e] at h
                      exact_mod_cast h
                    have ho2 : Go.bits .or .i64 ((n : Int) * 16 + 4) 2 = (n : Int) * 16 + 6 := by
                      have h := i64_or_nat (n * 16 + 4) 2 (by omega) (by omega)
                      have e : (n * 16 + 4) ||| 2 = n * 16 + 6 := by
                        have h2 := or_shift (a := 2) (c := (n * 16 + 4) / 4) (n := 2) (by decide)
                        rw [Nat.or_comm, show n * 16 + 4 = (n * 16 + 4) / 4 * 2 ^ 2 by omega, h2]; omega
                      rw [e] at h
                      exact_mod_cast h
                    have hw6 : IntKind.u64.wrap ((n : Int) * 16 + 6) = (n : Int) * 16 + 6 := by rw [IntKind.wrap_u64]; omega
                    have ho3 : Go.bits .or .u64 ((T : Int) * 16384) ((n : Int) * 16 + 6) = (V : Int) := by
                      have h := u64_or_natV (T * 16384) (n * 16 + 6) (by omega) (by omega)
                      have e : T * 16384 ||| (n * 16 + 6) = V := by
                        have h2 := or_shift (a := n * 16 + 6) (c := T) (n := 14) (by omega)
                        rw [Nat.or_comm, show (16384 : Nat) = 2 ^ 14 by decide, h2, hV]; omega
                      rw [e] at h
                      exact h
                    have HV := Lib.hid hV
                    clear hV
                    go_cut [10] from 210 to 231 (fun s10 wx => ∃ g9 c10, s10 = .slice (some ⟨g9, 0, none⟩) (3 + T) c10 ∧ wx.ownsRow w10.heap.size 5 1 (.slice (some ⟨g9, 0, none⟩) (3 + T) c10) (3 + T) (u8s (lowB V 3 ++ (zs ++ D20))) ∧ Kept w10 wx)
                    case first =>
                      have hlow := fun (w' : World) => (show Calls Tryd.prog 91 #[.int .u64 (V : Int), .int .i64 3] w' _ from low_any V 3 (by decide) (by rw [HV.out]; omega) w')
                      have Hlow := Lib.hid hlow
                      clear hlow
                      have hsz9 := hk10.size
                      go_region_law (first
                        | (go_simp; go_at_call 91; (with_reducible refine (Hlow.out _).mono ?_); rintro e w12 ⟨A12, c12, rfl, ho12, hk12⟩)
                        | (refine step_app rfl _ _ (by rfl) elByte _ (.slice A12 3 c12) 3 (u8s (lowB V 3)) (by rfl) ho12 T (u8s zs ++ u8s D20) (src_sl Tryd.underlying22 (((Sl.of_own Hp10.out).kept hk10).kept ((((Keep.refl _ _).alloc _).drew).trans hk12)) T cap9 (by rw [List.length_append, u8s_length, u8s_length, ← HN.out, ← hn3.out, HTT.out, Nat.mul_one]) (by rw [← u8s_append]; exact u8s_one _)) (by unfold maxLen; omega) (by omega) hk12.size ?_; intro A13 c13 w13 ho13 hg13 hor13))
                      obtain ⟨g13, rfl, hg13b, _⟩ := own_some ho13 (by omega)
                      go_wp2_with fail
                      go_meet
                      case rel =>
                        refine ⟨g13, c13, rfl, ?_, ?_⟩
                        · rw [u8s_append, u8s_append]
                          exact own_mono ho13 (by simp only [World.size_drew, World.size_alloc]; omega)
                        · exact (((hk10.alloc _).drew).trans hk12).grown hg13 (fun j hj => .inr (Nat.le_trans (by simp only [World.size_drew, World.size_alloc]; omega) (ho12.lt j hj).1))
                    case rest =>
                    obtain ⟨g9, c10, rfl, ho10, hk11⟩ := hcut
                    go_wp2
                    go_ret
                    have hT3 : zs.length + D20.length = T := by rw [HTT.out, HN.out, ← hn3.out]
                    refine ⟨Hk010.out.kept hk11, ⟨_, Hw10.out.kept hk11, hw70, hw7l⟩, ⟨k10, hkx, Htc10.out.kept hk11⟩, .inr ⟨g9, 3 + T, c10, lowB V 3 ++ (zs ++ D20), rfl, ?_, by omega, by omega, own_mono ho10 hw210, ?_, fun tl => ?_⟩⟩
                    · show _ = _
                      rw [lowB_len, List.length_append, hT3]
                    · exact (lowB_bytes V 3).append (HT.out.2.2.append HDb.out)
                    · have h9 := litS_huf (f := 1) (n := n) (m := m) (l := l) (zs := zs) (S := D20) (t := t) (tl := tl) (by decide) Hnn.out hn0 (by omega) hnl (by rw [hT3]; exact hTl') HL.out HT.out HDs.out
                      have e1 : (2 : Nat) ^ (4 + wd2 1) = 16384 := by decide
                      have e2 : YtabaholflahepaaDoor.hd2 1 = 3 := rfl
                      rw [e1, e2, hT3, show T * 16384 + n * 16 + 4 * 1 + 2 = V by rw [HV.out]] at h9
                      rw [List.append_assoc]
                      exact h9
                  · -- form 2
                    go_upto_region 57 with (fail)
                    generalize hW10 : World.alloc w11 _ = W10
                    have hk10 : Kept w10 W10 := hW10 ▸ qk2.alloc _
                    clear qk2 hW10
                    obtain ⟨V, hV⟩ : ∃ V, V = T * 262144 + n * 16 + 10 := ⟨_, rfl⟩
                    have hnl : n < 16384 := by omega
                    have hTl' : T < 16384 := by omega
                    have hw1 : IntKind.u64.wrap ((T : Int) * 262144) = (T : Int) * 262144 := by rw [IntKind.wrap_u64]; omega
                    have hw2 : IntKind.i64.wrap ((n : Int) * 16) = (n : Int) * 16 := by rw [IntKind.wrap_i64]; omega
                    have hw3 : IntKind.u64.wrap (T : Int) = (T : Int) := by rw [IntKind.wrap_u64]; omega
                    have hw4 : IntKind.i64.wrap 18 = 18 := by decide
                    have hw5 : IntKind.i64.wrap 8 = 8 := by decide
                    have ho1 : Go.bits .or .i64 ((n : Int) * 16) 8 = (n : Int) * 16 + 8 := by
                      have h := i64_or_nat (n * 16) 8 (by omega) (by omega)
                      have e : n * 16 ||| 8 = n * 16 + 8 := by
                        have h2 := or_shift (a := 8) (c := n) (n := 4) (by decide)
                        rw [Nat.or_comm, show (16 : Nat) = 2 ^ 4 by decide, h2]; omega
                      rw [e] at h
                      exact_mod_cast h
                    have ho2 : Go.bits .or .i64 ((n : Int) * 16 + 8) 2 = (n : Int) * 16 + 10 := by
                      have h := i64_or_nat (n * 16 + 8) 2 (by omega) (by omega)
                      have e : (n * 16 + 8) ||| 2 = n * 16 + 10 := by
                        have h2 := or_shift (a := 2) (c := (n * 16 + 8) / 4) (n := 2) (by decide)
                        rw [Nat.or_comm, show n * 16 + 8 = (n * 16 + 8) / 4 * 2 ^ 2 by omega, h2]; omega
                      rw [e] at h
                      exact_mod_cast h
                    have hw6 : IntKind.u64.wrap ((n : Int) * 16 + 10) = (n : Int) * 16 + 10 := by rw [IntKind.wrap_u64]; omega
                    have ho3 : Go.bits .or .u64 ((T : Int) * 262144) ((n : Int) * 16 + 10) = (V : Int) := by
                      have h := u64_or_natV (T * 262144) (n * 16 + 10) (by omega) (by omega)
                      have e : T * 262144 ||| (n * 16 + 10) = V := by
                        have h2 := or_shift (a := n * 16 + 10) (c := T) (n := 18) (by omega)
                        rw [Nat.or_comm, show (262144 : Nat) = 2 ^ 18 by decide, h2, hV]; omega
                      rw [e] at h
                      exact h
                    have HV := Lib.hid hV
                    clear hV
                    go_cut [10] from 210 to 231 (fun s10 wx => ∃ g9 c10, s10 = .slice (some ⟨g9, 0, none⟩) (4 + T) c10 ∧ wx.ownsRow w10.heap.size 5 1 (.slice (some ⟨g9, 0, none⟩) (4 + T) c10) (4 + T) (u8s (lowB V 4 ++ (zs ++ D20))) ∧ Kept w10 wx)
                    case first =>
                      have hlow := fun (w' : World) => (show Calls Tryd.prog 91 #[.int .u64 (V : Int), .int .i64 4] w' _ from low_any V 4 (by decide) (by rw [HV.out]; omega) w')
                      have Hlow := Lib.hid hlow
                      clear hlow
                      have hsz9 := hk10.size
                      go_region_law (first
                        | (go_simp; go_at_call 91; (with_reducible refine (Hlow.out _).mono ?_); rintro e w12 ⟨A12, c12, rfl, ho12, hk12⟩)
                        | (refine step_app rfl _ _ (by rfl) elByte _ (.slice A12 4 c12) 4 (u8s (lowB V 4)) (by rfl) ho12 T (u8s zs ++ u8s D20) (src_sl Tryd.underlying22 (((Sl.of_own Hp10.out).kept hk10).kept ((((Keep.refl _ _).alloc _).drew).trans hk12)) T cap9 (by rw [List.length_append, u8s_length, u8s_length, ← HN.out, ← hn3.out, HTT.out, Nat.mul_one]) (by rw [← u8s_append]; exact u8s_one _)) (by unfold maxLen; omega) (by omega) hk12.size ?_; intro A13 c13 w13 ho13 hg13 hor13))
                      obtain ⟨g13, rfl, hg13b, _⟩ := own_some ho13 (by omega)
                      go_wp2_with fail
                      go_meet
                      case rel =>
                        refine ⟨g13, c13, rfl, ?_, ?_⟩
                        · rw [u8s_append, u8s_append]
                          exact own_mono ho13 (by simp only [World.size_drew, World.size_alloc]; omega)
                        · exact (((hk10.alloc _).drew).trans hk12).grown hg13 (fun j hj => .inr (Nat.le_trans (by simp only [World.size_drew, World.size_alloc]; omega) (ho12.lt j hj).1))
                    case rest =>
                    obtain ⟨g9, c10, rfl, ho10, hk11⟩ := hcut
                    go_wp2
                    go_ret
                    have hT3 : zs.length + D20.length = T := by rw [HTT.out, HN.out, ← hn3.out]
                    refine ⟨Hk010.out.kept hk11, ⟨_, Hw10.out.kept hk11, hw70, hw7l⟩, ⟨k10, hkx, Htc10.out.kept hk11⟩, .inr ⟨g9, 4 + T, c10, lowB V 4 ++ (zs ++ D20), rfl, ?_, by omega, by omega, own_mono ho10 hw210, ?_, fun tl => ?_⟩⟩
                    · show _ = _
                      rw [lowB_len, List.length_append, hT3]
                    · exact (lowB_bytes V 4).append (HT.out.2.2.append HDb.out)
                    · have h9 := litS_huf (f := 2) (n := n) (m := m) (l := l) (zs := zs) (S := D20) (t := t) (tl := tl) (by decide) Hnn.out hn0 (by omega) hnl (by rw [hT3]; exact hTl') HL.out HT.out HDs.out
                      have e1 : (2 : Nat) ^ (4 + wd2 2) = 262144 := by decide
                      have e2 : YtabaholflahepaaDoor.hd2 2 = 4 := rfl
                      rw [e1, e2, hT3, show T * 262144 + n * 16 + 4 * 2 + 2 = V by rw [HV.out]] at h9
                      rw [List.append_assoc]
                      exact h9
                  · -- form 3
                    go_upto_region 57 with (fail)
                    generalize hW10 : World.alloc w11 _ = W10
                    have hk10 : Kept w10 W10 := hW10 ▸ qk2.alloc _
                    clear qk2 hW10
                    obtain ⟨V, hV⟩ : ∃ V, V = T * 4194304 + n * 16 + 14 := ⟨_, rfl⟩
                    have hnl : n < 262144 := by omega
                    have hTl' : T < 262144 := by omega
                    have hw1 : IntKind.u64.wrap ((T : Int) * 4194304) = (T : Int) * 4194304 := by rw [IntKind.wrap_u64]; omega
                    have hw2 : IntKind.i64.wrap ((n : Int) * 16) = (n : Int) * 16 := by rw [IntKind.wrap_i64]; omega
                    have hw3 : IntKind.u64.wrap (T : Int) = (T : Int) := by rw [IntKind.wrap_u64]; omega
                    have hw4 : IntKind.i64.wrap 22 = 22 := by decide
                    have hw5 : IntKind.i64.wrap 12 = 12 := by decide
                    have ho1 : Go.bits .or .i64 ((n : Int) * 16) 12 = (n : Int) * 16 + 12 := by
                      have h := i64_or_nat (n * 16) 12 (by omega) (by omega)
                      have e : n * 16 ||| 12 = n * 16 + 12 := by
                        have h2 := or_shift (a := 12) (c := n) (n := 4) (by decide)
                        rw [Nat.or_comm, show (16 : Nat) = 2 ^ 4 by decide, h2]; omega
                      rw [e] at h
                      exact_mod_cast h
                    have ho2 : Go.bits .or .i64 ((n : Int) * 16 + 12) 2 = (n : Int) * 16 + 14 := by
                      have h := i64_or_nat (n * 16 + 12) 2 (by omega) (by omega)
                      have e : (n * 16 + 12) ||| 2 = n * 16 + 14 := by
                        have h2 := or_shift (a := 2) (c := (n * 16 + 12) / 4) (n := 2) (by decide)
                        rw [Nat.or_comm, show n * 16 + 12 = (n * 16 + 12) / 4 * 2 ^ 2 by omega, h2]; omega
                      rw [e] at h
                      exact_mod_cast h
                    have hw6 : IntKind.u64.wrap ((n : Int) * 16 + 14) = (n : Int) * 16 + 14 := by rw [IntKind.wrap_u64]; omega
                    have ho3 : Go.bits .or .u64 ((T : Int) * 4194304) ((n : Int) * 16 + 14) = (V : Int) := by
                      have h := u64_or_natV (T * 4194304) (n * 16 + 14) (by omega) (by omega)
                      have e : T * 4194304 ||| (n * 16 + 14) = V := by
                        have h2 := or_shift (a := n * 16 + 14) (c := T) (n := 22) (by omega)
                        rw [Nat.or_comm, show (4194304 : Nat) = 2 ^ 22 by decide, h2, hV]; omega
                      rw [e] at h
                      exact h
                    have HV := Lib.hid hV
                    clear hV
                    go_cut [10] from 210 to 231 (fun s10 wx => ∃ g9 c10, s10 = .slice (some ⟨g9, 0, none⟩) (5 + T) c10 ∧ wx.ownsRow w10.heap.size 5 1 (.slice (some ⟨g9, 0, none⟩) (5 + T) c10) (5 + T) (u8s (lowB V 5 ++ (zs ++ D20))) ∧ Kept w10 wx)
                    case first =>
                      have hlow := fun (w' : World) => (show Calls Tryd.prog 91 #[.int .u64 (V : Int), .int .i64 5] w' _ from low_any V 5 (by decide) (by rw [HV.out]; omega) w')
                      have Hlow := Lib.hid hlow
                      clear hlow
                      have hsz9 := hk10.size
                      go_region_law (first
                        | (go_simp; go_at_call 91; (with_reducible refine (Hlow.out _).mono ?_); rintro e w12 ⟨A12, c12, rfl, ho12, hk12⟩)
                        | (refine step_app rfl _ _ (by rfl) elByte _ (.slice A12 5 c12) 5 (u8s (lowB V 5)) (by rfl) ho12 T (u8s zs ++ u8s D20) (src_sl Tryd.underlying22 (((Sl.of_own Hp10.out).kept hk10).kept ((((Keep.refl _ _).alloc _).drew).trans hk12)) T cap9 (by rw [List.length_append, u8s_length, u8s_length, ← HN.out, ← hn3.out, HTT.out, Nat.mul_one]) (by rw [← u8s_append]; exact u8s_one _)) (by unfold maxLen; omega) (by omega) hk12.size ?_; intro A13 c13 w13 ho13 hg13 hor13))
                      obtain ⟨g13, rfl, hg13b, _⟩ := own_some ho13 (by omega)
                      go_wp2_with fail
                      go_meet
                      case rel =>
                        refine ⟨g13, c13, rfl, ?_, ?_⟩
                        · rw [u8s_append, u8s_append]
                          exact own_mono ho13 (by simp only [World.size_drew, World.size_alloc]; omega)
                        · exact (((hk10.alloc _).drew).trans hk12).grown hg13 (fun j hj => .inr (Nat.le_trans (by simp only [World.size_drew, World.size_alloc]; omega) (ho12.lt j hj).1))
                    case rest =>
                    obtain ⟨g9, c10, rfl, ho10, hk11⟩ := hcut
                    go_wp2
                    go_ret
                    have hT3 : zs.length + D20.length = T := by rw [HTT.out, HN.out, ← hn3.out]
                    refine ⟨Hk010.out.kept hk11, ⟨_, Hw10.out.kept hk11, hw70, hw7l⟩, ⟨k10, hkx, Htc10.out.kept hk11⟩, .inr ⟨g9, 5 + T, c10, lowB V 5 ++ (zs ++ D20), rfl, ?_, by omega, by omega, own_mono ho10 hw210, ?_, fun tl => ?_⟩⟩
                    · show _ = _
                      rw [lowB_len, List.length_append, hT3]
                    · exact (lowB_bytes V 5).append (HT.out.2.2.append HDb.out)
                    · have h9 := litS_huf (f := 3) (n := n) (m := m) (l := l) (zs := zs) (S := D20) (t := t) (tl := tl) (by decide) Hnn.out hn0 (by omega) hnl (by rw [hT3]; exact hTl') HL.out HT.out HDs.out
                      have e1 : (2 : Nat) ^ (4 + wd2 3) = 4194304 := by decide
                      have e2 : YtabaholflahepaaDoor.hd2 3 = 5 := rfl
                      rw [e1, e2, hT3, show T * 4194304 + n * 16 + 4 * 3 + 2 = V by rw [HV.out]] at h9
                      rw [List.append_assoc]
                      exact h9
      | false =>
        by_cases hbig : 1023 < n
        · go_wp2
          go_ret
          exact Hnil.out _ Hk07.out Hw7.out ⟨k5, by omega, Htc7.out⟩
        have hone := Hstr.out wc (Keep.refl _ _) A c t HsW.out (fun x h => h) (by rw [← Hnn.out]; omega)
        rw [← Hnn.out] at hone
        have Hone := Lib.hid hone
        clear hone
        go_upto_region 45 with (go_at_call 109; (with_reducible refine Hone.out.mono ?_); rintro e w8 ⟨gz, S, hz1, rfl, hz2, hz3, hz4, hz5, hk8⟩)
        have hS : Stream l m t S := ⟨hz1, hz4, hz5⟩
        have hfl : (hbAll (toldB (codesAll (wtsBy m l) m) l t)).length ≤ 11 * n := by
          rw [hbAll_length, Hnn.out]
          exact flen_toldB _ _ (fun x hx => Nat.le_trans (HL.out.le x hx) HL.out.top) t
        obtain ⟨L, hLL⟩ : ∃ x, x = (hbAll (toldB (codesAll (wtsBy m l) m) l t)).length / 8 + 1 := ⟨_, rfl⟩
        rw [← hLL] at hz1 ⊢
        have hLb : L ≤ 2048 := by omega
        have hk48 : Keep (· = cb) W4 w8 := hk47.kept hk8
        have ho8 := own_keep Ho3.out hk48 (fun j hj h => by have := (Ho3.out.lt j hj).1; omega)
        have hw28 : w2.heap.size ≤ w8.heap.size := by have := hk48.size; omega
        have hg3 := (Ho3.out.lt g3 rfl).1
        have HS := Lib.hid hS
        have Hz1 := Lib.hid hz1
        have Hz3 := Lib.hid hz3
        have Ho8 := Lib.hid ho8
        clear hS hfl hLL hz1 hz3 hz4 hz5 ho8
        go_upto_region 46 with (at_builtin; refine wpList_app rfl _ _ rfl elByte w2.heap.size (.slice (some ⟨g3, 0, none⟩) n3 c9) n3 (u8s zs) rfl Ho8.out L (u8s S) (src_blk Tryd.underlying22 Hz3.out L L (by rw [u8s_length, Hz1.out]; omega) (u8s_one S)) (by unfold maxLen; omega) (by omega) hw28 ?_; intro A9 cap9 w9 p1 p2 p3)
        obtain ⟨T, hT⟩ : ∃ x, x = n3 + L := ⟨_, rfl⟩
        rw [← hT] at p1 ⊢
        have hk89 : Keep (· = g3) w8 w9 := (Keep.refl (· = g3) w8).grown p2 (fun j hj => .inl (Option.some.inj hj).symm)
        have hk09 : Keep (fun j => j = wb ∨ j = cb) wz w9 := (Hk07.out.kept hk8).then hk89 (fun j hj h => by omega)
        have hw9 := (Hw7.out.kept hk8).keep hk89 (fun h => by omega)
        have htc9 := (Htc7.out.kept hk8).keep hk89 (fun h => by omega) (fun j _ h1 h2 => by have := HRl.out j h1; omega)
        have Hk09 := Lib.hid hk09
        have Hw9 := Lib.hid hw9
        have Htc9 := Lib.hid htc9
        have Hp1 := Lib.hid p1
        have HTT := Lib.hid hT
        have hT4 : T ≤ 4096 := by omega
        clear hk09 hw9 htc9 p1 p2 p3 hk89 hT
        obtain ⟨X, hX⟩ : ∃ x, x = max n T := ⟨_, rfl⟩
        have hXi : max (n : Int) (T : Int) = (X : Int) := by omega
        clear hX
        go_wp2
        go_loopg [27] 2 (fun f s27 wr => 0 < f ∧ s27 = .int .i64 0 ∧ Kept w9 wr)
        case atStart => exact ⟨by omega, rfl, Keep.refl _ _⟩
        case round =>
          obtain ⟨q1, rfl, qk⟩ := hrel
          have hA1 : (wr.alloc (.cells #[.int .i64 1024, .int .i64 1024, .int .i64 16384, .int .i64 262144] 3)).cell? ⟨wr.heap.size, 0, none⟩ = some (.int .i64 1024) := (Blk.new wr 3 [.int .i64 1024, .int .i64 1024, .int .i64 16384, .int .i64 262144]).cell 0
          have qk2 := qk.alloc (.cells #[.int .i64 1024, .int .i64 1024, .int .i64 16384, .int .i64 262144] 3)
          by_cases hX10 : 1024 ≤ X
          · go_wp2
            go_ret
            exact Hnil.out _ (Hk09.out.kept qk2) (Hw9.out.kept qk2) ⟨k5, by omega, Htc9.out.kept qk2⟩
          go_upto_region 57 with (fail)
          generalize hW10 : World.alloc (World.alloc wr _) _ = W10
          have hk10 : Kept w9 W10 := hW10 ▸ (qk.alloc _).alloc _
          clear hA1 qk2 hW10
          obtain ⟨V, hV⟩ : ∃ V, V = T * 16384 + n * 16 + 2 := ⟨_, rfl⟩
          have hw1 : IntKind.u64.wrap ((T : Int) * 16384) = (T : Int) * 16384 := by rw [IntKind.wrap_u64]; omega
          have hw2 : IntKind.i64.wrap ((n : Int) * 16) = (n : Int) * 16 := by rw [IntKind.wrap_i64]; omega
          have hw3 : IntKind.u64.wrap (T : Int) = (T : Int) := by rw [IntKind.wrap_u64]; omega
          have hw4 : IntKind.i64.wrap 14 = 14 := by decide
          have hw5 : IntKind.i64.wrap 0 = 0 := by decide
          have ho1 : Go.bits .or .i64 ((n : Int) * 16) 0 = (n : Int) * 16 := by
            have h := i64_or_nat (n * 16) 0 (by omega) (by omega)
            rw [Nat.or_zero] at h
            exact_mod_cast h
          have ho2 : Go.bits .or .i64 ((n : Int) * 16) 2 = (n : Int) * 16 + 2 := by
            have h := i64_or_nat (n * 16) 2 (by omega) (by omega)
            have e : n * 16 ||| 2 = n * 16 + 2 := by
              have h2 := or_shift (a := 2) (c := n) (n := 4) (by decide)
              rw [Nat.or_comm, show (16 : Nat) = 2 ^ 4 by decide, h2]; omega
            rw [e] at h
            exact_mod_cast h
          have hw6 : IntKind.u64.wrap ((n : Int) * 16 + 2) = (n : Int) * 16 + 2 := by rw [IntKind.wrap_u64]; omega
          have ho3 : Go.bits .or .u64 ((T : Int) * 16384) ((n : Int) * 16 + 2) = (V : Int) := by
            have h := u64_or_natV (T * 16384) (n * 16 + 2) (by omega) (by omega)
            have e : T * 16384 ||| (n * 16 + 2) = V := by
              have h2 := or_shift (a := n * 16 + 2) (c := T) (n := 14) (by omega)
              rw [Nat.or_comm, show (16384 : Nat) = 2 ^ 14 by decide, h2, hV]; omega
            rw [e] at h
            exact h
          have HV := Lib.hid hV
          clear hV
          go_cut [10] from 210 to 231 (fun s10 wx => ∃ g9 c10, s10 = .slice (some ⟨g9, 0, none⟩) (3 + T) c10 ∧ wx.ownsRow w9.heap.size 5 1 (.slice (some ⟨g9, 0, none⟩) (3 + T) c10) (3 + T) (u8s (lowB V 3 ++ (zs ++ S))) ∧ Kept w9 wx)
          case first =>
            have hlow := fun (w' : World) => (show Calls Tryd.prog 91 #[.int .u64 (V : Int), .int .i64 3] w' _ from low_any V 3 (by decide) (by rw [HV.out]; omega) w')
            have Hlow := Lib.hid hlow
            clear hlow
            have hsz9 := hk10.size
            go_region_law (first
              | (go_simp; go_at_call 91; (with_reducible refine (Hlow.out _).mono ?_); rintro e w12 ⟨A12, c12, rfl, ho12, hk12⟩)
              | (refine step_app rfl _ _ (by rfl) elByte _ (.slice A12 3 c12) 3 (u8s (lowB V 3)) (by rfl) ho12 T (u8s zs ++ u8s S) (src_sl Tryd.underlying22 (((Sl.of_own Hp1.out).kept hk10).kept ((((Keep.refl _ _).alloc _).drew).trans hk12)) T cap9 (by rw [List.length_append, u8s_length, u8s_length, Hz1.out, ← hn3.out, HTT.out, Nat.mul_one]) (by rw [← u8s_append]; exact u8s_one _)) (by unfold maxLen; omega) (by omega) hk12.size ?_; intro A13 c13 w13 ho13 hg13 hor13))
            obtain ⟨g13, rfl, hg13b, _⟩ := own_some ho13 (by omega)
            go_wp2_with fail
            go_meet
            case rel =>
              refine ⟨g13, c13, rfl, ?_, ?_⟩
              · rw [u8s_append, u8s_append]
                exact own_mono ho13 (by simp only [World.size_drew, World.size_alloc]; omega)
              · exact (((hk10.alloc _).drew).trans hk12).grown hg13 (fun j hj => .inr (Nat.le_trans (by simp only [World.size_drew, World.size_alloc]; omega) (ho12.lt j hj).1))
          case rest =>
          obtain ⟨g9, c10, rfl, ho10, hk11⟩ := hcut
          go_wp2
          go_ret
          have hT3 : zs.length + S.length = T := by rw [HTT.out, Hz1.out, ← hn3.out]
          have hs9 := Hk09.out.size
          refine ⟨Hk09.out.kept hk11, ⟨_, Hw9.out.kept hk11, hw70, hw7l⟩, ⟨k5, by omega, Htc9.out.kept hk11⟩, .inr ⟨g9, 3 + T, c10, lowB V 3 ++ (zs ++ S), rfl, ?_, by omega, by omega, own_mono ho10 hs9, ?_, fun tl => ?_⟩⟩
          · show _ = _
            rw [lowB_len, List.length_append, hT3]
          · intro y hy
            rcases List.mem_append.1 hy with hy | hy
            · exact lowB_bytes V 3 y hy
            · rcases List.mem_append.1 hy with hy | hy
              · exact HT.out.2.2 y hy
              · exact HS.out.2.1 y hy
          · have h9 := litS_huf (f := 0) (n := n) (m := m) (l := l) (zs := zs) (S := S) (t := t) (tl := tl) (by decide) Hnn.out hn0 (by omega) (show n < 1024 by omega) (show zs.length + S.length < 1024 by omega) HL.out HT.out (by rw [Hnn.out]; exact strV_one HL.out HS.out (fun x hx => (Hsym.out x hx).2))
            have e1 : (2 : Nat) ^ (4 + wd2 0) = 16384 := by decide
            have e2 : YtabaholflahepaaDoor.hd2 0 = 3 := rfl
            rw [e1, e2, hT3, Nat.mul_zero, Nat.add_zero, ← HV.out] at h9
            rw [List.append_assoc]
            exact h9
end Go.Proofs.YtabaholflahepaaDoor
