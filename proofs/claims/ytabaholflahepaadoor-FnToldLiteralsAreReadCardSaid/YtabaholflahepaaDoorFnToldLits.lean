/-
  The walk of laws.FnToldLiteralsAreRead: it returns true.
-/
import Derived.Test.YtabaholflahepaaDoorEncW
import Derived.Test.YtabaholflahepaaDoorLitD
import Derived.Laws.BytesArg
import Derived.Shelf.Bytes.SlSmallAll
namespace Go.Proofs.YtabaholflahepaaDoor
open Go.RowKit

theorem convW_sl {R : Nat → Prop} {A : Option Addr} {c n : Nat} {ds : List Nat} {w : World} (hs : Sl w R A (u8s ds)) (hn : n = ds.length) : (convert 22 9 (.slice A n c)).run Tryd.prog w = .ok (.string (strOfNums (ds.map (fun x : Nat => (x : Int))))) w := by
  have h22 : Tryd.prog.underlying 22 = some (.slice 5) := by kernel_rfl
  have h5 : Tryd.prog.underlying 5 = some (.int .u8) := by kernel_rfl
  have h9 : Tryd.prog.underlying 9 = some .string := by kernel_rfl
  rcases Nat.eq_zero_or_pos n with h0 | h0
  · subst h0
    have hnil : ds = [] := List.length_eq_zero_iff.1 hn.symm
    subst hnil
    exact Go.Proofs.run_convert_bytes_zero w 22 5 h22 h5 A c 9 h9
  · obtain ⟨g, o, _, rfl, hcell⟩ := hs.get (by simp; omega)
    refine run_convert_bytes_arg w 22 5 h22 h5 g o n c (ds.map (fun x : Nat => (x : Int))) (by simp [hn]) (fun i hi => ?_) 9 h9
    have h := hcell i _ (u8s_at (by omega))
    rw [h, List.getD_eq_getElem?_getD, List.getD_eq_getElem?_getD, List.getElem?_map, List.getElem?_eq_getElem (by omega)]
    rfl
theorem sameW_any {R R' : Nat → Prop} (A A' : Option Addr) (n n' c c' : Nat) (xs : List Nat) (hn : n = xs.length) (hn' : n' = xs.length) (w : World) (hs : Sl w R A (u8s xs)) (hs' : Sl w R' A' (u8s xs)) :
    Calls Tryd.prog 40 #[.slice A n c, .slice A' n' c'] w fun e w' => e = .returned (.bool true) ∧ Kept w w' := by
  have h1 := convW_sl (c := c) hs hn
  have h2 := convW_sl (c := c') hs' hn'
  generalize strOfNums (xs.map (fun x : Nat => (x : Int))) = s at h1 h2
  clear hs hs' hn hn'
  go_enter Tryd.func40, Tryd.ntmps40
  go_wp2
  go_ret
  exact ⟨by simp, Keep.refl _ _⟩

set_option maxHeartbeats 4000000 in
set_option maxRecDepth 4000 in
theorem litTold_any (A : Option Addr) (c : Nat) (t : List Nat) (A' : Option Addr) (c' : Nat) (xs : List Int) (w : World) (hs : Sl w (· < w.heap.size) A (u8s t)) (hcap : t.length ≤ c) (hd : Bytes t) (hn : t.length ≤ 65536)
    (hs' : Sl w (· < w.heap.size) A' (i64s xs)) (hx : I64s xs) (hlen' : xs.length ≤ 2147483647) :
    Calls Tryd.prog 41 #[.slice A t.length c, .slice A' xs.length c'] w fun e w' => Kept w w' ∧ ∃ A9 n9 c9 D, e = .returned (.slice A9 n9 c9) ∧ Hid (n9 = List.length D) ∧ n9 ≤ 1048576 ∧ w'.ownsRow w.heap.size 5 1 (.slice A9 n9 c9) n9 (u8s D) ∧ Hid (Bytes D ∧ ∀ tl, litS (D ++ tl) = (1, t, n9)) := by
  have Hx := Lib.hid hx
  clear hx
  go_enter Tryd.func41, Tryd.ntmps41
  go_upto_region 2 with (fail)
  obtain ⟨cb, hcb⟩ : ∃ x, x = w.heap.size := ⟨_, rfl⟩
  obtain ⟨wb, hwb⟩ : ∃ x, x = cb + 1 := ⟨_, rfl⟩
  obtain ⟨W, hW⟩ : ∃ x, x = (w.alloc (.cells #[.slice A' xs.length c', .int .i64 0] 122)).alloc (.cells #[.pointer (some ⟨w.heap.size, 0, none⟩), .slice none 0 0, .int .i64 0, .int .i64 0, .slice none 0 0, .pointer none, .pointer none, .pointer none, .int .i64 0, .int .i64 0, .int .i64 0, .map none, .int .i64 0] 128) := ⟨_, rfl⟩
  rw [← hW, ← hcb, ← hwb]
  have hkW : Kept w W := by rw [hW]; exact ((Keep.refl _ _).alloc _).alloc _
  have hcz : Chz W (· < w.heap.size) cb 0 := by
    refine ⟨A', xs.length, c', xs, ?_, rfl, hs'.kept hkW, Hx.out, hlen'⟩
    rw [hW, hcb]
    exact (Blk.new w 122 [.slice A' xs.length c', .int .i64 0]).alloc _
  have hwb0 : Blk W wb 128 [.pointer (some ⟨cb, 0, none⟩), .slice none 0 0, .int .i64 0, .int .i64 0, .slice none 0 0, .pointer none, .pointer none, .pointer none, .int .i64 0, .int .i64 0, .int .i64 0, .map none, .int .i64 0] := by
    have hb := Blk.new (w.alloc (.cells #[.slice A' xs.length c', .int .i64 0] 122)) 128 [.pointer (some ⟨w.heap.size, 0, none⟩), .slice none 0 0, .int .i64 0, .int .i64 0, .slice none 0 0, .pointer none, .pointer none, .pointer none, .int .i64 0, .int .i64 0, .int .i64 0, .map none, .int .i64 0]
    have e : (w.alloc (.cells #[.slice A' xs.length c', .int .i64 0] 122)).heap.size = wb := by rw [hwb, hcb]; simp
    rw [e] at hb
    rw [hW, hcb]
    exact hb
  have hcbw : w.heap.size ≤ cb := by rw [hcb]; exact Nat.le_refl _
  have hwbw : w.heap.size ≤ wb := by omega
  have hne : wb ≠ cb := by omega
  have hsz := hkW.size
  have hlw := literalsW_any (R := (· < w.heap.size)) (RT := (· < w.heap.size)) wb cb 0 _ A c t W hwb0 rfl rfl rfl hcz (by omega) (by omega) (fun j hj => by omega) hne (by decide) (hs.kept hkW) (fun j hj => by omega) (by omega) (by omega) hcap hd hn
  have Hlw := Lib.hid hlw
  clear hlw hcz hwb0 hcb hwb hW
  go_wp2_with (go_at_call 67; (with_reducible refine Hlw.out.mono ?_); rintro e w1 ⟨hk1, A9, n9, c9, D, rfl, hn9, hn9b, ho1, hD⟩)
  go_ret
  exact ⟨hkW.then hk1 (fun j hj h => by omega), A9, n9, c9, D, rfl, hn9, hn9b, own_mono ho1 hsz, hD⟩

set_option maxHeartbeats 4000000 in
set_option maxRecDepth 4000 in
theorem fnToldLiteralsAreRead_walk (A : Option Addr) (c : Nat) (t : List Nat) (A' : Option Addr) (c' : Nat) (xs : List Int) (A2 : Option Addr) (c2 : Nat) (bs : List Nat) (w : World) (hs : Sl w (· < w.heap.size) A (u8s t)) (hd : Bytes t) (_hm : t.length ≤ 9223372036854775807) (hcap : t.length ≤ c)
    (hs' : Sl w (· < w.heap.size) A' (i64s xs)) (hx' : I64s xs) (_hm' : xs.length ≤ 9223372036854775807) (hs2 : Sl w (· < w.heap.size) A2 (u8s bs)) (hb : Bytes bs) (_hm2 : bs.length ≤ 9223372036854775807) (he : Errs w.heap.size w) :
    Calls Tryd.prog 15 #[.slice A t.length c, .slice A' xs.length c', .slice A2 bs.length c2] w fun e w' => e = .returned (.bool true) ∧ Kept w w' := by
  by_cases g1 : 2147483647 < t.length
  · go_enter Tryd.func15, Tryd.ntmps15
    go_wp2_with fail
    go_ret
    exact ⟨rfl, Keep.refl _ _⟩
  by_cases g2 : 2147483647 < xs.length
  · go_enter Tryd.func15, Tryd.ntmps15
    go_wp2_with fail
    go_ret
    exact ⟨rfl, Keep.refl _ _⟩
  by_cases g3 : 2147483647 < bs.length
  · go_enter Tryd.func15, Tryd.ntmps15
    go_wp2_with fail
    go_ret
    exact ⟨rfl, Keep.refl _ _⟩
  by_cases g4 : 1048576 < bs.length
  · go_enter Tryd.func15, Tryd.ntmps15
    go_wp2_with fail
    go_ret
    exact ⟨rfl, Keep.refl _ _⟩
  by_cases g5 : 65536 < t.length
  · go_enter Tryd.func15, Tryd.ntmps15
    go_wp2_with fail
    go_ret
    exact ⟨rfl, Keep.refl _ _⟩
  by_cases g6 : 1024 < bs.length
  · go_enter Tryd.func15, Tryd.ntmps15
    go_wp2_with fail
    go_ret
    exact ⟨rfl, Keep.refl _ _⟩
  have htt := litTold_any A c t A' c' xs w hs hcap hd (by omega) hs' hx' (by omega)
  obtain ⟨n, hnn⟩ : ∃ n, n = t.length := ⟨_, rfl⟩
  rw [← hnn] at htt hcap g1 g5 ⊢
  have Htt := Lib.hid htt
  have Hb := Lib.hid hb
  have Hs := Lib.hid hs
  have Hnn := Lib.hid hnn
  clear htt hs hs' hx' hb hd hnn
  go_enter Tryd.func15, Tryd.ntmps15
  go_wp2_with (first
    | (go_at_call 41; (with_reducible refine Htt.out.mono ?_); rintro e w1 ⟨hk1, A9, n9, c9, D, rfl, hn9, hn9b, ho1, hD⟩)
    | (at_builtin; refine wpList_append rfl _ _ rfl elByte hk1 A9 n9 c9 (u8s D) rfl ho1 bs.length (u8s bs) _ rfl (src_sl Tryd.underlying22 (hs2.kept hk1) bs.length c2 (by simp) (u8s_one bs)) (by omega) ?_; intro A4 c4 w4 ho4 hk4 hg4)
    | (at_builtin; refine wpList_append rfl _ _ rfl elByte (hk4.alloc _) A4 (n9 + bs.length) c4 (u8s D ++ u8s bs) rfl (ho4.alloc _) 2 [.int .u8 0, .int .u8 0] _ rfl (src_blk Tryd.underlying22 (Blk.new w4 5 [.int .u8 0, .int .u8 0]) 2 2 (by simp) (by simp [Value.oneCell'])) (by omega) ?_; intro A5 c5 w5 ho5 hk5 hg5))
  have hds : u8s D ++ u8s bs ++ [.int .u8 0, .int .u8 0] = u8s (D ++ (bs ++ [0, 0])) := by rw [u8s_append, u8s_append, List.append_assoc]; rfl
  have hdl : n9 + bs.length + 2 = (D ++ (bs ++ [0, 0])).length := by rw [List.length_append, List.length_append, ← hn9.out, Nat.add_assoc]; rfl
  rw [hds] at ho5
  have hlit := hD.out.2 (bs ++ [0, 0])
  have himp := implLits_any A5 c5 (D ++ (bs ++ [0, 0])) w5 (Sl.of_own ho5) (hD.out.1.append (Hb.out.append bytes_two)) (by rw [← hdl]; omega) (he.kept hk5) (by rw [hlit]; exact .inl rfl)
  rw [← hdl, hlit] at himp
  have Himp := Lib.hid himp
  clear hds hdl ho5 ho4 ho1 hlit himp hk4 hg4 hg5
  refine Himp.out.mono ?_
  rintro e w6 ⟨hk6, hr, _⟩
  obtain ⟨A6, n6, c6, hn6, rfl, ho6⟩ := hr rfl
  have hkf := hk5.trans hk6
  have hsame := sameW_any A6 A n6 n c6 c t hn6.out Hnn.out w6 (Sl.of_own ho6) (Hs.out.kept hkf)
  have Hsame := Lib.hid hsame
  have hzz : ((n9 : Int) == (n9 : Int)) = true := by simp
  clear hsame Himp ho6 hr
  go_wp2_with (go_at_call 40; (with_reducible refine Hsame.out.mono ?_); rintro e w7 ⟨rfl, hk7⟩)
  go_ret
  exact ⟨by simp, hkf.trans hk7⟩
end Go.Proofs.YtabaholflahepaaDoor
