/-
  Contract of readFSE: a description is read as the states that are made of its shares.
-/
import Derived.Test.YtabaholflahepaaDoorRdP
import Derived.Test.YtabaholflahepaaDoorBits
import Derived.Test.YtabaholflahepaaDoorImplLow
import Derived.Test.YtabaholflahepaaDoorQt
import Derived.Deep.CutRange
namespace Go.Proofs.YtabaholflahepaaDoor
open Go.RowKit

theorem brError {B : Nat} (b rb : Nat) (A : Option Addr) (c : Nat) (ds : List Nat) (pos off : Nat) (s : ByteArray) (w : World) (hb : Blk w b 160 (brCells rb A c ds pos off)) (he : Errs B w) (hr : RdOff w rb) (ho : off < 2 ^ 27) :
    Calls Tryd.prog 97 #[.pointer (some ⟨b, 0, none⟩), .string s] w (ErrPost w) := by
  have c0 : w.cell? ⟨b, 0, none⟩ = some (.pointer (some ⟨rb, 0, none⟩)) := hb.cell 0
  have c2 : w.cell? ⟨b, 2, none⟩ = some (.int .u32 (off : Int)) := hb.cell 2
  have ho2 : off ≤ 134217728 := by omega
  clear hb
  go_enter Tryd.func97, Tryd.ntmps97
  go_wp2
  go_region_held3 (fun w' => w'.cell? ⟨b, 0, none⟩ = some (.pointer (some ⟨rb, 0, none⟩)) ∧ w'.cell? ⟨b, 2, none⟩ = some (.int .u32 (off : Int))) (first | exact ⟨hk.cell c0 (fun h => h), hk.cell c2 (fun h => h)⟩ | go_keep)
    (first | (go_at_call 93; refine (makeError (B := B) rb _ _ _ (he.kept ((Keep.refl _ _).drewN _)) (hr.kept ((Keep.refl _ _).drewN _))).mono ?_; rintro e w' ⟨v, hv, rfl, hk⟩))
  go_wp2
  go_ret
  exact ⟨v, hv, rfl, ((Keep.refl _ _).drewN _).kept hk⟩

/-- What readFSE hands back. -/
def FsePost (w : World) (g : Nat) (cs : List (Nat × Nat × Nat)) (ds : List Nat) (Y M pos : Nat) (e : Ending) (w' : World) : Prop :=
  Keep (· = g) w w' ∧ ((∃ L ps q, desc (num ds) (8 * ds.length) (Y + 1) M pos = some (L, ps, q) ∧ e = .returned (.tuple #[.int .i64 (L : Nat), .int .i64 ((q + 7) / 8 : Nat), .nilIface]) ∧ Blk w' g 181 (flat celE (tab L ps ++ cs.drop (2 ^ L)))) ∨
    (∃ v, IsErr v ∧ e = .returned (.tuple #[.int .i64 0, .int .i64 0, v]) ∧ ∀ L ps q, desc (num ds) (8 * ds.length) (Y + 1) M pos = some (L, ps, q) → 8 * ds.length < q + 16))

theorem u32_and_lit {b : Nat} (n : Nat) (hn : n ≤ 31) (hb : b < 4294967296) : bits .and .u32 (b : Int) (((2 ^ n - 1 : Nat) : Nat) : Int) = ((b % 2 ^ n : Nat) : Int) := by
  have h1 := pow_le_31 hn
  rw [u32_and_nat b _ hb (by omega), and_mask]
theorem br_bits {ds : List Nat} {pos cnt n : Nat} (h : n ≤ cnt) : num ds / 2 ^ pos % 2 ^ cnt % 2 ^ n = rdb (num ds) pos n := mod_pow_mod h

theorem br_skip {w : World} {b rb : Nat} {A : Option Addr} {c : Nat} {ds : List Nat} {pos o n bits cnt : Nat} (hb : Blk w b 160 (brCells rb A c ds pos o)) (hn : n ≤ cnt) (hc : cnt = 8 * o - pos) (hbits : bits = num ds / 2 ^ pos % 2 ^ cnt)
    (x y : Int) (hx : x = (bits : Int) / 2 ^ n) (hy : y = (cnt : Int) - n) : Blk ((w.setCell ⟨b, 3, none⟩ (.int .u32 x)).setCell ⟨b, 4, none⟩ (.int .u32 y)) b 160 (brCells rb A c ds (pos + n) o) := by
  subst hx hy
  exact Blk.cast ((hb.set 3 _).set 4 _) (br_val hn hc hbits)
theorem size216 (w : World) : (sizeOf (Tryd.prog.elem 216)).run Tryd.prog w = .ok 1 w := by kernel_rfl
theorem run_norm (b Y : Nat) (hY : Y ≤ 255) (w : World) : Sem.run Tryd.prog (Instr.sliceAt 216 (.pointer (some ⟨b, 0, none⟩)) none (some (.int .i64 ((Y : Int) + 1))) none) w = .ok (.slice (some ⟨b, 0, none⟩) (Y + 1) 256) w := by
  have ht : Tryd.prog.underlying 216 = some (.array (Tryd.prog.arrayLen 216) (Tryd.prog.elem 216)) := by kernel_rfl
  have hl : Tryd.prog.arrayLen 216 = 256 := by kernel_rfl
  rw [run_sliceAt_array_h w 216 ⟨b, 0, none⟩ ht .i64 ((Y : Int) + 1) (by omega) (by rw [hl]; omega), size216, hl]
  simp [Result.andThen, slicedAt, Addr.add]

set_option maxHeartbeats 16000000 in
set_option maxRecDepth 4000 in
theorem readFSE_any {R : Nat → Prop} {B : Nat} (rb : Nat) (A : Option Addr) (c off Y M g m cap : Nat) (ds : List Nat) (cs : List (Nat × Nat × Nat)) (w : World) (hs : Sl w R A (u8s ds)) (hg : Blk w g 181 (flat celE cs)) (_hRg : ¬ R g) (hRw : ∀ k, R k → k < w.heap.size)
    (he : Errs B w) (hr : RdOff w rb) (_hrg : rb ≠ g) (hrw : rb < w.heap.size) (hBg : B ≤ g) (hd : Bytes ds) (hlen : ds.length < 2 ^ 24) (hoff : off ≤ ds.length) (hY : Y ≤ 255) (hM : M ≤ 9) (hcs : cs.length = m) (hMm : 2 ^ M ≤ m) :
    Calls Tryd.prog 81 #[.pointer (some ⟨rb, 0, none⟩), .slice A ds.length c, .int .i64 off, .int .i64 Y, .int .i64 M, .slice (some ⟨g, 0, none⟩) m cap] w (FsePost w g cs ds Y M (8 * off)) := by
  obtain ⟨T, hT⟩ : ∃ T, T = 8 * ds.length := ⟨_, rfl⟩
  have hBw : B ≤ w.heap.size := by obtain ⟨_, _, _, _, _, _, _, _, _, _, _, _, _, _, h9⟩ := he; exact h9
  have hgw := hg.lt
  have hmk := makeBitReader_any rb A c ds.length off w (by omega)
  have Hmk := Lib.hid hmk
  have HT := Lib.hid hT
  have Hcs := Lib.hid hcs
  clear hmk hT hcs
  go_enter Tryd.func81, Tryd.ntmps81
  go_wp2_with (go_at_call 68; refine Hmk.out.mono ?_; rintro e w1 ⟨rfl, hk1⟩)
  obtain ⟨b, hbe⟩ : ∃ b, b = w1.heap.size := ⟨_, rfl⟩
  obtain ⟨W, hW⟩ : ∃ W, W = w1.alloc (.cells #[.pointer (some ⟨rb, 0, none⟩), .slice A ds.length c, .int .u32 (off : Int), .int .u32 0, .int .u32 0] 160) := ⟨_, rfl⟩
  have hbr0 : [.pointer (some ⟨rb, 0, none⟩), .slice A ds.length c, .int .u32 (off : Int), .int .u32 0, .int .u32 0] = brCells rb A c ds (8 * off) off := by
    simp [brCells, Nat.mod_one]
  have hb0 : Blk W b 160 (brCells rb A c ds (8 * off) off) := by rw [hW, hbe, ← hbr0]; exact Blk.new w1 160 _
  have hk0 : Kept w W := by rw [hW]; exact hk1.alloc _
  have hwb : w.heap.size ≤ b := by rw [hbe]; exact hk1.size
  have hRb : ¬ R b := fun h => by have := hRw b h; omega
  have hrb : rb ≠ b := by omega
  have hgb : g ≠ b := by omega
  have hBb : B ≤ b := by omega
  rw [← hbe, ← hW]
  clear hW hbe hbr0 hk1
  have hs0 := hs.kept hk0
  have he0 := he.kept hk0
  have hr0 := hr.kept hk0
  by_cases h16 : T < 8 * off + 16
  · have hm := moreBits_err b rb A c ds (8 * off) off W hb0 hs0 hRb he0 hBb hr0 hrb hd (by omega) (Nat.le_refl _) hoff (by omega) (by rw [← HT.out]; exact h16)
    have Hm := Lib.hid hm
    clear hm
    go_wp2_with (go_at_call 69; refine Hm.out.mono ?_; rintro e w2 ⟨v, ⟨vt, vx, rfl⟩, rfl, hk2⟩)
    go_ret3
    refine ⟨(hk0.any _).then hk2 (fun k hk h => by subst h; omega), .inr ⟨_, ⟨_, _, rfl⟩, rfl, fun L ps q hq => ?_⟩⟩
    have := (desc_some hq hM).2.2.2.2.2.2.2.1
    rw [← HT.out]; omega
  have hm := moreBits_ok b rb A c ds (8 * off) off W hb0 hs0 hRb hd (by omega) (Nat.le_refl _) hoff (by omega) (by rw [← HT.out]; omega)
  obtain ⟨a, ha⟩ : ∃ a, a = rdb (num ds) (8 * off) 4 := ⟨_, rfl⟩
  have ha16 : a < 16 := by rw [ha]; exact rdb_lt _ _ _
  have hval : ∀ w2 o1, 8 * off + 16 ≤ 8 * o1 → 8 * o1 ≤ 8 * off + 24 → Blk w2 b 160 (brCells rb A c ds (8 * off) o1) →
      Calls Tryd.prog 70 #[.pointer (some ⟨b, 0, none⟩), .int .u8 4] w2 fun e w' => e = .returned (.int .u32 (a : Nat)) ∧ Blk w' b 160 (brCells rb A c ds (8 * off + 4) o1) ∧ Keep (· = b) w2 w' := by
    intro w2 o1 h1 h2 h3
    rw [ha]
    exact val_any b rb A c ds (8 * off) o1 4 w2 h3 (by decide) (by omega) h2
  obtain ⟨L, hL⟩ : ∃ L, L = a + 5 := ⟨_, rfl⟩
  have hLi : (a : Int) + 5 = (L : Int) := by omega
  have Hm := Lib.hid hm
  have Hval := Lib.hid hval
  have Ha := Lib.hid ha
  clear hm hval ha hb0 hs0 he0 hr0
  by_cases hLM : M < L
  · have hde : desc (num ds) (8 * ds.length) (Y + 1) M (8 * off) = none := by unfold desc; rw [if_pos (Or.inr (by rw [← Ha.out]; omega))]
    have Hde := Lib.hid hde
    clear hde hL
    go_wp2_with (first
      | (go_at_call 69; refine Hm.out.mono ?_; rintro e w2 ⟨rfl, o1, p1, p2, p3, p4, hb2, hk2⟩)
      | (go_at_call 70; refine (Hval.out _ o1 p1 p3 hb2).mono ?_; rintro e w3 ⟨rfl, hb3, hk3⟩; have hkw : Kept w w3 := hk0.then (hk2.trans hk3) (fun k hk h => by subst h; omega))
      | (go_at_call 97; refine (brError (B := B) b rb A c ds _ o1 _ _ hb3 (he.kept hkw) (hr.kept hkw) (by omega)).mono ?_; rintro e w4 ⟨v, hv, rfl, hk4⟩))
    go_ret3
    exact ⟨Kept.any (hkw.trans hk4) _, .inr ⟨v, hv, rfl, fun L' ps q hq => by rw [Hde.out] at hq; cases hq⟩⟩
  have hde : desc (num ds) (8 * ds.length) (Y + 1) M (8 * off) = (pr (num ds) (8 * ds.length) (Y + 1) false (8 * off + 4) (2 ^ L) []).map fun x => (L, x.1, x.2) := by
    unfold desc
    rw [if_neg (by rw [← Ha.out, ← HT.out]; omega), ← Ha.out, ← hL]
  obtain ⟨Rr, hRr⟩ : ∃ x, x = pr (num ds) (8 * ds.length) (Y + 1) false (8 * off + 4) (2 ^ L) [] := ⟨_, rfl⟩
  rw [← hRr] at hde
  obtain ⟨Z, hZ⟩ : ∃ Z, Z = 2 ^ L := ⟨_, rfl⟩
  have hL5 : 5 ≤ L := by omega
  have hL9 : L ≤ 9 := by omega
  have hZ9 : Z ≤ 512 := by rw [hZ]; exact Nat.pow_le_pow_right (by decide) hL9
  have hZ5 : 32 ≤ Z := by rw [hZ]; exact Nat.pow_le_pow_right (n := 2) (by decide) hL5
  have hZi : (2 : Int) ^ L = (Z : Int) := by rw [two_pow_int, hZ]
  have hgo : Going L [] Z := by rw [hZ]; exact Going.start L
  have hvk : vk Z = L := vk_eq (by rw [hZ]; omega) (by rw [Nat.pow_succ, ← hZ]; omega)
  rw [← hZ] at hRr
  have hT16 : 8 * off + 16 ≤ T := by omega
  have Hde := Lib.hid hde
  have HRr := Lib.hid hRr.symm
  have HZ := Lib.hid hZ
  have Hgo := Lib.hid hgo
  have Hvk := Lib.hid hvk
  clear hde hRr hL hZ hgo hvk h16
  go_wp2_with (first
    | (go_at_call 69; refine Hm.out.mono ?_; rintro e w2 ⟨rfl, o1, p1, p2, p3, p4, hb2, hk2⟩)
    | (go_at_call 70; refine (Hval.out _ o1 p1 p3 hb2).mono ?_; rintro e w3 ⟨rfl, hb3, hk3⟩; have hkw : Kept w w3 := hk0.then (hk2.trans hk3) (fun k hk h => by subst h; omega)))
  obtain ⟨b2, hb2e⟩ : ∃ x, x = w3.heap.size := ⟨_, rfl⟩
  obtain ⟨WL, hWL⟩ : ∃ x, x = w3.alloc (.cells Tryd.zeroCells216 216) := ⟨_, rfl⟩
  have hz : Tryd.zeroCells216 = (i16s (normOf [])).toArray := by kernel_rfl
  have hn0 : Blk WL b2 216 (i16s (normOf [])) := by rw [hWL, hb2e, hz]; exact Blk.new w3 216 _
  have hbL : Blk WL b 160 (brCells rb A c ds (8 * off + 4) o1) := by rw [hWL]; exact hb3.alloc _
  have hkL : Kept w WL := by rw [hWL]; exact hkw.alloc _
  have hbb : b ≠ b2 := by have := hb3.lt; omega
  have hbb' : b2 ≠ b := Ne.symm hbb
  have hgb2 : g ≠ b2 := by have := hb3.lt; omega
  have hwb2 : w.heap.size ≤ b2 := by have := hb3.lt; omega
  rw [← hb2e, ← hWL]
  clear hz hWL hb2e hkw hb3 hk3 hb2 hk2 Hm Hval hk0
  go_loopg [18, 19, 20, 21, 22] (T + 1) (fun gg s18 s19 s20 s21 s22 wr => ∃ (pos o left t k sy : Nat) (out : List Int) (z : Bool), T - pos < gg ∧ pos ≤ 8 * o ∧ o ≤ ds.length ∧ 8 * o ≤ pos + 24 ∧ pos ≤ T ∧ 8 * off + 4 ≤ pos ∧ left ≤ 512 ∧ 1 ≤ t ∧ t ≤ 512 ∧ k ≤ 9 ∧ sy ≤ Y + 1 ∧
    s18 = .int .i64 ((left : Int) + 1) ∧ s19 = .int .i64 t ∧ s20 = .int .i64 ((k : Int) + 1) ∧ s21 = .int .i64 sy ∧ s22 = .bool z ∧ Hid (t = 2 ^ k) ∧ Hid (k = vk left) ∧ Hid (sy = out.length) ∧ Hid (z = true → 0 < left) ∧ Hid (Going L out left) ∧
    Hid (pr (num ds) (8 * ds.length) (Y + 1) z pos left out = Rr) ∧ Blk wr b 160 (brCells rb A c ds pos o) ∧ Blk wr b2 216 (i16s (normOf out)) ∧ Kept w wr)
  case atStart => exact ⟨8 * off + 4, o1, Z, Z, L, 0, [], false, by omega, by omega, p2, by omega, by omega, by omega, hZ9, by omega, hZ9, hL9, by omega, rfl, rfl, rfl, rfl, rfl, HZ.out, Hvk.out.symm, rfl, (fun h => by cases h), Hgo.out, HRr.out, hbL, hn0, hkL⟩
  case round =>
    clear hbL hn0 hkL HRr Hgo Hvk HZ
    obtain ⟨pos, o, left, t, k, sy, out, z, q1, q2, q3, q4, q5, q6, q7, q8, q9, q10, q11, rfl, rfl, rfl, rfl, rfl, ht, hk, hsy, hz, hgo, hpr, qb, qn, qk⟩ := hrel
    by_cases h0 : left = 0
    · subst h0
      obtain rfl : z = false := by
        cases z with
        | false => rfl
        | true => have := hz.out rfl; omega
      have hres := hpr.out
      rw [pr_done] at hres
      have Hres := Lib.hid hres
      have hol := hsy.out
      have hsh := hgo.out.shares hL5 hL9
      clear hres hz ht hk
      go_wp2
      go_loopg [21] (Y + 2) (fun g2 s wr2 => ∃ j : Nat, Y + 1 - j < g2 ∧ sy ≤ j ∧ j ≤ Y + 1 ∧ s = .int .i64 j ∧ Blk wr2 b 160 (brCells rb A c ds pos o) ∧ Blk wr2 b2 216 (i16s (normOf (out ++ List.replicate (j - sy) 0))) ∧ Kept w wr2)
      case atStart => exact ⟨sy, by omega, Nat.le_refl _, q11, rfl, qb, by simpa using qn, qk⟩
      case round =>
        clear qb qn qk
        obtain ⟨j, r1, r2, r3, rfl, rb', rn, rk⟩ := hrel
        have hlj : (out ++ List.replicate (j - sy) 0).length = j := by rw [List.length_append, List.length_replicate, ← hol]; omega
        by_cases hj : j < Y + 1
        · obtain ⟨u, hu⟩ := norm_cell rn (by rw [hlj]; omega) (j := j) (by omega)
          have fu := rn.frozen j
          have hj255 : j ≤ 255 := by omega
          have Hlj := Lib.hid hlj
          have Hol := Lib.hid hol
          clear hlj hol
          go_wp2
          go_roundg (Y + 1 - j)
          case measure => exact r1
          case rel =>
            refine ⟨j + 1, by omega, by omega, by omega, rfl, rb'.far hbb _, ?_, rk.set (p := ⟨b2, j, none⟩) (.inr hwb2) _⟩
            have := norm_set rn Hlj.out (by omega) 0
            rw [List.append_assoc, ← List.replicate_succ', show j - sy + 1 = j + 1 - sy by omega] at this
            exact this
        · obtain rfl : j = Y + 1 := by omega
          have hbk := backup_any b rb A c ds pos o wr rb' (by omega) q2 q4
          have hbf : ∀ w5, Keep (· = b) wr w5 → Calls Tryd.prog 74 #[.pointer (some ⟨rb, 0, none⟩), .int .i64 off, .slice (some ⟨b2, 0, none⟩) (Y + 1) 256, .slice (some ⟨g, 0, none⟩) m cap, .int .i64 L] w5 fun e w' => e = .returned .nilIface ∧
              Blk w' g 181 (flat celE (tab L out ++ cs.drop (2 ^ L))) ∧ Keep (· = g) w5 w' := by
            intro w5 hk5
            have h1 : Sl w5 (· = b2) (some ⟨b2, 0, none⟩) (i16s (out ++ List.replicate (Y + 1 - sy) 0)) := by
              have h2 := ((rn.keep hk5 (fun h => hbb h.symm)).sl).take (Y + 1)
              rw [show (i16s (normOf (out ++ List.replicate (Y + 1 - sy) 0))).take (Y + 1) = i16s (out ++ List.replicate (Y + 1 - sy) 0) by rw [i16s, ← List.map_take, normOf_take hlj]; rfl] at h2
              exact h2
            have h3 := buildFSE_any (.pointer (some ⟨rb, 0, none⟩)) off (some ⟨b2, 0, none⟩) 256 L g m cap _ cs w5 h1 ((hg.kept rk).keep hk5 hgb) (fun h => hgb2 h) (hsh.zeros (Y + 1 - sy)) (by rw [hlj]; omega) Hcs.out
              (Nat.le_trans (Nat.pow_le_pow_right (by decide) (by omega)) hMm)
            rw [hlj, tab_zeros] at h3
            exact h3
          have hrn := run_norm b2 Y hY
          have Hbk := Lib.hid hbk
          have Hbf := Lib.hid hbf
          have hpos : pos ≤ 134217728 := by have := HT.out; omega
          clear hbk hbf hlj hol hsh r1 r2 r3
          go_wp2_with (first
            | (go_at_call 71; refine Hbk.out.mono ?_; rintro e w5 ⟨rfl, ⟨v3, v4, hb5⟩, hk5⟩)
            | (go_at_call 74; refine (Hbf.out _ hk5).mono ?_; rintro e w6 ⟨rfl, hg6, hk6⟩; have e2 : w6.cell? ⟨b, 2, none⟩ = some (.int .u32 (((pos + 7) / 8 : Nat) : Int)) := (hb5.keep hk6 (fun h => hgb h.symm)).cell 2))
          go_quiet (fail)
          go_wp2
          go_ret3
          refine ⟨((Kept.any rk _).then hk5 (fun k hk h => by subst h; omega)).trans hk6 |>.drewN _, .inl ⟨L, out, pos, ?_, ?_, hg6.drewN _⟩⟩
          · rw [Hde.out, ← Hres.out]; rfl
          · simp
    · by_cases hsY : Y + 1 ≤ sy
      · have hres : Rr = none := by rw [← hpr.out]; exact pr_full z h0 (by rw [← hsy.out]; exact hsY)
        have Hres := Lib.hid hres
        have hl1 : ¬ left = 0 := h0
        clear hres hz ht hk hsy hgo hpr
        go_wp2_with (go_at_call 97; refine (brError (B := B) b rb A c ds _ o _ _ qb (he.kept qk) (hr.kept qk) (by omega)).mono ?_; rintro e w4 ⟨v, hv, rfl, hk4⟩)
        go_ret3
        exact ⟨Kept.any (qk.trans hk4) _, .inr ⟨v, hv, rfl, fun L' ps q hq => by rw [Hde.out, Hres.out] at hq; cases hq⟩⟩
      · by_cases hT2 : T < pos + 16
        · have hlt := late hpr.out (by rw [← HT.out]; exact q5) (by rw [← hsy.out]; omega) hz.out hgo.out
          have hm := moreBits_err b rb A c ds pos o wr qb (hs.kept qk) hRb (he.kept qk) hBb (hr.kept qk) hrb hd (by omega) q2 q3 q4 (by rw [← HT.out]; exact hT2)
          have Hm := Lib.hid hm
          have Hlt := Lib.hid hlt
          clear hm hlt
          go_wp2_with (go_at_call 69; refine Hm.out.mono ?_; rintro e w9 ⟨v, ⟨vt, vx, rfl⟩, rfl, hk9⟩)
          go_ret3
          refine ⟨(Kept.any qk _).then hk9 (fun k hk h => by subst h; omega), .inr ⟨_, ⟨_, _, rfl⟩, rfl, fun L' ps q hq => ?_⟩⟩
          rw [Hde.out] at hq
          obtain ⟨x, hx, hxe⟩ := Option.map_eq_some_iff.1 hq
          simp only [Prod.mk.injEq] at hxe
          have := (Hlt.out _ _ hx).1
          rw [← HT.out]
          omega
        · have hm := moreBits_ok b rb A c ds pos o wr qb (hs.kept qk) hRb hd (by omega) q2 q3 q4 (by rw [← HT.out]; omega)
          have Hm := Lib.hid hm
          have hleft : 0 < left := by omega
          clear hm
          cases z with
          | true =>
            go_wp2_with (go_at_call 69; refine Hm.out.mono ?_; rintro e w5 ⟨rfl, o5, u1, u2, u3, u4, hb5, hk5⟩; have hk5w : Kept w w5 := qk.then hk5 (fun k hk h => by subst h; omega); have hn5 := qn.keep hk5 (fun h => hbb' h))
            clear qb qn qk Hm hk5
            go_loopg [25] (T + 1) (fun g2 s25 wr2 => ∃ p o zs zy : Nat, T - p < g2 ∧ pos ≤ p ∧ p + 16 ≤ 8 * o ∧ o ≤ ds.length ∧ 8 * o ≤ p + 24 ∧ p ≤ T ∧ zs ≤ 2 * p ∧ s25 = .int .i64 (zy : Nat) ∧ zy ≤ 2 * p + 256 ∧ Hid (zy = sy + zs) ∧
              Hid (AtZ (num ds) (8 * ds.length) (Y + 1) Rr left out p zs) ∧ Blk wr2 b 160 (brCells rb A c ds p o) ∧ Blk wr2 b2 216 (i16s (normOf out)) ∧ Kept w wr2)
            case atStart => exact ⟨pos, o5, 0, sy, by omega, by omega, u1, u2, u3, by omega, by omega, rfl, by omega, rfl, AtZ.start hpr.out (by rw [← hsy.out]; omega), hb5, hn5, hk5w⟩
            case round =>
              clear hb5 hn5 hk5w
              obtain ⟨p, o, zs, zy, r1, r2, r3, r4, r5, r6, r7, rfl, ry, hzy, rz, rb', rn, rk⟩ := hrel
              obtain ⟨cnt, hcnt⟩ : ∃ cnt, cnt = 8 * o - p := ⟨_, rfl⟩
              obtain ⟨bits, hbits⟩ : ∃ x, x = num ds / 2 ^ p % 2 ^ cnt := ⟨_, rfl⟩
              have hblt : bits < 2 ^ cnt := hbits ▸ Nat.mod_lt _ (pow_pos' _)
              have hb32 : bits < 4294967296 := Nat.lt_of_lt_of_le hblt (Nat.le_trans (pow_le_31 (n := cnt) (by omega)) (by decide))
              obtain ⟨r, hr'⟩ : ∃ r, r = rdb (num ds) p 12 := ⟨_, rfl⟩
              have hand : Go.bits .and .u32 (bits : Int) 4095 = (r : Int) := by
                have := u32_and_lit 12 (by decide) hb32
                rw [hbits, br_bits (by omega), ← hr', ← hbits] at this
                exact this
              have c3 : wr.cell? ⟨b, 3, none⟩ = some (.int .u32 (bits : Int)) := by rw [hbits, hcnt]; exact rb'.cell 3
              have c4 : wr.cell? ⟨b, 4, none⟩ = some (.int .u32 (cnt : Int)) := by rw [hcnt]; exact rb'.cell 4
              have f3 := rb'.frozen 3
              have f4 := rb'.frozen 4
              have hbr := br_skip rb' (n := 12) (by omega) hcnt hbits ((bits : Int) / 4096) ((cnt : Int) - 12) rfl rfl
              have hcn : 12 ≤ cnt := by omega
              have hcn24 : cnt ≤ 24 := by omega
              have hTo : 8 * o ≤ T := by rw [HT.out]; omega
              have hzs : zy ≤ 536870912 := by have := HT.out; omega
              have hkS : Kept w ((wr.setCell ⟨b, 3, none⟩ (.int .u32 ((bits : Int) / 4096))).setCell ⟨b, 4, none⟩ (.int .u32 ((cnt : Int) - 12))) := (rk.set (p := ⟨b, 3, none⟩) (.inr hwb) _).set (p := ⟨b, 4, none⟩) (.inr hwb) _
              have hnS : Blk ((wr.setCell ⟨b, 3, none⟩ (.int .u32 ((bits : Int) / 4096))).setCell ⟨b, 4, none⟩ (.int .u32 ((cnt : Int) - 12))) b2 216 (i16s (normOf out)) := (rn.far hbb' _).far hbb' _
              have Hr' := Lib.hid hr'
              clear hcnt hbits hr' hblt
              by_cases hfull : r = 4095
              · have hz' := rz.out.six (by rw [← Hr'.out]; exact hfull) (by rw [← HT.out]; omega)
                subst hfull
                have Hz' := Lib.hid hz'
                clear hz'
                by_cases hT2 : T < p + 12 + 16
                · have hm := moreBits_err b rb A c ds (p + 12) o _ hbr (hs.kept hkS) hRb (he.kept hkS) hBb (hr.kept hkS) hrb hd (by omega) (by omega) r4 (by omega) (by rw [← HT.out]; exact hT2)
                  have hlt := Hz'.out.late (by rw [← HT.out]; omega) hleft hgo.out
                  have Hm := Lib.hid hm
                  have Hlt := Lib.hid hlt
                  clear hm hlt
                  go_wp2_with (go_at_call 69; refine Hm.out.mono ?_; rintro e w9 ⟨v, ⟨vt, vx, rfl⟩, rfl, hk9⟩)
                  go_ret3
                  refine ⟨(Kept.any hkS _).then hk9 (fun k hk h => by subst h; omega), .inr ⟨_, ⟨_, _, rfl⟩, rfl, fun L' ps q hq => ?_⟩⟩
                  rw [Hde.out] at hq
                  obtain ⟨x, hx, hxe⟩ := Option.map_eq_some_iff.1 hq
                  simp only [Prod.mk.injEq] at hxe
                  have := (Hlt.out _ _ hx).1
                  rw [← HT.out]
                  omega
                · have hm := moreBits_ok b rb A c ds (p + 12) o _ hbr (hs.kept hkS) hRb hd (by omega) (by omega) r4 (by omega) (by rw [← HT.out]; omega)
                  have Hm := Lib.hid hm
                  clear hm
                  go_wp2_with (go_at_call 69; refine Hm.out.mono ?_; rintro e w9 ⟨rfl, o9, p1, p2, p3, p4, hb9, hk9⟩)
                  go_roundg (T - p)
                  case measure => exact r1
                  case rel => exact ⟨p + 12, o9, zs + 18, zy + 18, by omega, by omega, p1, p2, p3, by omega, by omega, rfl, by omega, (by show _ = _; rw [hzy.out, Nat.add_assoc]), Hz'.out, hb9, hnS.keep hk9 (fun h => hbb' h), hkS.then hk9 (fun k hk h => by subst h; omega)⟩
              · clear hbr hkS hnS
                have hd1 : decide ((r : Int) = 4095) = false := decide_eq_false (by omega)
                have hd2 : ((r : Int) == 4095) = false := beq_eq_false_iff_ne.2 (by omega)
                have hd3 : decide (r = 4095) = false := decide_eq_false hfull
                go_wp2
                go_loopg [25] (T + 1) (fun g2 s25 wr2 => ∃ p o zs zy : Nat, T - p < g2 ∧ pos ≤ p ∧ p + 16 ≤ 8 * o ∧ o ≤ ds.length ∧ 8 * o ≤ p + 24 ∧ p ≤ T ∧ zs ≤ 2 * p ∧ s25 = .int .i64 (zy : Nat) ∧ zy ≤ 2 * p + 256 ∧ Hid (zy = sy + zs) ∧
                  Hid (AtZ (num ds) (8 * ds.length) (Y + 1) Rr left out p zs) ∧ Blk wr2 b 160 (brCells rb A c ds p o) ∧ Blk wr2 b2 216 (i16s (normOf out)) ∧ Kept w wr2)
                case atStart => exact ⟨p, o, zs, zy, by omega, r2, r3, r4, r5, r6, r7, rfl, ry, hzy.out, rz.out, rb', rn, rk⟩
                case round =>
                  clear rb' rn rk c3 c4 f3 f4 hand Hr' hfull rz r1 r2 r3 r4 r5 r6 r7 ry hzy hcn hcn24 hzs hb32 hTo
                  obtain ⟨p, o, zs, zy, r1, r2, r3, r4, r5, r6, r7, rfl, ry, hzy, rz, rb', rn, rk⟩ := hrel
                  obtain ⟨cnt, hcnt⟩ : ∃ cnt, cnt = 8 * o - p := ⟨_, rfl⟩
                  obtain ⟨bits, hbits⟩ : ∃ x, x = num ds / 2 ^ p % 2 ^ cnt := ⟨_, rfl⟩
                  have hblt : bits < 2 ^ cnt := hbits ▸ Nat.mod_lt _ (pow_pos' _)
                  have hb32 : bits < 4294967296 := Nat.lt_of_lt_of_le hblt (Nat.le_trans (pow_le_31 (n := cnt) (by omega)) (by decide))
                  obtain ⟨r, hr'⟩ : ∃ r, r = rdb (num ds) p 2 := ⟨_, rfl⟩
                  have hand : Go.bits .and .u32 (bits : Int) 3 = (r : Int) := by
                    have := u32_and_lit 2 (by decide) hb32
                    rw [hbits, br_bits (by omega), ← hr', ← hbits] at this
                    exact this
                  have c3 : wr.cell? ⟨b, 3, none⟩ = some (.int .u32 (bits : Int)) := by rw [hbits, hcnt]; exact rb'.cell 3
                  have c4 : wr.cell? ⟨b, 4, none⟩ = some (.int .u32 (cnt : Int)) := by rw [hcnt]; exact rb'.cell 4
                  have f3 := rb'.frozen 3
                  have f4 := rb'.frozen 4
                  have hbr := br_skip rb' (n := 2) (by omega) hcnt hbits ((bits : Int) / 4) ((cnt : Int) - 2) rfl rfl
                  have hcn : 2 ≤ cnt := by omega
                  have hcn24 : cnt ≤ 24 := by omega
                  have hTo : 8 * o ≤ T := by rw [HT.out]; omega
                  have hzs : zy ≤ 536870912 := by have := HT.out; omega
                  have hkS : Kept w ((wr.setCell ⟨b, 3, none⟩ (.int .u32 ((bits : Int) / 4))).setCell ⟨b, 4, none⟩ (.int .u32 ((cnt : Int) - 2))) := (rk.set (p := ⟨b, 3, none⟩) (.inr hwb) _).set (p := ⟨b, 4, none⟩) (.inr hwb) _
                  have hnS : Blk ((wr.setCell ⟨b, 3, none⟩ (.int .u32 ((bits : Int) / 4))).setCell ⟨b, 4, none⟩ (.int .u32 ((cnt : Int) - 2))) b2 216 (i16s (normOf out)) := (rn.far hbb' _).far hbb' _
                  have Hr' := Lib.hid hr'
                  clear hcnt hbits hr' hblt
                  by_cases hfull : r = 3
                  · have hz' := rz.out.three (by rw [← Hr'.out]; exact hfull) (by rw [← HT.out]; omega)
                    subst hfull
                    have Hz' := Lib.hid hz'
                    clear hz'
                    by_cases hT2 : T < p + 2 + 16
                    · have hm := moreBits_err b rb A c ds (p + 2) o _ hbr (hs.kept hkS) hRb (he.kept hkS) hBb (hr.kept hkS) hrb hd (by omega) (by omega) r4 (by omega) (by rw [← HT.out]; exact hT2)
                      have hlt := Hz'.out.late (by rw [← HT.out]; omega) hleft hgo.out
                      have Hm := Lib.hid hm
                      have Hlt := Lib.hid hlt
                      clear hm hlt
                      go_wp2_with (go_at_call 69; refine Hm.out.mono ?_; rintro e w9 ⟨v, ⟨vt, vx, rfl⟩, rfl, hk9⟩)
                      go_ret3
                      refine ⟨(Kept.any hkS _).then hk9 (fun k hk h => by subst h; omega), .inr ⟨_, ⟨_, _, rfl⟩, rfl, fun L' ps q hq => ?_⟩⟩
                      rw [Hde.out] at hq
                      obtain ⟨x, hx, hxe⟩ := Option.map_eq_some_iff.1 hq
                      simp only [Prod.mk.injEq] at hxe
                      have := (Hlt.out _ _ hx).1
                      rw [← HT.out]
                      omega
                    · have hm := moreBits_ok b rb A c ds (p + 2) o _ hbr (hs.kept hkS) hRb hd (by omega) (by omega) r4 (by omega) (by rw [← HT.out]; omega)
                      have Hm := Lib.hid hm
                      clear hm
                      go_wp2_with (go_at_call 69; refine Hm.out.mono ?_; rintro e w9 ⟨rfl, o9, p1, p2, p3, p4, hb9, hk9⟩)
                      go_roundg (T - p)
                      case measure => exact r1
                      case rel => exact ⟨p + 2, o9, zs + 3, zy + 3, by omega, by omega, p1, p2, p3, by omega, by omega, rfl, by omega, (by show _ = _; rw [hzy.out, Nat.add_assoc]), Hz'.out, hb9, hnS.keep hk9 (fun h => hbb' h), hkS.then hk9 (fun k hk h => by subst h; omega)⟩
                  · clear hbr hkS hnS
                    have hd4 : decide ((r : Int) = 3) = false := decide_eq_false (by omega)
                    have hd5 : ((r : Int) == 3) = false := beq_eq_false_iff_ne.2 (by omega)
                    have hd6 : decide (r = 3) = false := decide_eq_false hfull
                    have hn3 : r ≠ 3 := hfull
                    have hstop := rz.out.stop Hr'.out hn3 (by rw [← HT.out]; omega) hleft
                    have hv2 := val_any b rb A c ds p o 2 wr rb' (by decide) (by omega) r5
                    rw [show num ds / 2 ^ p % 2 ^ 2 = r from Hr'.out.symm] at hv2
                    obtain ⟨zz, hzz⟩ : ∃ zz, zz = sy + zs + r := ⟨_, rfl⟩
                    have hzi : (zy : Int) + (r : Int) = (zz : Int) := by have := hzy.out; omega
                    have hr4 : r < 4 := by rw [Hr'.out]; exact rdb_lt _ _ _
                    have hzl : zz ≤ 536870920 := by have := hzy.out; omega
                    have Hv2 := Lib.hid hv2
                    rw [← hsy.out, ← hzz] at hstop
                    have Hzz := Lib.hid hzz
                    clear hv2 hzz
                    by_cases hov : Y < zz
                    · have hres := hstop.2 (by omega)
                      have Hres := Lib.hid hres
                      clear hres hstop
                      go_wp2_with (first
                        | (go_at_call 70; refine Hv2.out.mono ?_; rintro e w9 ⟨rfl, hb9, hk9⟩; have hkw9 : Kept w w9 := rk.then hk9 (fun k hk h => by subst h; omega))
                        | (go_at_call 97; refine (brError (B := B) b rb A c ds _ o _ _ hb9 (he.kept hkw9) (hr.kept hkw9) (by omega)).mono ?_; rintro e w4 ⟨v, hv, rfl, hk4⟩))
                      go_ret3
                      exact ⟨Kept.any (hkw9.trans hk4) _, .inr ⟨v, hv, rfl, fun L' ps q hq => by rw [Hde.out, Hres.out] at hq; cases hq⟩⟩
                    · have hgo2 := hstop.1 (by omega)
                      have Hgo2 := Lib.hid hgo2
                      clear hgo2 hstop
                      go_wp2_with (go_at_call 70; refine Hv2.out.mono ?_; rintro e w9 ⟨rfl, hb9, hk9⟩; have hkw9 : Kept w w9 := rk.then hk9 (fun k hk h => by subst h; omega); have hn9 := rn.keep hk9 (fun h => hbb' h))
                      clear rb' rn rk
                      go_loopg [21] (Y + 2) (fun g2 s wr2 => ∃ j : Nat, zz - j < g2 ∧ sy ≤ j ∧ j ≤ zz ∧ s = .int .i64 j ∧ Blk wr2 b 160 (brCells rb A c ds (p + 2) o) ∧ Blk wr2 b2 216 (i16s (normOf (out ++ List.replicate (j - sy) 0))) ∧ Kept w wr2)
                      case atStart => exact ⟨sy, by omega, Nat.le_refl _, by have := Hzz.out; omega, rfl, hb9, by simpa using hn9, hkw9⟩
                      case round =>
                        clear hb9 hn9 hkw9
                        obtain ⟨j, t1, t2, t3, rfl, tb, tn, tk⟩ := hrel
                        have hlj : (out ++ List.replicate (j - sy) 0).length = j := by rw [List.length_append, List.length_replicate, ← hsy.out]; omega
                        by_cases hj : j < zz
                        · obtain ⟨u, hu⟩ := norm_cell tn (by rw [hlj]; omega) (j := j) (by omega)
                          have fu := tn.frozen j
                          have hj255 : j ≤ 255 := by omega
                          have Hlj := Lib.hid hlj
                          clear hlj
                          go_wp2
                          go_roundg (zz - j)
                          case measure => exact t1
                          case rel =>
                            refine ⟨j + 1, by omega, by omega, by omega, rfl, tb.far hbb _, ?_, tk.set (p := ⟨b2, j, none⟩) (.inr hwb2) _⟩
                            have := norm_set tn Hlj.out (by omega) 0
                            rw [List.append_assoc, ← List.replicate_succ', show j - sy + 1 = j + 1 - sy by omega] at this
                            exact this
                        · obtain rfl : j = zz := by omega
                          have hjz : j - sy = zs + r := by have := Hzz.out; omega
                          rw [hjz] at tn hlj
                          have hg2 := hgo.out.zeros hleft (zs + r)
                          have Hlj := Lib.hid hlj
                          have Hg2 := Lib.hid hg2
                          have Hht := ht
                          clear hlj hg2 hjz
                          go_wp2
                          go_roundg (T - pos)
                          case measure => exact q1
                          case rel => exact ⟨p + 2, o, left, t, k, j, out ++ List.replicate (zs + r) 0, false, by omega, by omega, r4, by omega, by omega, by omega, q7, q8, q9, q10, by omega, rfl, rfl, rfl, rfl, rfl, ht.out, hk.out, Hlj.out.symm, (fun h => by cases h), Hg2.out, Hgo2.out, tb, tn, tk⟩
          | false =>
            go_wp2_with fail
            ( refine Hm.out.mono ?_; rintro e w5 ⟨rfl, o5, u1, u2, u3, u4, hb5, hk5⟩; have hk5w : Kept w w5 := qk.then hk5 (fun k hk h => by subst h; omega); have hn5 := qn.keep hk5 (fun h => hbb' h))
            clear qb qn qk Hm hk5
            obtain ⟨cnt, hcnt⟩ : ∃ cnt, cnt = 8 * o5 - pos := ⟨_, rfl⟩
            obtain ⟨bits, hbits⟩ : ∃ x, x = num ds / 2 ^ pos % 2 ^ cnt := ⟨_, rfl⟩
            have hblt : bits < 2 ^ cnt := hbits ▸ Nat.mod_lt _ (pow_pos' _)
            have hb32 : bits < 4294967296 := Nat.lt_of_lt_of_le hblt (Nat.le_trans (pow_le_31 (n := cnt) (by omega)) (by decide))
            have hcn : k + 1 ≤ cnt := by omega
            have hcn24 : cnt ≤ 24 := by omega
            have ht2 : 2 * t = 2 ^ (k + 1) := by rw [Nat.pow_succ, ← ht.out]; omega
            obtain ⟨m0, hm0⟩ : ∃ m0, m0 + left + 2 = 2 * t := ⟨vfew left, by rw [vfew_sum, ht.out, hk.out]⟩
            have hrd := val_read (N := num ds) (pos := pos) (left := left) (t := t) (m := m0) (b := bits) (by rw [ht.out, hk.out]) hm0 (by rw [ht2, ← hk.out, hbits, br_bits (by omega)])
            obtain ⟨bt, hbt⟩ : ∃ x, x = bits % t := ⟨_, rfl⟩
            obtain ⟨b2t, hb2t⟩ : ∃ x, x = bits % (2 * t) := ⟨_, rfl⟩
            rw [← hbt, ← hb2t] at hrd
            have hbtle : bt ≤ b2t := by rw [hbt, hb2t, ← Nat.mod_mul_left_mod bits 2 t]; exact Nat.mod_le _ _
            have hbt512 : bt < 512 := by rw [hbt]; exact Nat.lt_of_lt_of_le (Nat.mod_lt _ (by omega)) q9
            have hb2t1024 : b2t < 2 * t := by rw [hb2t]; exact Nat.mod_lt _ (by omega)
            have hand1 : Go.bits .and .u32 (bits : Int) ((t : Int) - 1) = (bt : Int) := by
              have := u32_and_lit k (by omega) hb32
              rw [← ht.out, ← hbt, show ((t - 1 : Nat) : Int) = (t : Int) - 1 by omega] at this
              exact this
            have hand2 : Go.bits .and .u32 (bits : Int) (2 * (t : Int) - 1) = (b2t : Int) := by
              have := u32_and_lit (k + 1) (by omega) hb32
              rw [← ht2, ← hb2t, show ((2 * t - 1 : Nat) : Int) = 2 * (t : Int) - 1 by omega] at this
              exact this
            have hmx : 2 * (t : Int) - 1 - ((left : Int) + 1) = (m0 : Int) := by omega
            have c3 : w5.cell? ⟨b, 3, none⟩ = some (.int .u32 (bits : Int)) := by rw [hbits, hcnt]; exact hb5.cell 3
            have c4 : w5.cell? ⟨b, 4, none⟩ = some (.int .u32 (cnt : Int)) := by rw [hcnt]; exact hb5.cell 4
            have f3 := hb5.frozen 3
            have f4 := hb5.frozen 4
            obtain ⟨u, hu⟩ := norm_cell hn5 (by rw [← hsy.out]; omega) (j := sy) (by omega)
            have fu := hn5.frozen sy
            have hsy255 : sy ≤ 255 := by omega
            have hstep := pr_step (N := num ds) (T := 8 * ds.length) (S := Y + 1) (pos := pos) (left := left) (out := out) h0 (by have := wof_le (num ds) pos left; rw [← hk.out] at this; rw [← HT.out]; omega) (by rw [← hsy.out]; omega)
            rw [hpr.out] at hstep
            have hvle := vof_le (num ds) pos left
            have hbr1 := br_skip hb5 (n := k) (by omega) hcnt hbits ((bits : Int) / 2 ^ k) ((cnt : Int) - k) rfl rfl
            have hbr2 := br_skip hb5 (n := k + 1) (by omega) hcnt hbits ((bits : Int) / 2 ^ (k + 1)) ((cnt : Int) - ((k : Int) + 1)) rfl rfl
            have Ht2 := Lib.hid ht2
            have Hstep := Lib.hid hstep
            have Hbr1 := Lib.hid hbr1
            have Hbr2 := Lib.hid hbr2
            have Hrd := Lib.hid hrd
            have hwt := hk.out
            have hkle := wof_le (num ds) pos left
            have hwp := wof_pos (num ds) pos h0
            generalize vof (num ds) pos left = V at Hstep Hrd hvle
            generalize wof (num ds) pos left = Wd at Hstep Hrd hkle hwp
            have Hkle : Hid (Wd ≤ k + 1) := by show Wd ≤ k + 1; rw [hwt]; exact hkle
            clear hwt hkle ht2 hstep hbr1 hbr2 hrd hbt hb2t hcnt hbits hblt
            have hTl : 8 * o5 ≤ T := by rw [HT.out]; omega
            go_upto_if 131 with (fail)
            go_cut [29] from 53 to 204 (fun s29 wx => s29 = .int .i64 (V : Nat) ∧ Blk wx b 160 (brCells rb A c ds (pos + Wd) o5) ∧ Blk wx b2 216 (i16s (normOf out)) ∧ Kept w wx)
            case first =>
              have hn6 : ∀ x y, Blk ((w5.setCell ⟨b, 3, none⟩ x).setCell ⟨b, 4, none⟩ y) b2 216 (i16s (normOf out)) := fun x y => (hn5.far hbb' _).far hbb' _
              have hk6 : ∀ x y, Kept w ((w5.setCell ⟨b, 3, none⟩ x).setCell ⟨b, 4, none⟩ y) := fun x y => (hk5w.set (p := ⟨b, 3, none⟩) (.inr hwb) _).set (p := ⟨b, 4, none⟩) (.inr hwb) _
              have Hn6 := Lib.hid hn6
              have Hk6 := Lib.hid hk6
              clear hn6 hk6
              by_cases hsm : bt < m0
              · obtain ⟨hV, hWd⟩ := Hrd.out.1 hsm
                rw [← hk.out] at hWd
                have HV := Lib.hid hV
                have HWd := Lib.hid hWd
                clear hV hWd
                go_wp2_with fail
                go_meet
                case rel => exact ⟨by rw [HV.out], by rw [HWd.out]; exact Hbr1.out, Hn6.out _ _, Hk6.out _ _⟩
              · by_cases hlo : b2t < t
                · obtain ⟨hV, hWd⟩ := Hrd.out.2.1 (by omega) hlo
                  rw [← hk.out] at hWd
                  have HV := Lib.hid hV
                  have HWd := Lib.hid hWd
                  clear hV hWd
                  go_wp2_with fail
                  go_meet
                  case rel => exact ⟨by rw [HV.out], by rw [HWd.out]; exact Hbr2.out, Hn6.out _ _, Hk6.out _ _⟩
                · obtain ⟨hV, hWd⟩ := Hrd.out.2.2 (by omega) (by omega)
                  rw [← hk.out] at hWd
                  have hVs : (b2t : Int) - (m0 : Int) = (V : Int) := by omega
                  have HWd := Lib.hid hWd
                  clear hV hWd
                  go_wp2_with fail
                  go_meet
                  case rel => exact ⟨rfl, by rw [HWd.out]; exact Hbr2.out, Hn6.out _ _, Hk6.out _ _⟩
            case rest =>
              obtain ⟨rfl, hb7, hn7, hk7⟩ := hcut
              clear c3 c4 f3 f4 hu fu hand1 hand2 hb5 hn5 hk5w Hbr1 Hbr2 Hrd
              obtain ⟨u, hu⟩ := norm_cell hn7 (by rw [← hsy.out]; omega) (j := sy) (by omega)
              have fu := hn7.frozen sy
              obtain ⟨p, hp⟩ : ∃ p : Int, (V : Int) - 1 = p := ⟨_, rfl⟩
              have hst0 := Hstep.out
              rw [hp, show (V == 1) = (p == 0) by rw [Bool.eq_iff_iff]; simp only [beq_iff_eq]; omega] at hst0
              have Hst0 := Lib.hid hst0
              clear hst0 Hstep
              rcases (show p = -1 ∨ p = 0 ∨ 1 ≤ p by omega) with rfl | rfl | hp1
              · obtain ⟨l2, rfl⟩ : ∃ l2, left = l2 + 1 := ⟨left - 1, by omega⟩
                have hst : pr (num ds) (8 * ds.length) (Y + 1) false (pos + Wd) l2 (out ++ [-1]) = Rr := Hst0.out.symm
                have hg2 : Going L (out ++ [-1]) l2 := by
                  have := hgo.out.push (p := -1) (by omega) (by omega) (by omega)
                  simpa using this
                have hbx : Blk (wc.setCell ⟨b2, sy, none⟩ (.int .i16 (-1))) b 160 (brCells rb A c ds (pos + Wd) o5) := hb7.far hbb _
                have hnx : Blk (wc.setCell ⟨b2, sy, none⟩ (.int .i16 (-1))) b2 216 (i16s (normOf (out ++ [(-1)]))) := norm_set hn7 hsy.out.symm (by omega) (-1)
                have hkx : Kept w (wc.setCell ⟨b2, sy, none⟩ (.int .i16 (-1))) := hk7.set (p := ⟨b2, sy, none⟩) (.inr hwb2) _
                have hvk2 : vk l2 ≤ k := by rw [hk.out]; exact vk_mono (by omega)
                have Hvk2 := Lib.hid hvk2
                have Hst := Lib.hid hst
                have Hg2 := Lib.hid hg2
                clear hvk2 hst hg2 Hst0
                go_wp2
                generalize hWX : wc.setCell ⟨b2, sy, none⟩ (.int .i16 (-1)) = WX at hbx hnx hkx ⊢
                clear hWX hu fu
                go_loopg [19, 20] 11 (fun g5 s19 s20 wr5 => ∃ t5 k5 : Nat, k5 < g5 ∧ 1 ≤ t5 ∧ t5 ≤ 512 ∧ k5 ≤ 9 ∧ s19 = .int .i64 t5 ∧ s20 = .int .i64 ((k5 : Int) + 1) ∧ Hid (t5 = 2 ^ k5) ∧ Hid (vk l2 ≤ k5) ∧ WX = wr5)
                case atStart => exact ⟨t, k, by omega, q8, q9, q10, rfl, rfl, ht.out, Hvk2.out, rfl⟩
                case round =>
                  obtain ⟨t5, k5, r1, r2, r3, r4, rfl, rfl, r5, r6, rfl⟩ := hrel
                  by_cases hlt5 : l2 + 1 < t5
                  · obtain ⟨k6, rfl⟩ : ∃ k6, k5 = k6 + 1 := ⟨k5 - 1, by
                      have : k5 ≠ 0 := by
                        rintro rfl
                        have := r5.out
                        rw [Nat.pow_zero] at this
                        omega
                      omega⟩
                    obtain ⟨t6, rfl⟩ : ∃ t6, t5 = 2 * t6 := ⟨2 ^ k6, by rw [r5.out, Nat.pow_succ, Nat.mul_comm]⟩
                    have h6 : t6 = 2 ^ k6 := by have := r5.out; rw [Nat.pow_succ] at this; omega
                    have h7 : vk l2 ≤ k6 := by
                      have h8 := vk_low l2
                      have : vk l2 < k6 + 1 := (Nat.pow_lt_pow_iff_right (a := 2) (by decide)).1 (by have := r5.out; omega)
                      omega
                    have H6 := Lib.hid h6
                    have H7 := Lib.hid h7
                    clear h6 h7 r5 r6
                    go_wp2
                    go_roundg (k6 + 1)
                    case measure => exact r1
                    case rel => exact ⟨t6, k6, by omega, by omega, by omega, by omega, rfl, (by first | rfl | (congr 1; omega)), H6.out, H7.out, rfl⟩
                  · have h7 : k5 = vk l2 := by
                      have h8 := vk_high l2
                      have : k5 < vk l2 + 1 := (Nat.pow_lt_pow_iff_right (a := 2) (by decide)).1 (by have := r5.out; omega)
                      have := r6.out
                      omega
                    have H7 := Lib.hid h7
                    clear h7 r6
                    go_wp2
                    go_roundg (T - pos)
                    case measure => exact q1
                    case rel => exact ⟨pos + Wd, o5, l2, t5, k5, sy + 1, out ++ [(-1)], false, by omega, by have := Hkle.out; omega, u2, by omega, by have := Hkle.out; omega, by omega, by omega, r2, r3, r4, by omega, (by first | rfl | (congr 1; omega)), rfl, rfl, rfl, (by first | rfl | simp [hp1]), r5.out, H7.out, (by show _ = _; rw [List.length_append, ← hsy.out]; rfl), (fun h => by cases h), Hg2.out, Hst.out, hbx, hnx, hkx⟩
              · obtain ⟨l2, hl2⟩ : ∃ l2, l2 = left := ⟨_, rfl⟩
                have hst : pr (num ds) (8 * ds.length) (Y + 1) true (pos + Wd) l2 (out ++ [0]) = Rr := by rw [hl2]; exact Hst0.out.symm
                have hg2 : Going L (out ++ [0]) l2 := by
                  have := hgo.out.push (p := 0) (by omega) (by omega) (by omega)
                  rw [hl2]
                  simpa using this
                have hl2p : 0 < l2 := by omega
                subst hl2
                have hbx : Blk (wc.setCell ⟨b2, sy, none⟩ (.int .i16 0)) b 160 (brCells rb A c ds (pos + Wd) o5) := hb7.far hbb _
                have hnx : Blk (wc.setCell ⟨b2, sy, none⟩ (.int .i16 0)) b2 216 (i16s (normOf (out ++ [0]))) := norm_set hn7 hsy.out.symm (by omega) 0
                have hkx : Kept w (wc.setCell ⟨b2, sy, none⟩ (.int .i16 0)) := hk7.set (p := ⟨b2, sy, none⟩) (.inr hwb2) _
                have hvk2 : vk l2 ≤ k := by rw [hk.out]; exact vk_mono (by omega)
                have Hvk2 := Lib.hid hvk2
                have Hst := Lib.hid hst
                have Hg2 := Lib.hid hg2
                clear hvk2 hst hg2 Hst0
                go_wp2
                generalize hWX : wc.setCell ⟨b2, sy, none⟩ (.int .i16 0) = WX at hbx hnx hkx ⊢
                clear hWX hu fu
                go_loopg [19, 20] 11 (fun g5 s19 s20 wr5 => ∃ t5 k5 : Nat, k5 < g5 ∧ 1 ≤ t5 ∧ t5 ≤ 512 ∧ k5 ≤ 9 ∧ s19 = .int .i64 t5 ∧ s20 = .int .i64 ((k5 : Int) + 1) ∧ Hid (t5 = 2 ^ k5) ∧ Hid (vk l2 ≤ k5) ∧ WX = wr5)
                case atStart => exact ⟨t, k, by omega, q8, q9, q10, rfl, rfl, ht.out, Hvk2.out, rfl⟩
                case round =>
                  obtain ⟨t5, k5, r1, r2, r3, r4, rfl, rfl, r5, r6, rfl⟩ := hrel
                  by_cases hlt5 : l2 + 1 < t5
                  · obtain ⟨k6, rfl⟩ : ∃ k6, k5 = k6 + 1 := ⟨k5 - 1, by
                      have : k5 ≠ 0 := by
                        rintro rfl
                        have := r5.out
                        rw [Nat.pow_zero] at this
                        omega
                      omega⟩
                    obtain ⟨t6, rfl⟩ : ∃ t6, t5 = 2 * t6 := ⟨2 ^ k6, by rw [r5.out, Nat.pow_succ, Nat.mul_comm]⟩
                    have h6 : t6 = 2 ^ k6 := by have := r5.out; rw [Nat.pow_succ] at this; omega
                    have h7 : vk l2 ≤ k6 := by
                      have h8 := vk_low l2
                      have : vk l2 < k6 + 1 := (Nat.pow_lt_pow_iff_right (a := 2) (by decide)).1 (by have := r5.out; omega)
                      omega
                    have H6 := Lib.hid h6
                    have H7 := Lib.hid h7
                    clear h6 h7 r5 r6
                    go_wp2
                    go_roundg (k6 + 1)
                    case measure => exact r1
                    case rel => exact ⟨t6, k6, by omega, by omega, by omega, by omega, rfl, (by first | rfl | (congr 1; omega)), H6.out, H7.out, rfl⟩
                  · have h7 : k5 = vk l2 := by
                      have h8 := vk_high l2
                      have : k5 < vk l2 + 1 := (Nat.pow_lt_pow_iff_right (a := 2) (by decide)).1 (by have := r5.out; omega)
                      have := r6.out
                      omega
                    have H7 := Lib.hid h7
                    clear h7 r6
                    go_wp2
                    go_roundg (T - pos)
                    case measure => exact q1
                    case rel => exact ⟨pos + Wd, o5, l2, t5, k5, sy + 1, out ++ [0], true, by omega, by have := Hkle.out; omega, u2, by omega, by have := Hkle.out; omega, by omega, by omega, r2, r3, r4, by omega, (by first | rfl | (congr 1; omega)), rfl, rfl, rfl, (by first | rfl | simp [hp1]), r5.out, H7.out, (by show _ = _; rw [List.length_append, ← hsy.out]; rfl), (fun _ => hl2p), Hg2.out, Hst.out, hbx, hnx, hkx⟩
              · have hp0 : ¬ p = 0 := by omega
                have hp512 : p ≤ 512 := by omega
                obtain ⟨l2, hl2⟩ : ∃ l2, l2 = left - p.natAbs := ⟨_, rfl⟩
                have hst : pr (num ds) (8 * ds.length) (Y + 1) (p == 0) (pos + Wd) l2 (out ++ [p]) = Rr := by rw [hl2]; exact Hst0.out.symm
                have hg2 : Going L (out ++ [p]) l2 := by rw [hl2]; exact hgo.out.push (by omega) (by omega) (by omega)
                have hrem : (left : Int) + 1 - p = (l2 : Int) + 1 := by omega
                have hl2le : l2 ≤ 512 := by omega
                clear hl2
                have hbx : Blk (wc.setCell ⟨b2, sy, none⟩ (.int .i16 p)) b 160 (brCells rb A c ds (pos + Wd) o5) := hb7.far hbb _
                have hnx : Blk (wc.setCell ⟨b2, sy, none⟩ (.int .i16 p)) b2 216 (i16s (normOf (out ++ [p]))) := norm_set hn7 hsy.out.symm (by omega) p
                have hkx : Kept w (wc.setCell ⟨b2, sy, none⟩ (.int .i16 p)) := hk7.set (p := ⟨b2, sy, none⟩) (.inr hwb2) _
                have hvk2 : vk l2 ≤ k := by rw [hk.out]; exact vk_mono (by omega)
                have Hvk2 := Lib.hid hvk2
                have Hst := Lib.hid hst
                have Hg2 := Lib.hid hg2
                clear hvk2 hst hg2 Hst0
                go_wp2
                generalize hWX : wc.setCell ⟨b2, sy, none⟩ (.int .i16 p) = WX at hbx hnx hkx ⊢
                clear hWX hu fu
                go_loopg [19, 20] 11 (fun g5 s19 s20 wr5 => ∃ t5 k5 : Nat, k5 < g5 ∧ 1 ≤ t5 ∧ t5 ≤ 512 ∧ k5 ≤ 9 ∧ s19 = .int .i64 t5 ∧ s20 = .int .i64 ((k5 : Int) + 1) ∧ Hid (t5 = 2 ^ k5) ∧ Hid (vk l2 ≤ k5) ∧ WX = wr5)
                case atStart => exact ⟨t, k, by omega, q8, q9, q10, rfl, rfl, ht.out, Hvk2.out, rfl⟩
                case round =>
                  obtain ⟨t5, k5, r1, r2, r3, r4, rfl, rfl, r5, r6, rfl⟩ := hrel
                  by_cases hlt5 : l2 + 1 < t5
                  · obtain ⟨k6, rfl⟩ : ∃ k6, k5 = k6 + 1 := ⟨k5 - 1, by
                      have : k5 ≠ 0 := by
                        rintro rfl
                        have := r5.out
                        rw [Nat.pow_zero] at this
                        omega
                      omega⟩
                    obtain ⟨t6, rfl⟩ : ∃ t6, t5 = 2 * t6 := ⟨2 ^ k6, by rw [r5.out, Nat.pow_succ, Nat.mul_comm]⟩
                    have h6 : t6 = 2 ^ k6 := by have := r5.out; rw [Nat.pow_succ] at this; omega
                    have h7 : vk l2 ≤ k6 := by
                      have h8 := vk_low l2
                      have : vk l2 < k6 + 1 := (Nat.pow_lt_pow_iff_right (a := 2) (by decide)).1 (by have := r5.out; omega)
                      omega
                    have H6 := Lib.hid h6
                    have H7 := Lib.hid h7
                    clear h6 h7 r5 r6
                    go_wp2
                    go_roundg (k6 + 1)
                    case measure => exact r1
                    case rel => exact ⟨t6, k6, by omega, by omega, by omega, by omega, rfl, (by first | rfl | (congr 1; omega)), H6.out, H7.out, rfl⟩
                  · have h7 : k5 = vk l2 := by
                      have h8 := vk_high l2
                      have : k5 < vk l2 + 1 := (Nat.pow_lt_pow_iff_right (a := 2) (by decide)).1 (by have := r5.out; omega)
                      have := r6.out
                      omega
                    have H7 := Lib.hid h7
                    clear h7 r6
                    go_wp2
                    go_roundg (T - pos)
                    case measure => exact q1
                    case rel => exact ⟨pos + Wd, o5, l2, t5, k5, sy + 1, out ++ [p], (p == 0), by omega, by have := Hkle.out; omega, u2, by omega, by have := Hkle.out; omega, by omega, by omega, r2, r3, r4, by omega, (by first | rfl | (congr 1; omega)), rfl, rfl, rfl, (by first | rfl | simp [hp1]), r5.out, H7.out, (by show _ = _; rw [List.length_append, ← hsy.out]; rfl), (fun h => by simp only [beq_iff_eq] at h; omega), Hg2.out, Hst.out, hbx, hnx, hkx⟩
end Go.Proofs.YtabaholflahepaaDoor
