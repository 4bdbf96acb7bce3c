/-
  Plain law: weights that are compressed by FSE. Contract of (spec.table).next.
-/
import Derived.Test.YtabaholflahepaaDoorProb
import Derived.Test.YtabaholflahepaaDoorSpecLow
import Derived.Test.YtabaholflahepaaDoorSpecB
import Derived.Test.YtabaholflahepaaDoorCells
import Derived.Test.YtabaholflahepaaDoorCopies
import Derived.Test.YtabaholflahepaaDoorShares
import Derived.Test.YtabaholflahepaaDoorLow
namespace Go.Proofs.YtabaholflahepaaDoor
open Go.RowKit

def symOf (tb : List (Nat × Nat × Nat)) (a : Nat) : Nat := (tb.getD a (0, 0, 0)).1
def bitsS (tb : List (Nat × Nat × Nat)) (a : Nat) : Nat := (tb.getD a (0, 0, 0)).2.1
def baseS (tb : List (Nat × Nat × Nat)) (a : Nat) : Nat := (tb.getD a (0, 0, 0)).2.2
/-- Symbols of two states by turns: L bits of N are left; f: how many more there may be. -/
def wts (N : Nat) (tb : List (Nat × Nat × Nat)) : Nat → Nat → Nat → Nat → List Nat → Option (List Nat)
  | 0, _, _, _, _ => none
  | f + 1, a, b, L, out =>
    if L < bitsS tb a then (if out.length + 2 ≤ 255 then some (out ++ [symOf tb a, symOf tb b]) else none)
    else if 255 < out.length + 1 then none
    else wts N tb f b (baseS tb a + N / 2 ^ (L - bitsS tb a) % 2 ^ bitsS tb a) (L - bitsS tb a) (out ++ [symOf tb a])
theorem wts_end {N f a b L : Nat} {tb : List (Nat × Nat × Nat)} {out : List Nat} (h : L < bitsS tb a) (h2 : out.length + 2 ≤ 255) : wts N tb (f + 1) a b L out = some (out ++ [symOf tb a, symOf tb b]) := by
  rw [wts, if_pos h, if_pos h2]
theorem wts_end_bad {N f a b L : Nat} {tb : List (Nat × Nat × Nat)} {out : List Nat} (h : L < bitsS tb a) (h2 : 255 < out.length + 2) : wts N tb (f + 1) a b L out = none := by
  rw [wts, if_pos h, if_neg (by omega)]
theorem wts_bad {N f a b L : Nat} {tb : List (Nat × Nat × Nat)} {out : List Nat} (h : bitsS tb a ≤ L) (h2 : 255 < out.length + 1) : wts N tb (f + 1) a b L out = none := by
  rw [wts, if_neg (by omega), if_pos h2]
theorem wts_step {N f a b L : Nat} {tb : List (Nat × Nat × Nat)} {out : List Nat} (h : bitsS tb a ≤ L) (h2 : out.length + 1 ≤ 255) :
    wts N tb (f + 1) a b L out = wts N tb f b (baseS tb a + N / 2 ^ (L - bitsS tb a) % 2 ^ bitsS tb a) (L - bitsS tb a) (out ++ [symOf tb a]) := by
  rw [wts, if_neg (by omega), if_neg (by omega)]

theorem tab_get {tb : List (Nat × Nat × Nat)} {a : Nat} (h : a < tb.length) : tb[a]? = some (symOf tb a, bitsS tb a, baseS tb a) := by
  unfold symOf bitsS baseS
  rw [List.getD_eq_getElem?_getD, List.getElem?_eq_getElem h]
  rfl

/-- The next state leads on within the table. -/
theorem tab_next {L : Nat} {ps : List Int} (h : IsShares L ps) {a x : Nat} (ha : a < 2 ^ L) (hx : x < 2 ^ bitsS (tab L ps) a) : baseS (tab L ps) a + x < 2 ^ L ∧ bitsS (tab L ps) a ≤ L := by
  have hg := tab_get (tb := tab L ps) (a := a) (by rw [tab_length]; exact ha)
  have hc : (tab L ps)[a]? = some (cellAt L ps a) := by simp [tab, ha]
  have he := Option.some.inj (hg.symm.trans hc)
  simp only [cellAt, Prod.mk.injEq] at he
  obtain ⟨_, h1, h2⟩ := he
  have hn0 := numAt_pos h a
  have hn1 := numAt_lt h ha
  have h3 : 2 ^ Nat.log2 (numAt L ps a) ≤ numAt L ps a := Nat.log2_self_le (by omega)
  have h4 : numAt L ps a < 2 ^ (Nat.log2 (numAt L ps a) + 1) := Nat.lt_log2_self
  have h5 : Nat.log2 (numAt L ps a) ≤ L := by
    have := (Nat.pow_lt_pow_iff_right (a := 2) (by decide)).1 (Nat.lt_of_le_of_lt h3 hn1)
    omega
  rw [h1] at hx
  rw [h1, h2]
  have h6 : 2 ^ L = 2 ^ Nat.log2 (numAt L ps a) * 2 ^ (L - Nat.log2 (numAt L ps a)) := by rw [← Nat.pow_add]; congr 1; omega
  refine ⟨?_, by omega⟩
  rw [Nat.pow_succ] at h4
  have h7 : numAt L ps a * 2 ^ (L - Nat.log2 (numAt L ps a)) + 2 ^ (L - Nat.log2 (numAt L ps a)) ≤ 2 * 2 ^ L := by
    rw [h6, ← Nat.succ_mul, ← Nat.mul_assoc]
    exact Nat.mul_le_mul_right _ (by omega)
  have h8 : 2 ^ L ≤ numAt L ps a * 2 ^ (L - Nat.log2 (numAt L ps a)) := by
    rw [h6]
    exact Nat.mul_le_mul_right _ h3
  omega

set_option maxHeartbeats 1000000 in
theorem next_any {R : Nat → Prop} (g bb : Nat) (A : Option Addr) (c N st : Nat) (tb : List (Nat × Nat × Nat)) (ds : List Nat) (Lf lv : Int) (w : World) (hg : Blk w g 177 (flat cel3 tb)) (hb : Blk w bb 96 (bkCells A c ds.length Lf)) (hs : Sl w R A (u8s ds)) (hR : ¬ R bb)
    (hd : Bytes ds) (hlen : ds.length < 2 ^ 40) (hst : st < tb.length) (hN : tb.length = N) (_hN2 : N ≤ 512) (hbits : bitsS tb st ≤ 16) (hbase : baseS tb st ≤ 65536) (h1 : Lf ≤ 8 * ds.length) (h2 : -2 ^ 50 ≤ Lf) :
    Calls Tryd.prog 104 #[.agg #[.slice (some ⟨g, 0, none⟩) N N, .int .i64 lv], .pointer (some ⟨bb, 0, none⟩), .int .i64 st] w fun e w' =>
      e = .returned (.int .i64 (baseS tb st + backVal (num ds) Lf (bitsS tb st) : Nat)) ∧ Blk w' bb 96 (bkCells A c ds.length (Lf - bitsS tb st)) ∧ Keep (· = bb) w w' := by
  have hx := tab_get hst
  obtain ⟨x0, hx0⟩ : ∃ x, x = symOf tb st := ⟨_, rfl⟩
  obtain ⟨x1, hx1⟩ : ∃ x, x = bitsS tb st := ⟨_, rfl⟩
  obtain ⟨x2, hx2⟩ : ∃ x, x = baseS tb st := ⟨_, rfl⟩
  rw [← hx0, ← hx1, ← hx2] at hx
  rw [← hx1, ← hx2]
  rw [← hx1] at hbits
  rw [← hx2] at hbase
  have hbl := hb.lt
  have hgl := hg.lt
  have hk0 : Kept w (w.alloc (.cells #[.slice (some ⟨g, 0, none⟩) N N, .int .i64 lv] 104)) := (Keep.refl _ _).alloc _
  have c0 : w.cell? ⟨g, st * 3, none⟩ = some (.int .i64 x0) := hg.row cel3_length (j := 0) hx rfl
  have c1 : w.cell? ⟨g, st * 3 + 1, none⟩ = some (.int .i64 x1) := hg.row cel3_length (j := 1) hx rfl
  have c2 : w.cell? ⟨g, st * 3 + 2, none⟩ = some (.int .i64 x2) := hg.row cel3_length (j := 2) hx rfl
  have hstN : st < N := by omega
  have hv := backVal_lt (num ds) Lf x1
  have hv16 := pow_le_16 hbits
  have hrd := fun w' hk => bkRead_any (R := R) bb A c ds Lf x1 w' (hb.kept hk) (hs.kept hk) hR hd hlen (by omega) h1 h2
  obtain ⟨V, hV⟩ : ∃ V, V = backVal (num ds) Lf x1 := ⟨_, rfl⟩
  have hV16 : V ≤ 65536 := by omega
  rw [← hV] at hrd ⊢
  have Hrd := Lib.hid hrd
  clear hrd hV hx hx0 hx1 hx2 hN hv hv16 hd hb hg
  go_enter Tryd.func104, Tryd.ntmps104
  go_wp2
  obtain ⟨f, hf⟩ : ∃ f, f = w.heap.size + 1 := ⟨_, rfl⟩
  obtain ⟨W, hW⟩ : ∃ W, W = (w.alloc (.cells #[.slice (some ⟨g, 0, none⟩) N N, .int .i64 lv] 104)).alloc (.cells #[.int .i64 (x0 : Int), .int .i64 (x1 : Int), .int .i64 (x2 : Int)] 177) := ⟨_, rfl⟩
  have hkW : Kept w W := by rw [hW]; exact hk0.alloc _
  have hfb : Blk W f 177 [.int .i64 (x0 : Int), .int .i64 (x1 : Int), .int .i64 (x2 : Int)] := by
    rw [hW, hf]
    have := Blk.new (w.alloc (.cells #[.slice (some ⟨g, 0, none⟩) N N, .int .i64 lv] 104)) 177 [.int .i64 (x0 : Int), .int .i64 (x1 : Int), .int .i64 (x2 : Int)]
    simpa using this
  have e1 : W.cell? ⟨f, 1, none⟩ = some (.int .i64 x1) := hfb.cell 1
  have e2 : W.cell? ⟨f, 2, none⟩ = some (.int .i64 x2) := hfb.cell 2
  have hfbb : f ≠ bb := by omega
  rw [← hf, ← hW]
  have hsum : IntKind.i64.wrap ((x2 : Int) + (V : Int)) = ((x2 + V : Nat) : Int) := by rw [IntWalk.i64_in _ (by omega)]; omega
  clear hW hf hfb hk0 c0 c1 c2
  go_region_held3 (fun w' => w'.cell? ⟨f, 1, none⟩ = some (.int .i64 x1) ∧ w'.cell? ⟨f, 2, none⟩ = some (.int .i64 x2)) (first | exact ⟨hk.cell e1 hfbb, hk.cell e2 hfbb⟩ | go_keep)
    (first | (go_at_call 46; refine (Hrd.out _ (hkW.drewN _)).mono ?_; rintro e w' ⟨rfl, hb', hk⟩))
  all_goals
    go_wp2
    go_ret
    exact ⟨rfl, hb', (Kept.any (hkW.drewN _) _).trans hk⟩
end Go.Proofs.YtabaholflahepaaDoor
