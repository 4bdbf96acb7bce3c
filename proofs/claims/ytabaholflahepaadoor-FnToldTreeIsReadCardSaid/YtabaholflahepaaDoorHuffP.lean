/-
  Plain law: what readHuff reads out of all of the data, against what a description tells within its own bytes.
-/
import Derived.Test.YtabaholflahepaaDoorTreeQ
import Derived.Test.YtabaholflahepaaDoorTreeM
namespace Go.Proofs.YtabaholflahepaaDoor
open Go.RowKit

theorem bitLen_log2 {x : Nat} (h0 : x ≠ 0) (h : x < 4294967296) : Lib.bitLen x = Nat.log2 x + 1 := by
  have h1 := Nat.log2_self_le h0
  have h2 : x < 2 ^ (Nat.log2 x + 1) := Nat.lt_log2_self
  have e := Lib.bitLen_shift (Nat.log2 x) x h1 (by omega)
  have h4 : x / 2 ^ Nat.log2 x = 1 := by
    have a1 : 1 ≤ x / 2 ^ Nat.log2 x := (Nat.le_div_iff_mul_le (pow_pos' _)).2 (by omega)
    have a2 : x / 2 ^ Nat.log2 x < 2 := (Nat.div_lt_iff_lt_mul (pow_pos' _)).2 (by rw [Nat.pow_succ] at h2; omega)
    omega
  rw [e, h4]; rfl

section
variable {ds : List Nat} {off h : Nat}

theorem drop_head (hx : ds[off]? = some h) : (ds.drop off).getD 0 0 = h ∧ off < ds.length := by
  refine ⟨?_, (List.getElem?_eq_some_iff.1 hx).1⟩
  rw [List.getD_eq_getElem?_getD, List.getElem?_drop, Nat.add_zero, hx]; rfl

/-- The tree, told by the weights. -/
theorem treeS_wts (hx : ds[off]? = some h) (hl : off + (1 + bodyOf h) ≤ ds.length) {ws : List Nat} (hw : wtsIn (ds.drop off) = some ws) : treeS (ds.drop off) = (treeP ws).map fun t => (t.1, t.2, 1 + bodyOf h) := by
  have h1 := drop_head hx
  unfold treeS
  rw [h1.1, if_neg (by rw [List.length_drop]; omega), if_neg (by rw [List.length_drop]; omega), hw]
  rfl
theorem treeS_no (hw : wtsIn (ds.drop off) = none) : treeS (ds.drop off) = none := by
  unfold treeS
  rw [hw]
  split
  · rfl
  · split <;> rfl
theorem treeS_short (hx : ds[off]? = some h) (hl : ds.length < off + (1 + bodyOf h)) : treeS (ds.drop off) = none := by
  have h1 := drop_head hx
  unfold treeS
  rw [h1.1]
  split
  · rfl
  · rw [if_pos (by rw [List.length_drop]; omega)]

/-- The bytes behind the head. -/
def win (ds : List Nat) (off h : Nat) : List Nat := (ds.drop (off + 1)).take h
theorem win_length (hl : off + 1 + h ≤ ds.length) : (win ds off h).length = h := by rw [win, List.length_take, List.length_drop]; omega
theorem win_last {x : Nat} (hy : ds[off + h]? = some x) (h1 : 1 ≤ h) : (win ds off h)[h - 1]? = some x := by
  rw [win, List.getElem?_take, if_pos (by omega), List.getElem?_drop, show off + 1 + (h - 1) = off + h by omega, hy]
theorem wtsIn_win (hx : ds[off]? = some h) (hh : h < 128) : wtsIn (ds.drop off) = wtsOf (win ds off h) := by
  have h1 := drop_head hx
  unfold wtsIn win
  rw [h1.1, if_neg (by omega), List.drop_drop]
theorem win_bits (hd : Bytes ds) {pos n : Nat} (hf : pos + n ≤ 8 * h) : rdb (num (win ds off h)) pos n = rdb (num ds) (8 * (off + 1) + pos) n := rdb_window hd hf
theorem win_desc (hd : Bytes ds) (hl : off + 1 + h ≤ ds.length) (L : Nat) (ps : List Int) (e : Nat) :
    desc (num (win ds off h)) (8 * h) 256 6 0 = some (L, ps, e) ↔ desc (num ds) (8 * ds.length) 256 6 (8 * (off + 1)) = some (L, ps, 8 * (off + 1) + e) ∧ e ≤ 8 * h :=
  desc_window (fun _ _ hf => win_bits hd hf) (by omega) L ps e

/-- Behind a description of shares there is a byte at least. -/
theorem wtsOf_room {l ws : List Nat} (h : wtsOf l = some ws) : ∃ L ps e, desc (num l) (8 * l.length) 256 6 0 = some (L, ps, e) ∧ (e + 7) / 8 < l.length ∧ l.getD (l.length - 1) 0 ≠ 0 := by
  cases hde : desc (num l) (8 * l.length) 256 6 0 with
  | none => rw [wtsOf_none hde] at h; cases h
  | some x =>
    obtain ⟨L, ps, e⟩ := x
    rw [wtsOf_some hde rfl rfl] at h
    refine ⟨L, ps, e, rfl, ?_⟩
    split at h
    · cases h
    · rename_i hne
      by_cases hlt : (e + 7) / 8 < l.length
      · refine ⟨hlt, fun h0 => hne ?_⟩
        rw [List.getD_eq_getElem?_getD, List.getElem?_drop, List.length_drop, show (e + 7) / 8 + (l.length - (e + 7) / 8 - 1) = l.length - 1 by omega, ← List.getD_eq_getElem?_getD]
        exact h0
      · exfalso
        apply hne
        rw [List.drop_eq_nil_of_le (by omega)]
        rfl

/-- readFSE has refused. -/
theorem huff_refused (hd : Bytes ds) (hx : ds[off]? = some h) (hh : h < 128) (hno : ∀ L ps q, desc (num ds) (8 * ds.length) 256 6 (8 * (off + 1)) = some (L, ps, q) → 8 * ds.length < q + 16) :
    ∀ al m q, treeS (ds.drop off) = some (al, m, q) → 1 ∈ al → ds.length ≤ off + q := by
  intro al m q ht _
  obtain ⟨h0, hq, hl, ws, hw, _⟩ := treeS_some ht
  have h1 := drop_head hx
  have hb : bodyOf h = h := by unfold bodyOf; rw [if_neg (by omega)]
  rw [h1.1, hb] at hq
  rw [List.length_drop] at hl
  rw [wtsIn_win hx hh] at hw
  have hwl := win_length (ds := ds) (off := off) (h := h) (by omega)
  obtain ⟨L, ps, e, hde, he, _⟩ := wtsOf_room hw
  rw [hwl] at hde he
  have h2 := ((win_desc hd (by omega) L ps e).1 hde).1
  have := hno _ _ _ h2
  omega
/-- The last byte is 0. -/
theorem huff_zero (hx : ds[off]? = some h) (hh : h < 128) (hl : off + 1 + h ≤ ds.length) (hz : ds[off + h]? = some 0) : treeS (ds.drop off) = none := by
  refine treeS_no ?_
  rw [wtsIn_win hx hh]
  cases hw : wtsOf (win ds off h) with
  | none => rfl
  | some ws =>
    exfalso
    have hwl := win_length hl
    obtain ⟨L, ps, e, _, he, hne⟩ := wtsOf_room hw
    rw [hwl] at he hne
    apply hne
    rw [List.getD_eq_getElem?_getD, win_last hz (by omega)]
    rfl
/-- The shares leave no byte. -/
theorem huff_full (hd : Bytes ds) (hx : ds[off]? = some h) (hh : h < 128) (hl : off + 1 + h ≤ ds.length) {L E : Nat} {ps : List Int} (hde : desc (num ds) (8 * ds.length) 256 6 (8 * (off + 1)) = some (L, ps, E)) (hE : off + h < (E + 7) / 8) : treeS (ds.drop off) = none := by
  refine treeS_no ?_
  rw [wtsIn_win hx hh]
  cases hw : wtsOf (win ds off h) with
  | none => rfl
  | some ws =>
    exfalso
    have hwl := win_length hl
    obtain ⟨L', ps', e, hde', he, _⟩ := wtsOf_room hw
    rw [hwl] at he hde'
    have h2 := ((win_desc hd hl L' ps' e).1 hde').1
    rw [hde] at h2
    simp only [Option.some.injEq, Prod.mk.injEq] at h2
    omega
/-- The weights behind the shares. -/
theorem huff_wts (hd : Bytes ds) (hx : ds[off]? = some h) (hh : h < 128) (hl : off + 1 + h ≤ ds.length) {L E x : Nat} {ps : List Int} (hde : desc (num ds) (8 * ds.length) 256 6 (8 * (off + 1)) = some (L, ps, E)) (hE : (E + 7) / 8 ≤ off + h) (hy : ds[off + h]? = some x) (hx0 : x ≠ 0)
    {no : Nat} (hno : no = (E + 7) / 8) {rs : List Nat} (hrs : rs = (ds.drop no).take (off + 1 + h - no)) {lf : Nat} (hlf : lf = 8 * (off + h - no) + Nat.log2 x) :
    off + 1 ≤ no ∧ (∀ pos n, pos + n ≤ 8 * rs.length → rdb (num rs) pos n = rdb (num ds) (8 * no + pos) n) ∧ rs.length = off + 1 + h - no ∧
      wtsIn (ds.drop off) = if lf < 2 * L then none else wts (num rs) (tab L ps) 256 (num rs / 2 ^ (lf - L) % 2 ^ L) (num rs / 2 ^ (lf - 2 * L) % 2 ^ L) (lf - 2 * L) [] := by
  have h4 := (desc_some hde (by decide)).2.2.2.2.2.2.2.1
  obtain ⟨e, rfl⟩ : ∃ e, E = 8 * (off + 1) + e := ⟨E - 8 * (off + 1), by omega⟩
  have hne : no = off + 1 + (e + 7) / 8 := by omega
  have hwl := win_length hl
  have hrl : rs.length = off + 1 + h - no := by rw [hrs, List.length_take, List.length_drop]; omega
  have hw := (win_desc hd hl L ps e).2 ⟨hde, by omega⟩
  have hrw : rs = (win ds off h).drop ((e + 7) / 8) := by
    rw [hrs, win, List.drop_take, List.drop_drop, hne]
    congr 1
    omega
  have hlast : x = rs.getD (rs.length - 1) 0 := by
    rw [hrl, hrs, List.getD_eq_getElem?_getD, List.getElem?_take, if_pos (by omega), List.getElem?_drop, show no + (off + 1 + h - no - 1) = off + h by omega, hy]
    rfl
  refine ⟨by omega, fun pos n hf => ?_, hrl, ?_⟩
  · rw [hrl] at hf
    rw [hrs]
    exact rdb_window hd hf
  · rw [wtsIn_win hx hh]
    have hw' : desc (num (win ds off h)) (8 * (win ds off h).length) 256 6 0 = some (L, ps, e) := by rw [hwl]; exact hw
    rw [wtsOf_some hw' hrw hlast, if_neg hx0, hrl, show 8 * (off + 1 + h - no - 1) + Nat.log2 x = lf by rw [hlf]; omega]
end
end Go.Proofs.YtabaholflahepaaDoor
