import PyProof.Rows.All
import PyProof.Rows.RowBridgeG
import KE.KTryOn
import Wide.FinOn
import OpenK.AllK
import Wide.All
import Lean
import PySem.Challenge.RW_ij0107_01
set_option Elab.async false
set_option linter.all false
set_option compiler.extract_closed false
set_option genSizeOf false
set_option genInjectivity false
set_option bootstrap.genMatcherCode false
open PySem PySem.W PyProof.Rows
section
set_option maxRecDepth 100000
open PySem PySem.W PyProof.Rows
set_option maxRecDepth 100000 
set_option maxHeartbeats 8000000 
namespace Mine
section
local macro_rules | `(tactic| o_head $_) => `(tactic| skip)
set_option Elab.async true in
theorem hd (bad : False) : PySem.Challenge.rw_ij0107_01.row.Holds := by
  km_head
  exact bad.elim
end
def keepAt (b : List Stmt) : List Nat → List Stmt
  | [] => []
  | i :: r => match b[i]? with
    | some s => s :: keepAt b r
    | none => keepAt b r
noncomputable def view : Program := { PySem.Challenge.rw_ij0107_01.row.prog with main := { PySem.Challenge.rw_ij0107_01.row.prog.main with body := keepAt PySem.Challenge.rw_ij0107_01.row.prog.main.body [0, 1, 3, 4, 5, 6, 8, 10, 11, 12, 13, 15, 16, 17, 19, 20, 22, 23, 25, 26, 28, 29, 30, 31, 32, 33, 34, 35] } }
end Mine
end
section
local macro_rules | `(tactic| omega) => `(tactic| first | k_extra "ar" | lia | omega (config := {}))
local macro_rules | `(tactic| walk_at $s:str) => `(tactic| k_extra $s)
local macro_rules | `(tactic| k_all) => `(tactic| k_extra "k_all")
local macro_rules | `(tactic| kn_posts) => `(tactic| k_extra "kn_posts")
local macro_rules | `(tactic| k_room) => `(tactic| k_extra "k_room")
section
namespace Mine
theorem ex1E {a0 : Sort _} {p : a0 → Prop} {b : Prop} (h : ∃ x0 : a0, p x0) (f : ∀ x0 : a0, p x0 → b) : b := h.elim fun x0 hx => f x0 hx
theorem ex2E {a0 : Sort _} {a1 : Sort _} {p : a0 → a1 → Prop} {b : Prop} (h : ∃ x0 : a0, ∃ x1 : a1, p x0 x1) (f : ∀ x0 : a0, ∀ x1 : a1, p x0 x1 → b) : b := h.elim fun x0 h1 => h1.elim fun x1 hx => f x0 x1 hx
theorem ex3E {a0 : Sort _} {a1 : Sort _} {a2 : Sort _} {p : a0 → a1 → a2 → Prop} {b : Prop} (h : ∃ x0 : a0, ∃ x1 : a1, ∃ x2 : a2, p x0 x1 x2) (f : ∀ x0 : a0, ∀ x1 : a1, ∀ x2 : a2, p x0 x1 x2 → b) : b := h.elim fun x0 h1 => h1.elim fun x1 h2 => h2.elim fun x2 hx => f x0 x1 x2 hx
theorem ex4E {a0 : Sort _} {a1 : Sort _} {a2 : Sort _} {a3 : Sort _} {p : a0 → a1 → a2 → a3 → Prop} {b : Prop} (h : ∃ x0 : a0, ∃ x1 : a1, ∃ x2 : a2, ∃ x3 : a3, p x0 x1 x2 x3) (f : ∀ x0 : a0, ∀ x1 : a1, ∀ x2 : a2, ∀ x3 : a3, p x0 x1 x2 x3 → b) : b := h.elim fun x0 h1 => h1.elim fun x1 h2 => h2.elim fun x2 h3 => h3.elim fun x3 hx => f x0 x1 x2 x3 hx
theorem ex5E {a0 : Sort _} {a1 : Sort _} {a2 : Sort _} {a3 : Sort _} {a4 : Sort _} {p : a0 → a1 → a2 → a3 → a4 → Prop} {b : Prop} (h : ∃ x0 : a0, ∃ x1 : a1, ∃ x2 : a2, ∃ x3 : a3, ∃ x4 : a4, p x0 x1 x2 x3 x4) (f : ∀ x0 : a0, ∀ x1 : a1, ∀ x2 : a2, ∀ x3 : a3, ∀ x4 : a4, p x0 x1 x2 x3 x4 → b) : b := h.elim fun x0 h1 => h1.elim fun x1 h2 => h2.elim fun x2 h3 => h3.elim fun x3 h4 => h4.elim fun x4 hx => f x0 x1 x2 x3 x4 hx
theorem and2E {a0 a1 b : Prop} (h : a0 ∧ a1) (f : a0 → a1 → b) : b := f h.1 h.2
theorem and3E {a0 a1 a2 b : Prop} (h : a0 ∧ a1 ∧ a2) (f : a0 → a1 → a2 → b) : b := f h.1 h.2.1 h.2.2
theorem and4E {a0 a1 a2 a3 b : Prop} (h : a0 ∧ a1 ∧ a2 ∧ a3) (f : a0 → a1 → a2 → a3 → b) : b := f h.1 h.2.1 h.2.2.1 h.2.2.2
theorem and5E {a0 a1 a2 a3 a4 b : Prop} (h : a0 ∧ a1 ∧ a2 ∧ a3 ∧ a4) (f : a0 → a1 → a2 → a3 → a4 → b) : b := f h.1 h.2.1 h.2.2.1 h.2.2.2.1 h.2.2.2.2
theorem and6E {a0 a1 a2 a3 a4 a5 b : Prop} (h : a0 ∧ a1 ∧ a2 ∧ a3 ∧ a4 ∧ a5) (f : a0 → a1 → a2 → a3 → a4 → a5 → b) : b := f h.1 h.2.1 h.2.2.1 h.2.2.2.1 h.2.2.2.2.1 h.2.2.2.2.2
theorem and8E {a0 a1 a2 a3 a4 a5 a6 a7 b : Prop} (h : a0 ∧ a1 ∧ a2 ∧ a3 ∧ a4 ∧ a5 ∧ a6 ∧ a7) (f : a0 → a1 → a2 → a3 → a4 → a5 → a6 → a7 → b) : b := f h.1 h.2.1 h.2.2.1 h.2.2.2.1 h.2.2.2.2.1 h.2.2.2.2.2.1 h.2.2.2.2.2.2.1 h.2.2.2.2.2.2.2
theorem and9E {a0 a1 a2 a3 a4 a5 a6 a7 a8 b : Prop} (h : a0 ∧ a1 ∧ a2 ∧ a3 ∧ a4 ∧ a5 ∧ a6 ∧ a7 ∧ a8) (f : a0 → a1 → a2 → a3 → a4 → a5 → a6 → a7 → a8 → b) : b := f h.1 h.2.1 h.2.2.1 h.2.2.2.1 h.2.2.2.2.1 h.2.2.2.2.2.1 h.2.2.2.2.2.2.1 h.2.2.2.2.2.2.2.1 h.2.2.2.2.2.2.2.2
end Mine
namespace Mine.Ar
section
open PySem
variable {aX bX cX dX eX iX jX kX mX nX pX qX : Nat}
theorem ltB (hX : Nat.ble (aX + 1) bX = true) : aX < bX := Nat.le_of_ble_eq_true hX
theorem rm1 (hX : aX + kX ≤ cX) (eX : Nat.ble mX kX = true) : aX + mX ≤ cX := Nat.le_trans (Nat.add_le_add_left (Nat.le_of_ble_eq_true eX) aX) hX
theorem rm2 (hX : aX + kX ≤ cX) (eX : Nat.ble (mX + jX) kX = true) : aX + mX + jX ≤ cX := Nat.add_assoc aX mX jX ▸ rm1 hX eX
theorem rm3 (hX : aX + kX ≤ cX) (eX : Nat.ble (mX + (iX + jX)) kX = true) : aX + mX + iX + jX ≤ cX := Nat.add_assoc (aX + mX) iX jX ▸ rm2 hX eX
theorem rm4 (hX : aX + kX ≤ cX) (eX : Nat.ble (mX + (iX + (jX + nX))) kX = true) : aX + mX + iX + jX + nX ≤ cX := Nat.add_assoc (aX + mX + iX) jX nX ▸ rm3 hX eX
theorem rl0 (hX : aX + kX ≤ cX) (eX : Nat.ble 1 kX = true) : aX < cX := rm1 hX eX
theorem rl1 (hX : aX + kX ≤ cX) (eX : Nat.ble (mX + 1) kX = true) : aX + mX < cX := rm2 hX eX
theorem rl2 (hX : aX + kX ≤ cX) (eX : Nat.ble (mX + (iX + 1)) kX = true) : aX + mX + iX < cX := rm3 hX eX
theorem rl3 (hX : aX + kX ≤ cX) (eX : Nat.ble (mX + (iX + (jX + 1))) kX = true) : aX + mX + iX + jX < cX := rm4 hX eX
theorem rl4 (hX : aX + kX ≤ cX) (eX : Nat.ble (mX + (iX + (jX + (nX + 1)))) kX = true) : aX + mX + iX + jX + nX < cX := Nat.le_trans (Nat.le_of_eq (Nat.add_assoc (aX + mX + iX + jX) nX 1)) (rm4 (nX := nX + 1) hX eX)
theorem rs1 (hX : aX + kX ≤ cX) (eX : Nat.ble (mX + jX) kX = true) : aX + mX ≤ cX - jX := Nat.le_sub_of_add_le (rm2 hX eX)
theorem sz (hX : aX ≤ kX) (zX : cX = dX) (eX : Nat.ble kX dX = true) : aX ≤ cX := zX ▸ Nat.le_trans hX (Nat.le_of_ble_eq_true eX)
theorem szp (hX : aX + mX ≤ kX) (zX : cX = dX) (eX : Nat.ble kX dX = true) : aX ≤ cX := sz (Nat.le_trans (Nat.le_add_right aX mX) hX) zX eX
theorem szq (gX : aX ≤ bX) (hX : bX ≤ kX) (zX : cX = dX) (eX : Nat.ble kX dX = true) : aX ≤ cX := sz (Nat.le_trans gX hX) zX eX
theorem sze (gX : aX = bX) (hX : bX ≤ kX) (zX : cX = dX) (eX : Nat.ble kX dX = true) : aX ≤ cX := gX ▸ sz hX zX eX
theorem sn (hX : aX ≤ kX) (eX : Nat.ble kX dX = true) : aX ≤ dX := Nat.le_trans hX (Nat.le_of_ble_eq_true eX)
theorem snl (hX : aX ≤ kX) (eX : Nat.ble (kX + 1) dX = true) : aX < dX := Nat.lt_of_le_of_lt hX (Nat.le_of_ble_eq_true eX)
theorem snp (hX : aX + mX ≤ kX) (eX : Nat.ble kX dX = true) : aX ≤ dX := sn (Nat.le_trans (Nat.le_add_right aX mX) hX) eX
theorem snq (gX : aX ≤ bX) (hX : bX ≤ kX) (eX : Nat.ble kX dX = true) : aX ≤ dX := sn (Nat.le_trans gX hX) eX
theorem sne (gX : aX = bX) (hX : bX ≤ kX) (eX : Nat.ble kX dX = true) : aX ≤ dX := gX ▸ sn hX eX
theorem sn1 (hX : aX ≤ kX) (eX : Nat.ble (kX + mX) dX = true) : aX + mX ≤ dX := Nat.le_trans (Nat.add_le_add_right hX mX) (Nat.le_of_ble_eq_true eX)
theorem sn2 (hX : aX ≤ kX) (gX : bX ≤ mX) (eX : Nat.ble (kX + mX) dX = true) : aX + bX ≤ dX := Nat.le_trans (Nat.add_le_add hX gX) (Nat.le_of_ble_eq_true eX)
theorem dec1 (hX : iX < nX) : nX + 1 - (iX + 1) < nX + 1 - iX := Nat.sub_lt_sub_left (Nat.lt_succ_of_lt hX) (Nat.lt_succ_self iX)
theorem dec1' (hX : iX + 1 ≤ nX) : nX + 1 - (iX + 1) < nX + 1 - iX := dec1 hX
theorem dec0 (hX : iX < nX) : nX - (iX + 1) < nX - iX := Nat.sub_lt_sub_left hX (Nat.lt_succ_self iX)
theorem subS (hX : nX - iX = jX + 1) : nX - (iX + 1) = jX := (Nat.sub_succ nX iX).trans (congrArg Nat.pred hX)
theorem subS' (hX : jX + 1 = nX - iX) : jX = nX - (iX + 1) := (subS hX.symm).symm
theorem subL (hX : nX - iX = jX + 1) : iX < nX := Nat.lt_of_sub_pos (hX.symm ▸ Nat.succ_pos jX)
theorem subL' (hX : jX + 1 = nX - iX) : iX < nX := subL hX.symm
theorem subE (hX : nX - iX = 0) (gX : iX ≤ nX) : iX = nX := Nat.le_antisymm gX (Nat.sub_eq_zero_iff_le.mp hX)
theorem subE' (hX : 0 = nX - iX) (gX : iX ≤ nX) : iX = nX := subE hX.symm gX
theorem subP (hX : iX < nX) : nX - iX = nX - iX - 1 + 1 := (Nat.sub_add_cancel (Nat.sub_pos_of_lt hX)).symm
theorem addL (hX : iX + (jX + 1) = nX) : iX < nX := hX ▸ Nat.lt_add_of_pos_right (Nat.succ_pos jX)
theorem addL' (hX : iX + (jX + 1) = nX) : iX + 1 + jX = nX := (Nat.add_right_comm iX 1 jX).trans hX
theorem subD (hX : nX - iX < kX + 1) (gX : iX ≤ jX) (lX : jX < nX) : nX - (jX + 1) < kX := Nat.lt_of_lt_of_le (dec0 lX) (Nat.le_trans (Nat.sub_le_sub_left gX nX) (Nat.le_of_lt_succ hX))
theorem sub0 (hX : nX < iX) : nX - iX = 0 := Nat.sub_eq_zero_of_le (Nat.le_of_lt hX)
theorem sub0' (hX : nX < iX) : nX + 1 - iX = 0 := Nat.sub_eq_zero_of_le hX
theorem subA (hX : ¬ nX < iX) : iX + (nX - iX) = nX := Nat.add_sub_cancel' (Nat.le_of_not_lt hX)
theorem subA' (hX : iX ≤ nX) : iX + (nX - iX) = nX := Nat.add_sub_cancel' hX
theorem subC : aX + kX - aX = kX := Nat.add_sub_cancel_left ..
theorem subC' : aX + kX - kX = aX := Nat.add_sub_cancel ..
theorem pred1 (hX : 1 ≤ nX) : nX - 1 < nX := Nat.sub_lt hX Nat.one_pos
theorem notlt (hX : ¬ iX < nX) : nX ≤ iX := Nat.le_of_not_lt hX
theorem ltS (hX : iX < nX + 1) : iX ≤ nX := Nat.le_of_lt_succ hX
theorem ltn (hX : iX < nX) (gX : nX = kX) : iX < kX := gX ▸ hX
theorem ltn' (hX : iX < nX) (gX : kX = nX) : iX < kX := gX ▸ hX
theorem nel (hX : aX < bX) : ¬ aX = bX := Nat.ne_of_lt hX
theorem neg_ (hX : aX < bX) : ¬ bX = aX := Nat.ne_of_gt hX
theorem nes {α : Sort _} {xX yX : α} (hX : xX ≠ yX) : ¬ yX = xX := fun zX => hX zX.symm
end
section
open PySem
variable {aX bX cX dX eX iX jX kX mX nX pX qX : Nat} {xX yX zX : Int}
theorem i1 : ((nX : Int) + (kX : Int)).toNat = nX + kX := rfl
theorem i2 (hX : xX = (nX : Int) + 1) : xX.toNat = nX + 1 := congrArg Int.toNat hX
theorem i3 (hX : xX = (nX : Int) + (kX : Int)) : xX.toNat = nX + kX := congrArg Int.toNat hX
theorem i4 (hX : yX = xX + 1) : (yX - xX).toNat = 1 := congrArg Int.toNat ((congrArg (· - xX) (hX.trans (Int.add_comm ..))).trans (Int.add_sub_cancel ..))
theorem i5 (hX : yX = xX + (kX : Int)) : (yX - xX).toNat = kX := congrArg Int.toNat ((congrArg (· - xX) (hX.trans (Int.add_comm ..))).trans (Int.add_sub_cancel ..))
theorem i6 : ((nX : Int) + (kX : Int) - (nX : Int)).toNat = kX := i5 rfl
theorem i6' : ((nX : Int) + 4 - 4).toNat = nX := congrArg Int.toNat (Int.add_sub_cancel ..)
theorem i6q (hX : aX = nX) : ((nX : Int) + 4 - 4).toNat = aX := i6'.trans hX.symm
theorem i7 : ((mX : Int) - (kX : Int)).toNat = mX - kX := Int.toNat_sub mX kX
theorem i8 (hX : aX = mX) : aX - kX ≤ ((mX : Int) - (kX : Int)).toNat := hX ▸ Nat.le_of_eq i7.symm
theorem i9 (hX : nX + kX < mX) : (nX : Int) + (kX : Int) < (mX : Int) := Int.ofNat_lt.mpr hX
theorem i9q (eX : xX = (nX : Int) + (kX : Int)) (hX : nX + kX < mX) : xX < (mX : Int) := eX ▸ i9 hX
theorem i10 : -(mX : Int) ≤ (nX : Int) + (kX : Int) := Int.le_trans (Int.neg_nonpos_of_nonneg (Int.natCast_nonneg mX)) (Int.natCast_nonneg (nX + kX))
theorem i10q (eX : xX = (nX : Int) + (kX : Int)) : -(mX : Int) ≤ xX := eX ▸ i10
theorem i0q (eX : xX = (nX : Int) + (kX : Int)) : 0 ≤ xX := eX ▸ Int.natCast_nonneg (nX + kX)
theorem i11 (hX : nX + kX < mX) (gX : mX ≤ pX) (eX : Nat.ble pX 9223372036854775808 = true) : -9223372036854775808 ≤ (nX : Int) + (kX : Int) ∧ (nX : Int) + (kX : Int) < 9223372036854775808 :=
  ⟨Int.le_trans (Int.neg_nonpos_of_nonneg (Int.natCast_nonneg 9223372036854775808)) (Int.natCast_nonneg (nX + kX)), Int.ofNat_lt.mpr (Nat.lt_of_lt_of_le hX (Nat.le_trans gX (Nat.le_of_ble_eq_true eX)))⟩
theorem i12 (zX : xX = (nX : Int) + (kX : Int)) (hX : nX + kX < mX) (gX : mX ≤ pX) (eX : Nat.ble pX 9223372036854775808 = true) : -9223372036854775808 ≤ xX ∧ xX < 9223372036854775808 := zX ▸ i11 hX gX eX
theorem i13 (hX : 1 ≤ mX) : -1 + (mX : Int) = ((mX - 1 : Nat) : Int) := (Int.add_comm ..).trans (Int.natCast_sub hX).symm
theorem i14 (hX : 1 ≤ mX) : 0 + (mX : Int) - 1 = ((mX - 1 : Nat) : Int) := (congrArg (· - 1) (Int.zero_add (mX : Int))).trans (Int.natCast_sub hX).symm
theorem i15 (hX : nX ≤ pX) (eX : Nat.ble (pX + 1) (2 ^ 62) = true) : (nX : Int) < 2 ^ 62 := Int.ofNat_lt.mpr (Nat.lt_of_lt_of_le (Nat.lt_succ_of_le hX) (Nat.le_of_ble_eq_true eX))
theorem i15q (gX : aX ≤ bX) (zX : bX = nX) (hX : nX ≤ pX) (eX : Nat.ble (pX + 1) (2 ^ 62) = true) : (aX : Int) < 2 ^ 62 := i15 (Nat.le_trans gX (zX ▸ hX)) eX
theorem i16 (hX : pX ≤ aX + 1) : (aX : Int) + 1 - (pX : Int) = ((aX + 1 - pX : Nat) : Int) := (Int.natCast_sub hX).symm
theorem i16q (zX : bX = aX) (hX : pX ≤ bX) : (aX : Int) + 1 - (pX : Int) = ((aX + 1 - pX : Nat) : Int) := i16 (zX ▸ Nat.le_succ_of_le hX)
theorem i17 (hX : yX = xX + 1) : xX ≤ yX := hX ▸ Int.le_of_lt (Int.lt_succ xX)
theorem i18 (hX : yX = xX + (kX : Int)) : xX ≤ yX := hX ▸ Int.le_add_of_nonneg_right (Int.natCast_nonneg kX)
theorem i19 (gX : yX = xX + 1) (hX : xX = (nX : Int) + (kX : Int)) (lX : nX + kX < mX) : yX ≤ (mX : Int) := gX ▸ hX ▸ Int.ofNat_le.mpr lX
theorem i20 : (kX : Int) = (nX : Int) ↔ nX = kX := ⟨fun hX => (Int.ofNat_inj.mp hX).symm, fun hX => hX ▸ rfl⟩
theorem i21 : (-1 + ((nX : Int) + 1)).toNat = nX := congrArg Int.toNat ((Int.add_comm ..).trans (Int.add_sub_cancel ..))
theorem i22 (hX : 0 ≤ xX) (gX : xX < (kX : Int)) (lX : aX = kX) : xX.toNat < aX := lX ▸ (Int.toNat_lt hX).mpr gX
theorem i23 (hX : xX < 50000) : (256 + xX).toNat < 1114112 := (Int.toNat_lt' (by decide)).mpr (Int.lt_trans (Int.add_lt_add_left hX 256) (by decide))
theorem i26 (hX : ¬ iX + cX ≤ mX) : min ((iX : Int) + (cX : Int)) (mX : Int) = min (mX : Int) (mX : Int) := (Int.min_eq_right (Int.ofNat_le.mpr (Nat.le_of_not_le hX))).trans (Int.min_self _).symm
theorem i27 : max 0 (min 1 ((nX : Int) + 1)) = 1 := congrArg (max 0) (Int.min_eq_left (Int.ofNat_le.mpr (Nat.succ_le_succ (Nat.zero_le nX))))
theorem i29 (hX : ¬ (0 : Int) < (nX : Int)) : 0 = (nX : Int) := Int.le_antisymm (Int.natCast_nonneg nX) (Int.not_lt.mp hX)
theorem i30 (hX : kX + 1 ≤ nX) (gX : kX = kX - 1 + 1) : (((nX + 1 - kX : Nat) : Int)) + 1 = ((nX + 1 - (kX - 1) : Nat) : Int) := by
  obtain ⟨qX, rfl⟩ := @Nat.exists_eq_succ_of_ne_zero kX (fun zX => by cases zX; cases gX)
  exact congrArg Int.ofNat (Nat.sub_add_cancel (Nat.sub_pos_of_lt (Nat.lt_succ_of_lt (Nat.lt_of_succ_lt hX))) |> fun eX => (congrArg (· + 1) (Nat.sub_succ (nX + 1) qX)).trans eX)
theorem fm3 : xX.fmod 3 = 0 ∨ xX.fmod 3 = 1 ∨ xX.fmod 3 = 2 := by lia
theorem fm2 : xX.fmod 2 = 0 ∨ xX.fmod 2 = 1 := by lia
theorem fmn : 0 ≤ 256 + xX.fmod 50000 := Int.add_nonneg (by decide) (Int.fmod_nonneg_of_pos xX (by decide))
theorem fmn2 : 256 + xX.fmod 50000 ≤ 1114111 := Int.le_trans (Int.add_le_add_left (Int.le_of_lt (Int.fmod_lt_of_pos xX (by decide))) 256) (by decide)
theorem i31 (hX : nX ≤ pX) (eX : Nat.ble (pX + 1) 1000 = true) : ((nX + 1 - kX : Nat) : Int) ≤ 1000 := Int.ofNat_le.mpr (Nat.le_trans (Nat.sub_le ..) (Nat.le_trans (Nat.succ_le_succ hX) (Nat.le_of_ble_eq_true eX)))
theorem i32 (hX : nX ≤ pX) (eX : Nat.ble (pX + 2) 9223372036854775808 = true) : (nX : Int) + 1 < 9223372036854775808 := Int.ofNat_lt.mpr (Nat.le_trans (Nat.succ_le_succ (Nat.succ_le_succ hX)) (Nat.le_of_ble_eq_true eX))
theorem i33 (hX : (nX : Int) < 2) : nX < 2 := Int.ofNat_lt.mp hX
theorem cj1 (hX : nX = aX + bX + 2) (gX : iX < bX) : ((0 + aX + 1 + iX : Nat) : Int) < (nX : Int) := Int.ofNat_lt.mpr (hX ▸ (Nat.zero_add aX).symm ▸ Nat.lt_succ_of_lt (Nat.add_right_comm aX bX 1 ▸ Nat.add_lt_add_left gX (aX + 1)))
theorem cj2 (hX : nX = aX + bX + 2) (gX : iX < aX) : ((0 + iX : Nat) : Int) < (nX : Int) := Int.ofNat_lt.mpr (hX ▸ (Nat.zero_add iX).symm ▸ Nat.lt_of_lt_of_le gX (Nat.le_trans (Nat.le_add_right aX bX) (Nat.le_add_right ..)))
theorem cj3 (hX : nX = aX + bX + 2) : ((0 + aX + 1 + bX : Nat) : Int) + 1 = (nX : Int) := congrArg Int.ofNat (hX ▸ (Nat.zero_add aX).symm ▸ congrArg (· + 1) (Nat.add_right_comm aX 1 bX))
theorem cj4 (hX : nX = aX + bX + 2) : ((0 + aX + 1 + bX : Nat) : Int) < (nX : Int) := cj3 hX ▸ Int.lt_succ _
theorem cj5 (hX : nX = aX + bX + 2) : ((0 + aX : Nat) : Int) < (nX : Int) := Int.ofNat_lt.mpr (hX ▸ (Nat.zero_add aX).symm ▸ Nat.lt_of_le_of_lt (Nat.le_add_right aX bX) (Nat.lt_add_of_pos_right (Nat.succ_pos 1)))
theorem cj6 (hX : nX = aX + bX + 2) : ¬ ((0 + aX : Nat) : Int) + 1 = (nX : Int) := fun zX => Nat.ne_of_lt (Nat.succ_lt_succ (Nat.lt_succ_of_le (Nat.le_add_right aX bX))) ((congrArg (· + 1) (Nat.zero_add aX)).symm.trans ((Int.ofNat_inj.mp zX).trans hX))
theorem cj7 (hX : nX = aX + bX + 2) : ¬ ((0 + aX + 1 + bX : Nat) : Int) = (nX : Int) := Int.ne_of_lt (cj4 hX)
theorem cj8 : ((0 + aX + 1 + iX : Nat) : Int) = ((aX + 1 + iX : Nat) : Int) := congrArg (fun qX : Nat => ((qX + 1 + iX : Nat) : Int)) (Nat.zero_add aX)
end
section
open PySem
variable {aX bX cX dX eX iX jX kX mX nX pX qX uX vX : Nat} {xX yX zX : Int}
theorem n1 (hX : pX + iX ≤ nX) : nX + 1 - pX = iX + (1 + (nX - pX - iX)) := by
  obtain ⟨rX, rfl⟩ := Nat.le.dest hX
  have eX : pX + iX + rX - pX - iX = rX := (Nat.sub_sub _ pX iX).trans (Nat.add_sub_cancel_left ..)
  rw [eX]
  exact (Nat.sub_eq_of_eq_add ((Nat.add_assoc (pX + iX) rX 1).trans ((Nat.add_assoc pX iX (rX + 1)).trans ((Nat.add_comm ..).trans (Nat.add_comm 1 rX ▸ rfl)))))
theorem n2 (hX : ¬ nX < eX) (gX : ¬ nX = eX) : nX - eX = nX - eX - 1 + 1 := subP (Nat.lt_of_le_of_ne (Nat.le_of_not_lt hX) fun zX => gX zX.symm)
theorem n4 (hX : ¬ nX < eX) : nX + 1 - eX = nX - eX + 1 := Nat.succ_sub (Nat.le_of_not_lt hX)
theorem n5 (gX : eX + (nX - eX) = nX) (hX : nX - eX = nX - eX - 1 + 1) : nX = eX ∨ eX + (nX - eX - 1) + 1 = nX := .inr ((congrArg (eX + ·) hX).symm.trans gX)
theorem n6 (hX : pX ≤ qX ∧ qX < pX + (nX + 1 - pX)) : qX ≤ nX := by
  rcases Nat.le_total pX (nX + 1) with gX | gX
  · exact Nat.le_of_lt_succ (Nat.lt_of_lt_of_eq hX.2 (Nat.add_sub_cancel' gX))
  · exact absurd hX.1 (Nat.not_le.mpr (Nat.lt_of_lt_of_eq hX.2 (congrArg (pX + ·) (Nat.sub_eq_zero_of_le gX))))
theorem n7 (hX : pX ≤ qX) (gX : qX ≤ nX) : pX ≤ qX ∧ qX < pX + (nX + 1 - pX) := ⟨hX, Nat.lt_of_lt_of_eq (Nat.lt_succ_of_le gX) (Nat.add_sub_cancel' (Nat.le_succ_of_le (Nat.le_trans hX gX))).symm⟩
theorem n8 (hX : eX ≤ nX) : eX ≤ nX ∧ nX < eX + (nX + 1 - eX) := n7 hX (Nat.le_refl nX)
theorem n9 (zX : aX = nX) (hX : iX < nX + 1 - pX) : pX + iX ≤ aX := zX ▸ Nat.le_of_lt_succ (Nat.add_lt_of_lt_sub' hX)
theorem n10 (zX : aX = nX) (hX : iX < nX + 1 - pX) (wX : qX = pX + iX) : qX ≤ aX := wX ▸ n9 zX hX
theorem n11 (hX : 2 ≤ nX) : nX - 2 + 1 + 1 = nX := Nat.sub_add_cancel hX
theorem n12 (zX : bX = aX) (gX : iX ≤ nX) (hX : nX - iX = bX + kX) : iX + aX ≤ nX := Nat.le_trans (Nat.add_le_add_left (zX ▸ hX ▸ Nat.le_add_right bX kX) iX) (Nat.le_of_eq (Nat.add_sub_cancel' gX))
theorem n13 : aX + 1 + iX - aX = iX + 1 := (congrArg (· - aX) (Nat.add_assoc aX 1 iX)).trans ((Nat.add_sub_cancel_left ..).trans (Nat.add_comm 1 iX))
theorem n15 (hX : nX = nX - 1 + 1) : nX + 1 - (nX - 1) = 2 := (congrArg (· + 1 - (nX - 1)) hX).trans (Nat.add_sub_cancel_left (nX - 1) 2)
theorem n16 (hX : aX ≤ qX) : aX + (qX - aX + 2) = qX + 2 := congrArg (· + 2) (Nat.add_sub_cancel' hX)
theorem n17 (hX : aX + kX ≤ cX) : aX ≤ cX - kX := Nat.le_sub_of_add_le hX
theorem n18 (hX : aX + kX ≤ cX) : kX ≤ cX := Nat.le_trans (Nat.le_add_left kX aX) hX
theorem n19 (hX : jX < nX + 1) (gX : 1 ≤ jX) : jX - 1 < nX := Nat.lt_of_lt_of_le (pred1 gX) (Nat.le_of_lt_succ hX)
theorem n20 : vX ≤ uX + (vX + 1) - (uX + 1) := Nat.le_of_eq ((Nat.add_sub_add_right (uX + vX) 1 uX).trans (Nat.add_sub_cancel_left ..)).symm
theorem n23 (hX : aX < nX) (gX : aX < bX) : aX < min nX bX - 0 := Nat.lt_min.mpr ⟨hX, gX⟩
theorem n24 (hX : nX ≤ bX) : min nX bX - 0 = nX := Nat.min_eq_left hX
theorem n27 (hX : ¬ iX = nX) (gX : iX < nX + 1) : iX < nX := Nat.lt_of_le_of_ne (Nat.le_of_lt_succ gX) hX
theorem n28 (hX : ¬ iX = nX + 1) (gX : iX ≤ nX + 1) : iX ≤ nX := Nat.le_of_lt_succ (Nat.lt_of_le_of_ne gX hX)
theorem n29 (hX : aX + (bX + 1) = nX) : bX + 1 ≤ nX := hX ▸ Nat.le_add_left ..
theorem n30 (hX : bX + kX = nX) (gX : kX = kX - 1 + 1) : bX + (kX - 1 + 1) = nX := gX ▸ hX
theorem n31 (hX : jX < min (min iX nX) nX) (gX : jX = iX) : False := Nat.ne_of_lt (Nat.lt_of_lt_of_le hX (Nat.le_trans (Nat.min_le_left (min iX nX) nX) (Nat.min_le_left iX nX))) gX
theorem n32 (hX : jX < min (min iX nX) nX) : jX < nX := Nat.lt_of_lt_of_le hX (Nat.min_le_right ..)
theorem n33 : min kX nX ≤ kX := Nat.min_le_left ..
theorem n34 (hX : aX = min kX nX) : aX ≤ kX := hX ▸ Nat.min_le_left ..
theorem n37 (hX : aX ≤ iX) (gX : iX ≤ jX) : aX + 1 ≤ jX + 1 := Nat.succ_le_succ (Nat.le_trans hX gX)
theorem n38 (gX : bX ≤ aX + 1) (hX : aX ≤ iX) : bX ≤ iX + 1 := Nat.le_trans gX (Nat.succ_le_succ hX)
theorem n39 (fX : bX ≤ aX + 1) (hX : aX ≤ iX) (gX : iX ≤ jX) : bX ≤ jX + 1 := n38 fX (Nat.le_trans hX gX)
theorem n41 (hX : iX ≤ jX) (gX : jX < nX) : iX < nX := Nat.lt_of_le_of_lt hX gX
theorem n42 (hX : aX + 1 = nX + (jX + 1)) : aX = nX + jX := Nat.succ.inj hX
theorem n43 (hX : aX + 1 = nX + (jX + 1)) : nX ≤ aX := n42 hX ▸ Nat.le_add_right ..
theorem n44 (hX : nX ≤ iX) (gX : iX < aX) (fX : aX ≤ pX) (eX : Nat.ble (pX + 1) kX = true) : nX + 1 < kX := Nat.lt_of_le_of_lt (Nat.lt_of_le_of_lt hX gX) (Nat.lt_of_le_of_lt fX (Nat.le_of_ble_eq_true eX))
theorem n45 (hX : nX = aX + 1) : nX - 1 ≤ aX := hX ▸ Nat.le_refl aX
theorem n46 (hX : nX = aX + 1) : aX ≤ nX - 1 := hX ▸ Nat.le_refl aX
theorem n48 (gX : nX ≤ mX) (eX : Nat.ble (mX + 2) (2 ^ 62) = true) : (nX : Int) + 1 < 2 ^ 62 := i15 (nX := nX + 1) (Nat.succ_le_succ gX) eX
theorem s1 (hX : bX ≤ kX * mX) (gX : aX ≤ kX) : aX + bX ≤ kX * (mX + 1) := Nat.le_trans (Nat.add_le_add gX hX) (Nat.le_of_eq (Nat.add_comm ..))
theorem s2 (hX : bX ≤ mX) (gX : aX ≤ 1) : aX + bX ≤ mX + 1 := Nat.le_trans (Nat.add_le_add gX hX) (Nat.le_of_eq (Nat.add_comm ..))
theorem s3 (hX : bX ≤ mX) (gX : 1 ≤ aX) : bX + 1 ≤ aX + mX := Nat.le_trans (Nat.add_le_add hX gX) (Nat.le_of_eq (Nat.add_comm ..))
theorem ru2 (hX : aX + (uX + kX) ≤ cX) (eX : Nat.ble mX kX = true) : aX + mX + uX ≤ cX := Nat.le_trans (Nat.le_of_eq (Nat.add_assoc aX mX uX)) (Nat.le_trans (Nat.add_le_add_left (Nat.le_trans (Nat.le_of_eq (Nat.add_comm ..)) (Nat.add_le_add_left (Nat.le_of_ble_eq_true eX) uX)) aX) hX)
theorem subL2 (hX : jX + 1 = nX - iX) : iX + 1 ≤ nX := subL' hX
theorem n49 (hX : aX < bX) : aX + 1 ≤ bX := hX
theorem n50 (zX : aX = bX) (hX : aX ≤ kX) (eX : Nat.ble (kX + 1) dX = true) : bX < dX := zX ▸ snl hX eX
theorem n51 (hX : aX ≤ kX) (eX : Nat.ble kX dX = true) : aX + 0 + 1 * (min 0 bX - 0) ≤ dX := Nat.le_trans (Nat.le_of_eq (congrArg (aX + 1 * ·) (Nat.zero_min bX))) (sn hX eX)
theorem n52 (hX : aX + bX ≤ cX) : aX + min iX bX ≤ cX := Nat.le_trans (Nat.add_le_add_left (Nat.min_le_right ..) aX) hX
theorem sn3 (hX : aX ≤ kX) (gX : bX ≤ mX) (fX : cX ≤ nX) (eX : Nat.ble (kX + (mX + nX)) dX = true) : aX + (bX + cX) ≤ dX := Nat.le_trans (Nat.add_le_add hX (Nat.add_le_add gX fX)) (Nat.le_of_ble_eq_true eX)
theorem szr (fX : aX ≤ iX) (gX : iX < nX) (hX : nX ≤ kX) (zX : cX = dX) (eX : Nat.ble kX dX = true) : aX ≤ cX := szq (Nat.le_trans fX (Nat.le_of_lt gX)) hX zX eX
theorem nl1 (hX : aX < bX) : ¬ aX = bX + 1 := Nat.ne_of_lt (Nat.lt_succ_of_lt hX)
theorem nl2 (hX : aX < bX) : ¬ aX = bX + 1 + 1 := Nat.ne_of_lt (Nat.lt_succ_of_lt (Nat.lt_succ_of_lt hX))
theorem rq1 (gX : aX + kX ≤ bX) (hX : bX + mX ≤ cX) (eX : Nat.ble 1 (kX + mX) = true) : aX < cX := rl0 (kX := kX + mX) (Nat.le_trans (Nat.le_of_eq (Nat.add_assoc aX kX mX).symm) (Nat.le_trans (Nat.add_le_add_right gX mX) hX)) eX
theorem ch3 (hX : aX < bX) (gX : bX < cX) : ¬ aX = cX := Nat.ne_of_lt (Nat.lt_trans hX gX)
theorem ch3' (hX : aX < bX) (gX : bX < cX) : ¬ cX = aX := Nat.ne_of_gt (Nat.lt_trans hX gX)
theorem ch4 (hX : aX < bX) (gX : bX < cX) (fX : cX < dX) : ¬ aX = dX := ch3 (Nat.lt_trans hX gX) fX
theorem ch4' (hX : aX < bX) (gX : bX < cX) (fX : cX < dX) : ¬ dX = aX := ch3' (Nat.lt_trans hX gX) fX
theorem ch5 (hX : aX < bX) (gX : bX < cX) (fX : cX < dX) (qX : dX < eX) : ¬ aX = eX := ch4 (Nat.lt_trans hX gX) fX qX
theorem ch5' (hX : aX < bX) (gX : bX < cX) (fX : cX < dX) (qX : dX < eX) : ¬ eX = aX := ch4' (Nat.lt_trans hX gX) fX qX
theorem tr3 (hX : aX < bX) (gX : bX < cX) : aX < cX := Nat.lt_trans hX gX
theorem tr4 (hX : aX < bX) (gX : bX < cX) (fX : cX < dX) : aX < dX := Nat.lt_trans hX (Nat.lt_trans gX fX)
theorem mn1 (zX : aX = pX) (hX : pX ≤ kX ∧ qX ≤ mX) (sX : cX = dX) (eX : Nat.ble kX dX = true) : min iX aX ≤ cX := Nat.le_trans (Nat.min_le_right ..) (zX ▸ sz hX.1 sX eX)
theorem mn2 (zX : aX = pX) (hX : pX ≤ kX ∧ qX ≤ mX) (sX : cX = dX) (eX : Nat.ble (kX + 1) dX = true) : min aX aX + 1 ≤ cX := sX ▸ Nat.le_trans (Nat.succ_le_succ (Nat.le_trans (Nat.min_le_right ..) (zX ▸ hX.1))) (Nat.le_of_ble_eq_true eX)
theorem mn4 (hX : pX ≤ kX ∧ qX ≤ mX) (eX : Nat.ble mX dX = true) : qX ≤ dX := sn hX.2 eX
theorem mn6 (zX : aX = qX) (hX : pX ≤ kX ∧ qX ≤ mX) (eX : Nat.ble mX dX = true) : aX ≤ dX := zX ▸ mn4 hX eX
theorem mn7 (yX : cX = aX + bX + 2) (zX : aX = pX) (wX : bX = qX) (hX : pX ≤ kX ∧ qX ≤ mX) (eX : Nat.ble (kX + mX + 2) dX = true) : cX ≤ dX := yX ▸ zX ▸ wX ▸ Nat.le_trans (Nat.add_le_add_right (Nat.add_le_add hX.1 hX.2) 2) (Nat.le_of_ble_eq_true eX)
end
section
open PySem
variable {aX0 aX1 aX2 aX3 aX4 aX5 aX6 aX7 aX8 aX9 aX10 aX11 rX : Prop} {fX gX : Addr}
theorem pn0 (hX : @Ne Nat fX gX ∧ rX) : ¬ fX = gX := hX.1
theorem pm0 (hX : @Ne Nat gX fX ∧ rX) : ¬ fX = gX := fun zX => hX.1 zX.symm
theorem pl0 (hX : @LT.lt Nat _ fX gX ∧ rX) : ¬ fX = gX := Nat.ne_of_lt hX.1
theorem pg0 (hX : @LT.lt Nat _ gX fX ∧ rX) : ¬ fX = gX := Nat.ne_of_gt hX.1
theorem pt0 (hX : @LT.lt Nat _ fX gX ∧ rX) : @LT.lt Nat _ fX gX := hX.1
theorem pn1 (hX : aX0 ∧ @Ne Nat fX gX ∧ rX) : ¬ fX = gX := hX.2.1
theorem pm1 (hX : aX0 ∧ @Ne Nat gX fX ∧ rX) : ¬ fX = gX := fun zX => hX.2.1 zX.symm
theorem pl1 (hX : aX0 ∧ @LT.lt Nat _ fX gX ∧ rX) : ¬ fX = gX := Nat.ne_of_lt hX.2.1
theorem pg1 (hX : aX0 ∧ @LT.lt Nat _ gX fX ∧ rX) : ¬ fX = gX := Nat.ne_of_gt hX.2.1
theorem pm1e (hX : aX0 ∧ @Ne Nat gX fX) : ¬ fX = gX := fun zX => hX.2 zX.symm
theorem pl1e (hX : aX0 ∧ @LT.lt Nat _ fX gX) : ¬ fX = gX := Nat.ne_of_lt hX.2
theorem pg1e (hX : aX0 ∧ @LT.lt Nat _ gX fX) : ¬ fX = gX := Nat.ne_of_gt hX.2
theorem pn2 (hX : aX0 ∧ aX1 ∧ @Ne Nat fX gX ∧ rX) : ¬ fX = gX := hX.2.2.1
theorem pm2 (hX : aX0 ∧ aX1 ∧ @Ne Nat gX fX ∧ rX) : ¬ fX = gX := fun zX => hX.2.2.1 zX.symm
theorem pl2 (hX : aX0 ∧ aX1 ∧ @LT.lt Nat _ fX gX ∧ rX) : ¬ fX = gX := Nat.ne_of_lt hX.2.2.1
theorem pg2 (hX : aX0 ∧ aX1 ∧ @LT.lt Nat _ gX fX ∧ rX) : ¬ fX = gX := Nat.ne_of_gt hX.2.2.1
theorem pn2e (hX : aX0 ∧ aX1 ∧ @Ne Nat fX gX) : ¬ fX = gX := hX.2.2
theorem pl2e (hX : aX0 ∧ aX1 ∧ @LT.lt Nat _ fX gX) : ¬ fX = gX := Nat.ne_of_lt hX.2.2
theorem pg2e (hX : aX0 ∧ aX1 ∧ @LT.lt Nat _ gX fX) : ¬ fX = gX := Nat.ne_of_gt hX.2.2
theorem pm3 (hX : aX0 ∧ aX1 ∧ aX2 ∧ @Ne Nat gX fX ∧ rX) : ¬ fX = gX := fun zX => hX.2.2.2.1 zX.symm
theorem pl3 (hX : aX0 ∧ aX1 ∧ aX2 ∧ @LT.lt Nat _ fX gX ∧ rX) : ¬ fX = gX := Nat.ne_of_lt hX.2.2.2.1
theorem pg3 (hX : aX0 ∧ aX1 ∧ aX2 ∧ @LT.lt Nat _ gX fX ∧ rX) : ¬ fX = gX := Nat.ne_of_gt hX.2.2.2.1
theorem pm4 (hX : aX0 ∧ aX1 ∧ aX2 ∧ aX3 ∧ @Ne Nat gX fX ∧ rX) : ¬ fX = gX := fun zX => hX.2.2.2.2.1 zX.symm
theorem pl4 (hX : aX0 ∧ aX1 ∧ aX2 ∧ aX3 ∧ @LT.lt Nat _ fX gX ∧ rX) : ¬ fX = gX := Nat.ne_of_lt hX.2.2.2.2.1
theorem pg4 (hX : aX0 ∧ aX1 ∧ aX2 ∧ aX3 ∧ @LT.lt Nat _ gX fX ∧ rX) : ¬ fX = gX := Nat.ne_of_gt hX.2.2.2.2.1
theorem pg4e (hX : aX0 ∧ aX1 ∧ aX2 ∧ aX3 ∧ @LT.lt Nat _ gX fX) : ¬ fX = gX := Nat.ne_of_gt hX.2.2.2.2
theorem pm5 (hX : aX0 ∧ aX1 ∧ aX2 ∧ aX3 ∧ aX4 ∧ @Ne Nat gX fX ∧ rX) : ¬ fX = gX := fun zX => hX.2.2.2.2.2.1 zX.symm
theorem pl5 (hX : aX0 ∧ aX1 ∧ aX2 ∧ aX3 ∧ aX4 ∧ @LT.lt Nat _ fX gX ∧ rX) : ¬ fX = gX := Nat.ne_of_lt hX.2.2.2.2.2.1
theorem pg5 (hX : aX0 ∧ aX1 ∧ aX2 ∧ aX3 ∧ aX4 ∧ @LT.lt Nat _ gX fX ∧ rX) : ¬ fX = gX := Nat.ne_of_gt hX.2.2.2.2.2.1
theorem pm6 (hX : aX0 ∧ aX1 ∧ aX2 ∧ aX3 ∧ aX4 ∧ aX5 ∧ @Ne Nat gX fX ∧ rX) : ¬ fX = gX := fun zX => hX.2.2.2.2.2.2.1 zX.symm
theorem pg6 (hX : aX0 ∧ aX1 ∧ aX2 ∧ aX3 ∧ aX4 ∧ aX5 ∧ @LT.lt Nat _ gX fX ∧ rX) : ¬ fX = gX := Nat.ne_of_gt hX.2.2.2.2.2.2.1
theorem pm6e (hX : aX0 ∧ aX1 ∧ aX2 ∧ aX3 ∧ aX4 ∧ aX5 ∧ @Ne Nat gX fX) : ¬ fX = gX := fun zX => hX.2.2.2.2.2.2 zX.symm
theorem pm7 (hX : aX0 ∧ aX1 ∧ aX2 ∧ aX3 ∧ aX4 ∧ aX5 ∧ aX6 ∧ @Ne Nat gX fX ∧ rX) : ¬ fX = gX := fun zX => hX.2.2.2.2.2.2.2.1 zX.symm
theorem pg7 (hX : aX0 ∧ aX1 ∧ aX2 ∧ aX3 ∧ aX4 ∧ aX5 ∧ aX6 ∧ @LT.lt Nat _ gX fX ∧ rX) : ¬ fX = gX := Nat.ne_of_gt hX.2.2.2.2.2.2.2.1
theorem pm7e (hX : aX0 ∧ aX1 ∧ aX2 ∧ aX3 ∧ aX4 ∧ aX5 ∧ aX6 ∧ @Ne Nat gX fX) : ¬ fX = gX := fun zX => hX.2.2.2.2.2.2.2 zX.symm
theorem pg7e (hX : aX0 ∧ aX1 ∧ aX2 ∧ aX3 ∧ aX4 ∧ aX5 ∧ aX6 ∧ @LT.lt Nat _ gX fX) : ¬ fX = gX := Nat.ne_of_gt hX.2.2.2.2.2.2.2
theorem pm8 (hX : aX0 ∧ aX1 ∧ aX2 ∧ aX3 ∧ aX4 ∧ aX5 ∧ aX6 ∧ aX7 ∧ @Ne Nat gX fX ∧ rX) : ¬ fX = gX := fun zX => hX.2.2.2.2.2.2.2.2.1 zX.symm
theorem pg8 (hX : aX0 ∧ aX1 ∧ aX2 ∧ aX3 ∧ aX4 ∧ aX5 ∧ aX6 ∧ aX7 ∧ @LT.lt Nat _ gX fX ∧ rX) : ¬ fX = gX := Nat.ne_of_gt hX.2.2.2.2.2.2.2.2.1
theorem pg8e (hX : aX0 ∧ aX1 ∧ aX2 ∧ aX3 ∧ aX4 ∧ aX5 ∧ aX6 ∧ aX7 ∧ @LT.lt Nat _ gX fX) : ¬ fX = gX := Nat.ne_of_gt hX.2.2.2.2.2.2.2.2
theorem pn9 (hX : aX0 ∧ aX1 ∧ aX2 ∧ aX3 ∧ aX4 ∧ aX5 ∧ aX6 ∧ aX7 ∧ aX8 ∧ @Ne Nat fX gX ∧ rX) : ¬ fX = gX := hX.2.2.2.2.2.2.2.2.2.1
theorem pg9 (hX : aX0 ∧ aX1 ∧ aX2 ∧ aX3 ∧ aX4 ∧ aX5 ∧ aX6 ∧ aX7 ∧ aX8 ∧ @LT.lt Nat _ gX fX ∧ rX) : ¬ fX = gX := Nat.ne_of_gt hX.2.2.2.2.2.2.2.2.2.1
theorem pg10 (hX : aX0 ∧ aX1 ∧ aX2 ∧ aX3 ∧ aX4 ∧ aX5 ∧ aX6 ∧ aX7 ∧ aX8 ∧ aX9 ∧ @LT.lt Nat _ gX fX ∧ rX) : ¬ fX = gX := Nat.ne_of_gt hX.2.2.2.2.2.2.2.2.2.2.1
end
section
variable {aX bX cX : Nat} {xX yX zX : Int}
theorem le0 (hX : Nat.ble aX bX = true) : aX ≤ bX := Nat.le_of_ble_eq_true hX
theorem le1 (hX : aX < bX) : aX ≤ bX := Nat.le_of_lt hX
theorem le2 : aX ≤ aX := Nat.le_refl aX
theorem le3 : aX ≤ aX + 1 := Nat.le_succ aX
theorem le4 : 0 ≤ aX := Nat.zero_le aX
theorem le5 (hX : aX ≤ bX) : aX + 1 ≤ bX + 1 := Nat.succ_le_succ hX
theorem le6 (hX : aX ≤ bX) : aX ≤ bX + 1 := Nat.le_succ_of_le hX
theorem lt1 : aX < aX + 1 := Nat.lt_succ_self aX
theorem lt2 : 0 < aX + 1 := Nat.succ_pos aX
theorem eq1 (hX : aX = bX) : bX = aX := hX.symm
theorem eq2 : 0 + aX = aX := Nat.zero_add aX
theorem prleN (hX : aX ≤ bX) : aX ≤ bX := hX
theorem prltN (hX : aX < bX) : aX < bX := hX
theorem preqN (hX : aX = bX) : aX = bX := hX
theorem prltI (hX : xX < yX) : xX < yX := hX
theorem prleI (hX : xX ≤ yX) : xX ≤ yX := hX
theorem preqI (hX : xX = yX) : xX = yX := hX
theorem prne {αX : Sort _} {sX tX : αX} (hX : ¬ sX = tX) : ¬ sX = tX := hX
theorem prand {sX tX : Prop} (hX : sX ∧ tX) : sX ∧ tX := hX
theorem pror {sX tX : Prop} (hX : sX ∨ tX) : sX ∨ tX := hX
theorem priff {sX tX : Prop} (hX : sX ↔ tX) : sX ↔ tX := hX
theorem prfl (hX : False) : False := hX
end
end Mine.Ar
end
section
open PySem PySem.W PySem.Spec PySem.Calls PyProof.Rows
set_option maxRecDepth 100000 
set_option maxHeartbeats 8000000 
namespace Mine
theorem l0_Base : True := by
  k_with_none
  trivial
noncomputable def Stop (P : Prop) : Prop := P
theorem hideG {G : Prop} (h : ∀ P : Prop, (G → P) → P) : G := h G id
theorem stop_intro {P : Prop} (h : Stop P) : P := h
noncomputable abbrev LO0 : List Str := looseW view [Str.ofString "islice", Str.ofString "filterfalse", Str.ofString "_dedupe", Str.ofString "_twin_re_1", Str.ofString "_special_chars_map"]
noncomputable abbrev LO : List Str := LO0 ++ (recsOf view).map (·.name) ++ (litsOf view).map (·.1) ++ (clssOf view LO0).map (·.name)
noncomputable abbrev gh (h : Heap) : Heap := hideAll h [198]

theorem gh_of {h : Heap} {b : Addr} {o : Obj} (e : (gh h).get? b = some o) : h.get? b = some o := of_hideAll _ e
theorem gh_ne {h : Heap} {b : Addr} {o : Obj} (e : h.get? b = some o) (n : b ≠ 198) : (gh h).get? b = some o :=
  hideAll_get _ e fun q => n (by cases q with | head => rfl | tail _ q => cases q)
theorem gh_198 (h : Heap) : (gh h).get? 198 = none := hideAll_none _ (.head _)

noncomputable def lamPos : Pos := ⟨199, 39, 199, 76⟩

noncomputable def TabOk (ps : Array Value) : Prop := TriplesOk ps.toList ∧ ∀ c, codeAmong lamPos ps.toList = some c → ∃ a, c = .ref a
noncomputable def Tab (h : Heap) : Prop := ∃ ps, h.get? 198 = some (tabObj ps) ∧ TabOk ps
noncomputable def Grow (h h' : Heap) : Prop := (∀ b o, b ≠ 198 → h.get? b = some o → h'.get? b = some o) ∧ h.objs.size ≤ h'.objs.size

theorem Grow.refl (h : Heap) : Grow h h := ⟨fun _ _ _ e => e, Nat.le_refl _⟩
theorem Grow.trans {a b c : Heap} (x : Grow a b) (y : Grow b c) : Grow a c := ⟨fun d o n e => y.1 d o n (x.1 d o n e), Nat.le_trans x.2 y.2⟩
theorem Grow.gh {h h' : Heap} (x : Grow h h') {b : Addr} {o : Obj} (e : (gh h).get? b = some o) : (gh h').get? b = some o := by
  have n : b ≠ 198 := fun q => by rw [q, gh_198] at e; cases e
  exact gh_ne (x.1 b o n (gh_of e)) n

noncomputable abbrev aA (dp un : Nat) (fr : Option (List Env)) (gd : Option (List Code)) : Around := { handled := none, depth := dp, frames := fr, guards := gd, units := un }

section
variable (w : World)
noncomputable def Pure (d u : Nat) (f : Addr) (vs : List Value) (pre : Heap → Prop) (post : Heap → Heap → Value → Prop) : Prop :=
  ∀ (mean : ExcName → Option Value) (mg mb : Str → Option Value) (dp un : Nat) (fr : Option (List Env)) (gd : Option (List Code)) (Q : Value → Shared → Prop) (E : Value → Shared → Prop) (s : Shared),
    (hd.heap_1_1 w.params).In (gh s.heap) → Top topProg LO mean mg mb (gh s.heap) → Tab s.heap → pre s.heap → dp + d ≤ recursionLimit → un + u ≤ cLine →
    (∀ v h' tk', Grow s.heap h' → Tab h' → post s.heap h' v → Q v { s with heap := h', toks := tk' }) →
    wpAny (model PySem.Challenge.rw_ij0107_01.row.prog w) (aA dp un fr gd) (call (.ref f) vs) Q E s
end

noncomputable def LeaveP (g : Heap) (h₀ : Heap) (R : Value → Shared → Prop) (v : Value) (s' : Shared) : Prop :=
  ∃ L' m' ps', Fr g L' s'.heap m' ∧ News g L' s'.heap [(198, tabObj ps')] ∧ TabOk ps' ∧ (Grow h₀ s'.heap → Tab s'.heap → R v s')

section
variable {w : World} {mean : ExcName → Option Value} {mg mb : Str → Option Value} {A : Around} {Q : Value → Shared → Prop} {E : Value → Shared → Prop} {s : Shared}
  {name qual : Str} {params : Arguments} {body : List Stmt} {scope : Scope} {dV kV doc pm cdv ct oc : Value} {an od : Option Addr} {osl : Array (Option Value)} {f : Addr} {args : List Value} {binds : List (Str × Value)}

theorem gh_size (h : Heap) : (gh h).objs.size = h.objs.size := hideAll_size _ _

theorem leaveP_go {v : Value} {s' : Shared} {h₀ : Heap} {R : Value → Shared → Prop} (hl : LeaveP (gh h₀) h₀ R v s') : R v s' := by
  (refine ex3E hl fun L' m' ps' qq3 => ?_; try clear hl; refine and4E qq3 fun F N ok k => ?_; try clear qq3)
  refine k ⟨fun b o n e => F.keep b o (gh_ne e n), ?_⟩ ⟨ps', (N _ (.head _)).1, ok⟩
  have := F.above
  rw [gh_size] at this
  exact Nat.le_trans this (Nat.le_of_lt F.ns.lt)

theorem leaveP_in {v : Value} {s' : Shared} {h₀ g : Heap} {R : Value → Shared → Prop} {L' : Addr} {m' : Str → Option Value} {ps' : Array Value} {news : List (Addr × Obj)}
    (F : Fr g L' s'.heap m') (N : News g L' s'.heap news) (hm : (198, tabObj ps') ∈ news) (ok : TabOk ps') (k : Grow h₀ s'.heap → Tab s'.heap → R v s') : LeaveP g h₀ R v s' :=
  ⟨L', m', ps', F, fun p hp => by
    cases hp with
    | head => exact N _ hm
    | tail _ hp => (cases hp), ok, k⟩

theorem enter (X : (hd.heap_1_1 w.params).In (gh s.heap)) (T : Top topProg LO mean mg mb (gh s.heap)) (hT : Tab s.heap)
    (ho : (hd.heap_1_1 w.params).lookup f = some ⟨oc, od, .func (fnOf name qual params body scope dV kV doc pm an cdv ct), osl⟩) (hcd : codeIn (hd.heap_1_1 w.params) cdv qual = true) (hroom : A.depth < recursionLimit)
    (hbind : BindsTo s (fnOf name qual params body scope dV kV doc pm an cdv ct) ⟨args, []⟩ binds) (hloc : ∀ y ∈ binds, scope.names.lookup y.1 = some .local)
    (h : ∀ L' h₁ ps, Fr (gh s.heap) L' h₁ (fun y => binds.reverse.lookup y) → News (gh s.heap) L' h₁ [(198, tabObj ps)] → TabOk ps → 198 < L' → s.heap.objs.size = L' →
      (∀ b o, s.heap.get? b = some o → h₁.get? b = some o) →
      wpAny (model PySem.Challenge.rw_ij0107_01.row.prog w) (A.deeper (envOf qual scope L' f cdv)) (execs body (envOf qual scope L' f cdv))
        (fun fl s' => LeaveP (gh s.heap) s.heap Q (match fl with | .ret v => v | _ => .none) s')
        (fun e s' => wpAny (model PySem.Challenge.rw_ij0107_01.row.prog w) (A.deeper (envOf qual scope L' f cdv)) (leaving (envOf qual scope L' f cdv) e) (fun _ s'' => E e s'') (fun e' s'' => E e' s'') s')
        { s with heap := h₁, toks := s.toks + binds.length })
    (hco : scope.isCoroutine = false) (hgen : scope.isGenerator = false) (hk : scope.kind = .function)
    (hcell : ∀ x ∈ scope.names, x.2 ≠ .cell) : wpAny (model PySem.Challenge.rw_ij0107_01.row.prog w) A (call (.ref f) args) Q E s := by
  have kp : ∀ b o, (gh s.heap).get? b = some o → s.heap.get? b = some o := fun b o e => gh_of e
  have X' : (hd.heap_1_1 w.params).In s.heap := X.keeps kp
  refine wpAny_call (codeAny_call_def (fd := fnOf name qual params body scope dV kV doc pm an cdv ct) (body := body) (binds := binds) hroom (X' _ _ ho) rfl (T.nolimit.keeps kp) (codeRec_of X' hcd) rfl hbind hcell hloc (fun h₁ hns hk₁ => ?_) hco hgen hk)
  (refine ex1E hT fun ps qq1 => ?_; try clear hT; refine and2E qq1 fun hps ok => ?_; try clear qq1)
  have hlt : 198 < s.heap.objs.size := Heap.lt_size hps
  refine wpAny_mono (h s.heap.objs.size h₁ ps ⟨hns, fun b o e => hk₁ b o (gh_of e), Nat.le_of_eq (gh_size _)⟩ (fun p hp => ?_) ok hlt rfl hk₁) (fun fl s' hl => leaveP_go hl) fun _ _ y => y
  cases hp with
  | head => exact ⟨hk₁ _ _ hps, Nat.ne_of_lt hlt, gh_198 _⟩
  | tail _ hp => cases hp
end

section
variable {w : World} {mean : ExcName → Option Value} {mg mb : Str → Option Value} {A : Around} {Q : Value → Shared → Prop} {E : Value → Shared → Prop} {s : Shared} {d u : Nat} {f : Addr} {vs : List Value} {pre : Heap → Prop} {post : Heap → Heap → Value → Prop}
  {h₀ : Heap} {L : Addr} {m : Str → Option Value} {news : List (Addr × Obj)} {ps : Array Value}

theorem use (C : Pure w d u f vs pre post) (F : Fr h₀ L s.heap m) (X : (hd.heap_1_1 w.params).In h₀) (N : News h₀ L s.heap (news ++ [(198, tabObj ps)])) (hne : ∀ q ∈ news, q.1 ≠ 198) (ok : TabOk ps) (T : Top topProg LO mean mg mb h₀)
    (hh : A.handled = none) (hp : pre s.heap) (hd : A.depth + d ≤ recursionLimit) (hu : A.units + u ≤ cLine)
    (h : ∀ v h' tk' ps', Fr h₀ L h' m → News h₀ L h' (news ++ [(198, tabObj ps')]) → TabOk ps' → Grow s.heap h' → post s.heap h' v → (∀ q ∈ news, q.1 < s.heap.objs.size) → Q v { s with heap := h', toks := tk' }) :
    wpAny (model PySem.Challenge.rw_ij0107_01.row.prog w) A (call (.ref f) vs) Q E s := by
  have hm := N (198, tabObj ps) (List.mem_append_right _ (.head _))
  have kp : ∀ b o, h₀.get? b = some o → (gh s.heap).get? b = some o := fun b o e =>
    gh_ne (F.keep b o e) fun q => by rw [q, hm.2.2] at e; cases e
  obtain ⟨hA, dp, fr, gd, un⟩ := A
  cases hh
  refine C mean mg mb dp un fr gd Q E s (X.keeps kp) (T.keeps kp) ⟨ps, hm.1, ok⟩ hp hd hu fun v h' tk' G T' P => ?_
  (refine ex1E T' fun ps' qq1 => ?_; try clear T'; refine and2E qq1 fun hps ok' => ?_; try clear qq1)
  refine h v h' tk' ps' ⟨?_, fun b o e => (G.1 b o (fun q => by rw [q, hm.2.2] at e; cases e) (F.keep b o e)), F.above⟩ (fun p hp => ?_) ok' G P (fun q hq => Heap.lt_size (N q (List.mem_append_left _ hq)).1)
  · (refine ex3E F.ns fun oL a1 a2 qq3 => ?_; refine and2E qq3 fun hL a3 => ?_; try clear qq3)
    exact ⟨oL, a1, a2, G.1 L oL (fun q => hm.2.1 q.symm) hL, a3⟩
  · rcases List.mem_append.mp hp with hp | hp
    · have n := N p (List.mem_append_left _ hp)
      exact ⟨G.1 _ _ (hne p hp) n.1, n.2⟩
    · cases hp with
      | head => exact ⟨hps, hm.2⟩
      | tail _ hp => cases hp
end
end Mine
end
section
open PySem PySem.W PySem.Spec PySem.Calls PyProof.Rows
namespace Mine
theorem l0_Cut : True := by
  k_with_none
  trivial
noncomputable def Kont (K : Flow → Shared → Prop) (f : Flow) (s : Shared) : Prop := K f s
section
variable {M : Model} {A : Around} {E : Value → Shared → Prop} {s : Shared} {env : Env} {st : Stmt} {rest body : List Stmt} {Q : Flow → Shared → Prop}
theorem kont_app {K : Flow → Shared → Prop} {C : Flow → Shared → Prop} {f : Flow} (h : ∀ f s, C f s → Kont K f s) (x : C f s) : Kont K f s := h f s x
theorem ent_cut (hE : PassesOwn M A env E) (h : ∀ (Q1 : Flow → Shared → Prop) (E1 : Value → Shared → Prop), (∀ f s', Q f s' → Kont Q1 f s') → PassesOwn M A env E1 → wpAny M A (execs body env) (Kont Q1) E1 s) :
    wpAny M A (execs body env) Q E s := h Q E (fun _ _ x => x) hE
theorem blk_cut {c : Sem Flow} (h : ∀ (Q1 : Flow → Shared → Prop), (∀ f s', Q f s' → Kont Q1 f s') → wpAny M A c (Kont Q1) E s) :
    wpAny M A c Q E s := h Q (fun _ _ x => x)
noncomputable def Nxt (M : Model) (A : Around) (env : Env) (rest : List Stmt) (E : Value → Shared → Prop) (Q : Flow → Shared → Prop) : Flow → Shared → Prop
  | .next, s => wpAny M A (execs rest env) Q E s
  | f, s => Q f s
theorem seq_cut {Q : Flow → Shared → Prop} (h : ∀ K : Flow → Shared → Prop, (∀ f s', Nxt M A env rest E (Kont Q) f s' → Kont K f s') → wpAny M A (exec st env) (Kont K) E s) :
    wpAny M A (execs (st :: rest) env) (Kont Q) E s := wpAny_execs_cons (wpAny_mono (h _ fun _ _ x => x) (fun f s' x => by cases f <;> exact x) fun _ _ x => x)
theorem seq_cut1 {K : Flow → Shared → Prop} (h : wpAny M A (exec st env) (Kont K) E s) :
    wpAny M A (execs [st] env) (Kont K) E s := wpAny_execs_cons (wpAny_mono h (fun f s' x => by
      cases f with
      | next => exact wpAny_execs_nil x
      | _ => exact x) fun _ _ x => x)
end
end Mine
end
section
open PySem PySem.W PySem.Spec PySem.Calls PyProof.Rows
namespace Mine
theorem l0_Cut2 : True := by
  k_with_none
  trivial
section
variable {M : Model} {A : Around} {E : Value → Shared → Prop} {s : Shared} {h₀ : Heap} {L a : Addr} {m : Str → Option Value} {cn : Str} {cs : Scope} {ccd : Value} {cl : List (Str × Addr)}
  {x : Str} {v : Value} {Q : Unit → Shared → Prop} {news : List (Addr × Obj)}
theorem storeL (F : Fr h₀ L s.heap m) (N : News h₀ L s.heap news)
    (h : let m1 : Str → Option Value := fun y => if y = x then some v else m y; ∀ h' tk, Fr h₀ L h' m1 → News h₀ L h' news → Q () ⟨h', s.gens, s.drawn, tk, s.os⟩)
    (hk : cs.kind = .function := by rfl) (hx : (envX cn cs L a ccd cl).kindOf x = some .local := by rfl) : wpAny M A (storeName (envX cn cs L a ccd cl) x v) Q E s :=
  storeX_L F N (fun h' F' N' => h h' _ F' N') hk hx
theorem seqL {env : Env} {st : Stmt} {rest : List Stmt} {Q : Flow → Shared → Prop} {hp : Heap} {gens : Array GenState} {drawn : Drawn} {toks : Nat} {os : OsState}
    (N : News h₀ L hp news)
    (h : let n1 : List (Addr × Obj) := news; ∀ (K : Flow → Shared → Prop) tk, News h₀ L hp n1 → (∀ f s', Nxt M A env rest E (Kont Q) f s' → Kont K f s') → wpAny M A (exec st env) (Kont K) E ⟨hp, gens, drawn, tk, os⟩) :
    wpAny M A (execs (st :: rest) env) (Kont Q) E ⟨hp, gens, drawn, toks, os⟩ := seq_cut fun K hK => h K toks N hK
end
theorem seqT {M : Model} {A : Around} {E : Value → Shared → Prop} {env : Env} {st : Stmt} {rest : List Stmt} {Q : Flow → Shared → Prop} {hp : Heap} {gens : Array GenState} {drawn : Drawn} {toks : Nat} {os : OsState}
    (h : ∀ (K : Flow → Shared → Prop) tk, (∀ f s', Nxt M A env rest E (Kont Q) f s' → Kont K f s') → wpAny M A (exec st env) (Kont K) E ⟨hp, gens, drawn, tk, os⟩) :
    wpAny M A (execs (st :: rest) env) (Kont Q) E ⟨hp, gens, drawn, toks, os⟩ := seq_cut fun K hK => h K toks hK
section
variable {M : Model} {A : Around} {E : Value → Shared → Prop} {s : Shared} {env : Env} {st : Stmt} {rest body : List Stmt} {Q : Flow → Shared → Prop}
theorem entL (hE : PassesOwn M A env E) (h : let A1 : Around := A; let e1 : Env := env; ∀ (Q1 : Flow → Shared → Prop) (E1 : Value → Shared → Prop), (∀ f s', Q f s' → Kont Q1 f s') → PassesOwn M A1 e1 E1 → wpAny M A1 (execs body e1) (Kont Q1) E1 s) :
    wpAny M A (execs body env) Q E s := h Q E (fun _ _ x => x) hE
theorem seqT1 {K : Flow → Shared → Prop} {hp : Heap} {gens : Array GenState} {drawn : Drawn} {toks : Nat} {os : OsState} (h : ∀ tk, wpAny M A (exec st env) (Kont K) E ⟨hp, gens, drawn, tk, os⟩) :
    wpAny M A (execs [st] env) (Kont K) E ⟨hp, gens, drawn, toks, os⟩ := seq_cut1 (h toks)
theorem blkT {c : Sem Flow} {hp : Heap} {gens : Array GenState} {drawn : Drawn} {toks : Nat} {os : OsState} (h : ∀ (Q1 : Flow → Shared → Prop) tk, (∀ f s', Q f s' → Kont Q1 f s') → wpAny M A c (Kont Q1) E ⟨hp, gens, drawn, tk, os⟩) :
    wpAny M A c Q E ⟨hp, gens, drawn, toks, os⟩ := h Q toks (fun _ _ x => x)
end
theorem turn_cut {M : Model} {A : Around} {E : Value → Shared → Prop} {s : Shared} {env : Env} {body : List Stmt} {a : Sem Unit} {P : Flow → Shared → Prop} (h : ∀ K : Flow → Shared → Prop, (∀ f s', P f s' → Kont K f s') → wpAny M A a (fun _ s₃ => wpAny M A (execs body env) (Kont K) E s₃) E s) :
    wpAny M A a (fun _ s₃ => wpAny M A (execs body env) P E s₃) E s := h P fun _ _ x => x
theorem envL {M : Model} {A : Around} {E : Value → Shared → Prop} {s : Shared} {env : Env} {st : Stmt} {Q : Flow → Shared → Prop} (h : let A1 : Around := A; let e1 : Env := env; wpAny M A1 (exec st e1) Q E s) : wpAny M A (exec st env) Q E s := h
theorem while_cut {M : Model} {A : Around} {E : Value → Shared → Prop} {s : Shared} {env : Env} {body : List Stmt} {a : Sem Bool} {P Q : Flow → Shared → Prop}
    (h : ∀ K Kn : Flow → Shared → Prop, (∀ f s', P f s' → Kont K f s') → (∀ f s', Q f s' → Kont Kn f s') → wpAny M A a (fun b s₂ => if b = true then wpAny M A (execs body env) (Kont K) E s₂ else Kont Kn .next s₂) E s) :
    wpAny M A a (fun b s₂ => if b = true then wpAny M A (execs body env) P E s₂ else Q .next s₂) E s := h P Q (fun _ _ x => x) fun _ _ x => x
theorem blkA {M : Model} {A : Around} {E : Value → Shared → Prop} {env : Env} {body : List Stmt} {Q : Flow → Shared → Prop} {hp : Heap} {gens : Array GenState} {drawn : Drawn} {toks : Nat} {os : OsState}
    (h : let A1 : Around := A; let e1 : Env := env; let E1 : Value → Shared → Prop := E; ∀ (Q1 : Flow → Shared → Prop) tk, (∀ f s', Q f s' → Kont Q1 f s') → wpAny M A1 (execs body e1) (Kont Q1) E1 ⟨hp, gens, drawn, tk, os⟩) :
    wpAny M A (execs body env) Q E ⟨hp, gens, drawn, toks, os⟩ := h Q toks (fun _ _ x => x)
end Mine
end
section
open PySem PySem.W PySem.Spec PySem.Calls PyProof.Rows
set_option maxRecDepth 100000
set_option maxHeartbeats 2000000
namespace Mine
theorem l0_F1 : True := by
  k_with_none
  k_with "q" => (all_goals first | assumption | with_unfolding_all exact rfl)
  k_with "ar" => with_reducible first | assumption | (apply Ar.i1; k_extra "q") | (apply Ar.i9; k_extra "q") | (apply Ar.i10; k_extra "q") | (apply Ar.i11; k_extra "q")
  trivial
theorem int_yes {a b : Int} (h : a = b) : (a == b) = true := beq_iff_eq.mpr h
theorem int_no {a b : Int} (h : a ≠ b) : (a == b) = false := beq_eq_false_iff_ne.mpr h
theorem int_ney {a b : Int} (h : a ≠ b) : (a != b) = true := bne_iff_ne.mpr h
theorem int_nen {a b : Int} (h : a = b) : (a != b) = false := by rw [bne, int_yes h]; rfl
theorem str_ney {a b : Str} (h : (a == b) = false) : (a != b) = true := by rw [bne, h]; rfl
theorem one_ne {c d : Nat} {y : Str} (hy : y = ⟨#[d]⟩) (h : c ≠ d) : ((⟨#[c]⟩ : Str) == y) = false := by
  rw [hy, beq_eq_false_iff_ne]
  intro q
  injection q with q
  simp at q
  exact h q
noncomputable def okN (sc : Scope) (x : Str) : Bool := decide (sc.names.lookup x = some .local) && !(x == ("__debug__" : Str))
inductive PV
  | no
  | i (n : Int)
  | s (x : Str)
inductive PV.Is : PV → Value → Prop
  | i {n : Int} (t : Tok) : PV.Is (.i n) (.int n t)
  | s {x : Str} (t : Tok) : PV.Is (.s x) (.str x t)
noncomputable def pvO : Value → PV
  | .int n _ => .i n
  | .str x _ => .s x
  | _ => .no
noncomputable def pvC : Const → PV
  | .int n => .i n
  | .str x => .s x
  | _ => .no
noncomputable def lf (sc : Scope) (m : Str → Option Value) : Expr → PV
  | .Name x _ => bif okN sc x then (m x).elim .no pvO else .no
  | .Constant c _ _ => pvC c
  | _ => .no
noncomputable def PV.two (f : Int → Int → PV) : PV → PV → PV
  | .i a, .i b => f a b
  | _, _ => .no
noncomputable def bop (op : Operator) (p q : PV) : PV := PV.two (fun a b => bif decide (op = .Add) then .i (a + b) else bif decide (op = .Sub) then .i (a - b) else .no) p q
inductive CmpI (a b : Int) : CmpOp → Bool → Prop
  | lt : CmpI a b .Lt (decide (a < b))
  | le : CmpI a b .LtE (decide (a ≤ b))
  | gt : CmpI a b .Gt (decide (a > b))
  | ge : CmpI a b .GtE (decide (a ≥ b))
  | eq : CmpI a b .Eq (a == b)
  | ne : CmpI a b .NotEq (a != b)
noncomputable def cI (a b : Int) (op : CmpOp) : Option Bool := match op with
  | .Lt => some (decide (a < b))
  | .LtE => some (decide (a ≤ b))
  | .Gt => some (decide (a > b))
  | .GtE => some (decide (a ≥ b))
  | .Eq => some (a == b)
  | .NotEq => some (a != b)
  | _ => none
theorem cI_is {a b : Int} {op : CmpOp} {c : Bool} (h : cI a b op = some c) : CmpI a b op c := by
  cases op <;> cases h <;> constructor
noncomputable def cS (a b : Str) (op : CmpOp) : Option Bool := match op with
  | .Eq => some (a == b)
  | .NotEq => some (a != b)
  | _ => none
theorem cS_is {a b : Str} {op : CmpOp} {c : Bool} (h : cS a b op = some c) : (op = .Eq ∧ c = (a == b)) ∨ (op = .NotEq ∧ c = (a != b)) := by
  cases op <;> cases h
  · exact .inl ⟨rfl, rfl⟩
  · exact .inr ⟨rfl, rfl⟩
noncomputable def cmpV (op : CmpOp) : PV → PV → Option Bool
  | .i a, .i b => cI a b op
  | .s a, .s b => cS a b op
  | _, _ => none
section
variable {prog : Program} {w : World} {A : Around} {E : Value → Shared → Prop} {h₀ : Heap} {L a : Addr} {m : Str → Option Value} {cn : Str} {cs : Scope} {ccd : Value} {cl : List (Str × Addr)} {e : Expr} {n : Int} {x : Str} {p : PV}
  {hp : Heap} {gens : Array GenState} {drawn : Drawn} {toks : Nat} {os : OsState}
theorem okN_of (h : okN cs x = true) : cs.names.lookup x = some .local ∧ (x == ("__debug__" : Str)) = false :=
  have h := Bool.and_eq_true_iff.mp h
  ⟨of_decide_eq_true h.1, (Bool.not_eq_true' _).mp h.2⟩
theorem pvO_is {v : Value} (h : pvO v ≠ .no) : (pvO v).Is v := by
  cases v <;> first | exact absurd rfl h | exact .i _ | exact .s _
theorem ev_leaf {Q : Value → Shared → Prop} (F : Fr h₀ L hp m) (hk : cs.kind = .function) (hn : lf cs m e ≠ .no) (h : ∀ v k, (lf cs m e).Is v → Q v ⟨hp, gens, drawn, k, os⟩) :
    wpAny (model prog w) A (eval e (envX cn cs L a ccd cl)) Q E ⟨hp, gens, drawn, toks, os⟩ := by
  cases e <;> first | exact absurd rfl hn | skip
  case Name x ps =>
    have e0 : lf cs m (.Name x ps) = bif okN cs x then (m x).elim .no pvO else .no := rfl
    rw [e0] at hn h
    cases ho : okN cs x with
    | false => rw [ho] at hn; exact absurd rfl hn
    | true =>
      rw [ho, cond_true] at hn h
      cases hv : m x with
      | none => rw [hv] at hn; exact absurd rfl hn
      | some v =>
        rw [hv] at hn h
        exact nameX_L (s := ⟨hp, gens, drawn, toks, os⟩) F hv (h _ _ (pvO_is hn)) hk (okN_of ho).1 (okN_of ho).2
  case Constant c kk ps =>
    cases c <;> first | exact absurd rfl hn | exact wpAny_Constant_int (h _ _ (.i _)) | exact Constant_str (h _ _ (.s _))
theorem is_i {p : PV} {n : Int} {t : Tok} (e : p = .i n) : p.Is (.int n t) := e ▸ .i t
theorem bop_is {op : Operator} {p q : PV} (h : bop op p q ≠ .no) : ∃ a b, p = .i a ∧ q = .i b ∧ ((op = .Add ∧ bop op p q = .i (a + b)) ∨ (op = .Sub ∧ bop op p q = .i (a - b))) := by
  cases p with
  | no => exact absurd rfl h
  | s => exact absurd rfl h
  | i a => cases q with
    | no => exact absurd rfl h
    | s => exact absurd rfl h
    | i b =>
      refine ⟨a, b, rfl, rfl, ?_⟩
      by_cases h1 : op = .Add
      · exact .inl ⟨h1, by subst h1; rfl⟩
      by_cases h2 : op = .Sub
      · exact .inr ⟨h2, by subst h2; rfl⟩
      · refine absurd ?_ h
        show (bif decide (op = .Add) then PV.i (a + b) else bif decide (op = .Sub) then .i (a - b) else .no) = .no
        rw [decide_eq_false h1, decide_eq_false h2]; rfl
theorem leaf_int {Q : Value → Shared → Prop} (F : Fr h₀ L hp m) (hk : cs.kind = .function) (he : lf cs m e = .i n) (h : ∀ t k, Q (.int n t) ⟨hp, gens, drawn, k, os⟩) :
    wpAny (model prog w) A (eval e (envX cn cs L a ccd cl)) Q E ⟨hp, gens, drawn, toks, os⟩ :=
  ev_leaf F hk (fun q => by rw [q] at he; cases he) fun v k hv => by
    rw [he] at hv
    cases hv
    exact h _ _
theorem bin_int {l r : Expr} {op : Operator} {ps : Pos} {Q : Value → Shared → Prop} (F : Fr h₀ L hp m) (hk : cs.kind = .function) (he : bop op (lf cs m l) (lf cs m r) = .i n) (h : ∀ t k, Q (.int n t) ⟨hp, gens, drawn, k, os⟩) :
    wpAny (model prog w) A (eval (.BinOp l op r ps) (envX cn cs L a ccd cl)) Q E ⟨hp, gens, drawn, toks, os⟩ := by
  (refine ex2E (bop_is (op := op) (p := lf cs m l) (q := lf cs m r) fun q => by rw [q] at he; cases he) fun a b qq2 => ?_; refine and3E qq2 fun e1 e2 qq22 => ?_; try clear qq2; rcases qq22 with ⟨e3, e4⟩ | ⟨e3, e4⟩)
  · subst e3
    cases e4.symm.trans he
    exact wpAny_BinOp (leaf_int F hk e1 fun t k => leaf_int F hk e2 fun u k' => PyProof.Rows.add_int (h _ _))
  · subst e3
    cases e4.symm.trans he
    exact wpAny_BinOp (leaf_int F hk e1 fun t k => leaf_int F hk e2 fun u k' => P.sub_int (h _ _))
theorem cmp_val {op : CmpOp} {p q : PV} {c : Bool} {u v : Value} {s : Shared} {Q : Value → Shared → Prop} (h : cmpV op p q = some c) (hu : p.Is u) (hv : q.Is v) (hq : Q (.bool c) s) : wpAny (model prog w) A (compareOp op u v) Q E s := by
  revert h
  induction hu with
  | i => induction hv with
    | i => intro h; have z := cI_is h; clear h; induction z with
      | lt => exact P.lt_int hq
      | le => exact P.le_int hq
      | gt => exact P.gt_int hq
      | ge => exact P.ge_int hq
      | eq => exact P.eq_int hq
      | ne => exact P.ne_int hq
    | s => intro h; cases h
  | s => induction hv with
    | i => intro h; cases h
    | s =>
      intro h
      rcases cS_is h with ⟨rfl, rfl⟩ | ⟨rfl, rfl⟩
      · exact PyProof.Rows.eq_str hq
      · exact PyProof.Rows.ne_str hq
theorem cmp_no1 {op : CmpOp} {q : PV} : cmpV op .no q = none := by cases q <;> rfl
theorem cmp_no2 {op : CmpOp} {q : PV} : cmpV op q .no = none := by cases q <;> rfl
theorem test_ev {l r : Expr} {op : CmpOp} {ps : Pos} {b : Bool} {whole : Sem Value} {Q : Bool → Shared → Prop} (F : Fr h₀ L hp m) (hk : cs.kind = .function) (hb : cmpV op (lf cs m l) (lf cs m r) = some b) (hm : behindInMarks op r = false) (h : ∀ k, Q b ⟨hp, gens, drawn, k, os⟩) :
    wpAny (model prog w) A (isTrue (.Compare l [op] [r] ps) (envX cn cs L a ccd cl) whole) Q E ⟨hp, gens, drawn, toks, os⟩ :=
  wpAny_isTrue_Compare1 (ev_leaf F hk (fun q => by rw [q, cmp_no1] at hb; cases hb) fun u k hu => ev_leaf F hk (fun q => by rw [q, cmp_no2] at hb; cases hb) fun v k' hv => cmp_val hb hu hv (wpAny_truthy_bool (h _))) hm
theorem test_t {l r : Expr} {op : CmpOp} {ps : Pos} {whole : Sem Value} {C D : Shared → Prop} {b : Bool} (F : Fr h₀ L hp m) (hk : cs.kind = .function) (hb : cmpV op (lf cs m l) (lf cs m r) = some b) (hm : behindInMarks op r = false) (ht : b = true) (h : ∀ k, C ⟨hp, gens, drawn, k, os⟩) :
    wpAny (model prog w) A (isTrue (.Compare l [op] [r] ps) (envX cn cs L a ccd cl) whole) (fun c s' => if c = true then C s' else D s') E ⟨hp, gens, drawn, toks, os⟩ := test_ev F hk hb hm fun k => by rw [if_pos ht]; exact h k
theorem test_f {l r : Expr} {op : CmpOp} {ps : Pos} {whole : Sem Value} {C D : Shared → Prop} {b : Bool} (F : Fr h₀ L hp m) (hk : cs.kind = .function) (hb : cmpV op (lf cs m l) (lf cs m r) = some b) (hm : behindInMarks op r = false) (ht : b = false) (h : ∀ k, D ⟨hp, gens, drawn, k, os⟩) :
    wpAny (model prog w) A (isTrue (.Compare l [op] [r] ps) (envX cn cs L a ccd cl) whole) (fun c s' => if c = true then C s' else D s') E ⟨hp, gens, drawn, toks, os⟩ := test_ev F hk hb hm fun k => by rw [if_neg (by rw [ht]; exact Bool.false_ne_true)]; exact h k
noncomputable def At (x : Str) (i : Int) (c : Nat) : Prop := fitsSsize i = true ∧ -(x.length : Int) ≤ i ∧ i < x.length ∧ Txt.item x i = ⟨#[c]⟩
theorem At.of {n k : Nat} {i : Int} {l : List Nat} {c : Nat} (hd : x.cps.toList.drop n = l) (hl : l[k]? = some c) (hi : i = (n : Int) + (k : Int)) (hsz : x.length ≤ 5000) : At x i c := by
  have h2 : x.cps.toList[n + k]? = some c := by rw [← List.getElem?_drop, hd]; exact hl
  have h3 : n + k < x.length := by
    have := (List.getElem?_eq_some_iff.mp h2).1
    simpa [Str.length] using this
  subst hi
  refine ⟨?_, by omega, by omega, ?_⟩
  · unfold fitsSsize
    simp
    omega
  · unfold Txt.item Txt.charAt
    rw [seqIndex_of (by omega) (by omega)]
    have : (((n : Int) + (k : Int)).toNat) = n + k := by omega
    rw [this]
    show (⟨#[(x.cps[n + k]?).getD 0]⟩ : Str) = _
    rw [show x.cps[n + k]? = some c by simpa using h2]; rfl
theorem ev_item {idx : Expr} {pp ps : Pos} {y x : Str} {i : Int} {c : Nat} {Q : Value → Shared → Prop} (F : Fr h₀ L hp m) (hk : cs.kind = .function) (hm : lf cs m (.Name y pp) = .s x) (hi : lf cs m idx = .i i) (hs : ∀ o j, subscripted idx false o j = operate [o, j] (getItem o j)) (hc : At x i c)
    (h : ∀ t k, Q (.str ⟨#[c]⟩ t) ⟨hp, gens, drawn, k, os⟩) : wpAny (model prog w) A (eval (.Subscript (.Name y pp) idx ps) (envX cn cs L a ccd cl)) Q E ⟨hp, gens, drawn, toks, os⟩ := by
  refine PyProof.Rows.Subscript_ (ev_leaf F hk (fun q => by rw [q] at hm; cases hm) fun v k hv => ?_)
  rw [hm] at hv
  cases hv
  refine leaf_int F hk hi fun u k => ?_
  refine item_str hc.1 hc.2.1 hc.2.2.1 (fun _ => ?_) (hs _ _) (fun _ => rfl)
  rw [hc.2.2.2]
  exact h _ _
theorem item_t {idx : Expr} {pp ps pc pos : Pos} {y x z : Str} {i : Int} {c kk : Nat} {op : CmpOp} {b : Bool} {whole : Sem Value} {C D : Shared → Prop} (F : Fr h₀ L hp m) (hk : cs.kind = .function) (hm : lf cs m (.Name y pp) = .s x) (hi : lf cs m idx = .i i) (hs : ∀ o j, subscripted idx false o j = operate [o, j] (getItem o j)) (hc : At x i c)
    (hb : cmpV op (.s ⟨#[c]⟩) (.s z) = some b) (ht : b = true) (h : ∀ k, C ⟨hp, gens, drawn, k, os⟩) :
    wpAny (model prog w) A (isTrue (.Compare (.Subscript (.Name y pp) idx ps) [op] [.Constant (.str z) kk pc] pos) (envX cn cs L a ccd cl) whole) (fun c s' => if c = true then C s' else D s') E ⟨hp, gens, drawn, toks, os⟩ :=
  wpAny_isTrue_Compare1 (ev_item F hk hm hi hs hc fun t k => Constant_str (cmp_val hb (.s t) (.s _) (wpAny_truthy_bool (by rw [if_pos ht]; exact h _)))) rfl
theorem item_f {idx : Expr} {pp ps pc pos : Pos} {y x z : Str} {i : Int} {c kk : Nat} {op : CmpOp} {b : Bool} {whole : Sem Value} {C D : Shared → Prop} (F : Fr h₀ L hp m) (hk : cs.kind = .function) (hm : lf cs m (.Name y pp) = .s x) (hi : lf cs m idx = .i i) (hs : ∀ o j, subscripted idx false o j = operate [o, j] (getItem o j)) (hc : At x i c)
    (hb : cmpV op (.s ⟨#[c]⟩) (.s z) = some b) (ht : b = false) (h : ∀ k, D ⟨hp, gens, drawn, k, os⟩) :
    wpAny (model prog w) A (isTrue (.Compare (.Subscript (.Name y pp) idx ps) [op] [.Constant (.str z) kk pc] pos) (envX cn cs L a ccd cl) whole) (fun c s' => if c = true then C s' else D s') E ⟨hp, gens, drawn, toks, os⟩ :=
  wpAny_isTrue_Compare1 (ev_item F hk hm hi hs hc fun t k => Constant_str (cmp_val hb (.s t) (.s _) (wpAny_truthy_bool (by rw [if_neg (by rw [ht]; exact Bool.false_ne_true)]; exact h _)))) rfl
theorem asg_int {y : Str} {py pos : Pos} {rest : List Stmt} {news : List (Addr × Obj)} {Q : Flow → Shared → Prop} (F : Fr h₀ L hp m) (N : News h₀ L hp news) (hk : cs.kind = .function) (hv : lf cs m e = .i n) (ho : okN cs y = true) (hw : swapsWith e (some (.Name y py)) pos.line (envX cn cs L a ccd cl) = pure false)
    (h : ∀ t, let m1 : Str → Option Value := fun z => if z = y then some (.int n t) else m z; ∀ h' tk, Fr h₀ L h' m1 → News h₀ L h' news → wpAny (model prog w) A (execs rest (envX cn cs L a ccd cl)) Q E ⟨h', gens, drawn, tk, os⟩) :
    wpAny (model prog w) A (execs (.Assign [.Name y py] e pos :: rest) (envX cn cs L a ccd cl)) Q E ⟨hp, gens, drawn, toks, os⟩ :=
  wpAny_execs_cons (wpAny_Assign_Name (leaf_int F hk hv fun t k => storeX_L (s := ⟨hp, gens, drawn, k, os⟩) F N (fun h' F' N' => h t h' _ F' N') hk (okN_of ho).1) hw)
theorem asg_bin {l r : Expr} {op : Operator} {ps : Pos} {y : Str} {py pos : Pos} {rest : List Stmt} {news : List (Addr × Obj)} {Q : Flow → Shared → Prop} (F : Fr h₀ L hp m) (N : News h₀ L hp news) (hk : cs.kind = .function) (hv : bop op (lf cs m l) (lf cs m r) = .i n) (ho : okN cs y = true)
    (h : ∀ t, let m1 : Str → Option Value := fun z => if z = y then some (.int n t) else m z; ∀ h' tk, Fr h₀ L h' m1 → News h₀ L h' news → wpAny (model prog w) A (execs rest (envX cn cs L a ccd cl)) Q E ⟨h', gens, drawn, tk, os⟩) :
    wpAny (model prog w) A (execs (.Assign [.Name y py] (.BinOp l op r ps) pos :: rest) (envX cn cs L a ccd cl)) Q E ⟨hp, gens, drawn, toks, os⟩ :=
  wpAny_execs_cons (wpAny_Assign_Name (bin_int F hk hv fun t k => storeX_L (s := ⟨hp, gens, drawn, k, os⟩) F N (fun h' F' N' => h t h' _ F' N') hk (okN_of ho).1) rfl)
theorem asg_item {idx : Expr} {pp ps py pos : Pos} {y p x : Str} {i : Int} {c : Nat} {rest : List Stmt} {news : List (Addr × Obj)} {Q : Flow → Shared → Prop} (F : Fr h₀ L hp m) (N : News h₀ L hp news) (hk : cs.kind = .function) (hm : lf cs m (.Name p pp) = .s x) (hi : lf cs m idx = .i i)
    (hs : ∀ o j, subscripted idx false o j = operate [o, j] (getItem o j)) (hc : At x i c) (ho : okN cs y = true)
    (h : ∀ t, let m1 : Str → Option Value := fun z => if z = y then some (.str ⟨#[c]⟩ t) else m z; ∀ h' tk, Fr h₀ L h' m1 → News h₀ L h' news → wpAny (model prog w) A (execs rest (envX cn cs L a ccd cl)) Q E ⟨h', gens, drawn, tk, os⟩) :
    wpAny (model prog w) A (execs (.Assign [.Name y py] (.Subscript (.Name p pp) idx ps) pos :: rest) (envX cn cs L a ccd cl)) Q E ⟨hp, gens, drawn, toks, os⟩ :=
  wpAny_execs_cons (wpAny_Assign_Name (ev_item F hk hm hi hs hc fun t k => storeX_L (s := ⟨hp, gens, drawn, k, os⟩) F N (fun h' F' N' => h t h' _ F' N') hk (okN_of ho).1) rfl)
theorem aug_int {y : Str} {py pos : Pos} {b : Int} {tb : Tok} {rest : List Stmt} {news : List (Addr × Obj)} {Q : Flow → Shared → Prop} (F : Fr h₀ L hp m) (N : News h₀ L hp news) (hk : cs.kind = .function) (hy : m y = some (.int b tb)) (hv : lf cs m e = .i n) (ho : okN cs y = true)
    (h : ∀ t, let m1 : Str → Option Value := fun z => if z = y then some (.int (b + n) t) else m z; ∀ h' tk, Fr h₀ L h' m1 → News h₀ L h' news → wpAny (model prog w) A (execs rest (envX cn cs L a ccd cl)) Q E ⟨h', gens, drawn, tk, os⟩) :
    wpAny (model prog w) A (execs (.AugAssign (.Name y py) .Add e pos :: rest) (envX cn cs L a ccd cl)) Q E ⟨hp, gens, drawn, toks, os⟩ :=
  wpAny_execs_cons (wpAny_AugAssign_Name (wpAny_loadName_local hk (okN_of ho).1 F.ns hy (leaf_int F hk hv fun t k => P.iadd_int (storeX_L (s := ⟨hp, gens, drawn, k + 1, os⟩) F N (fun h' F' N' => h _ h' _ F' N') hk (okN_of ho).1))))
end
theorem sub_cons {α : Type} {p : α} {l r : List α} (h : p ∈ r) (hs : ∀ q ∈ l, q ∈ r) : ∀ q ∈ p :: l, q ∈ r := fun _ hq => (List.mem_cons.mp hq).elim (fun e => e ▸ h) (hs _)
noncomputable def Out (st : List Str) (m m₀ : Str → Option Value) : Prop := ∀ z, st.contains z = false → m z = m₀ z
theorem Out.upd {st : List Str} {m m₀ : Str → Option Value} {x : Str} {v : Option Value} (hx : st.contains x = true) (h : Out st m m₀) : Out st (fun z => if z = x then v else m z) m₀ := fun z hz => by
  by_cases e : z = x
  · rw [e, hx] at hz; cases hz
  · show (if z = x then v else m z) = m₀ z
    rw [if_neg e]; exact h z hz
theorem Out.base {st : List Str} {u m₀ : Str → Option Value} : Out st (fun z => if st.contains z then u z else m₀ z) m₀ := fun z hz => by
  show (if st.contains z = true then u z else m₀ z) = m₀ z
  rw [if_neg (by rw [hz]; exact Bool.false_ne_true)]
theorem Out.kst {st : List Str} {u m₀ : Str → Option Value} : ∀ {ps : List (Str × Value)}, (ps.all fun p => st.contains p.1) = true → Out st (kstB (fun z => if st.contains z then u z else m₀ z) ps) m₀
  | [], _ => Out.base
  | p :: r, h => by
    rw [List.all_cons, Bool.and_eq_true] at h
    exact Out.upd h.1 (Out.kst h.2)
theorem Out.ends {st : List Str} {m m₀ : Str → Option Value} {ps : List (Str × Value)} (h : Out st m m₀) : ∀ z, (∀ p ∈ ps, z ≠ p.1) → st.contains z = false → m z = m₀ z := fun z _ hz => h z hz
theorem Out.three {a b : Str} {st : List Str} {m m₀ : Str → Option Value} (h : Out (a :: b :: st) m m₀) : ∀ z, z ≠ a → z ≠ b → st.contains z = false → m z = m₀ z := fun z h1 h2 h3 => h z (by
  rw [List.contains_cons, List.contains_cons, h3, beq_eq_false_iff_ne.mpr h1, beq_eq_false_iff_ne.mpr h2]; rfl)
theorem Out.one {a : Str} {m m₀ : Str → Option Value} (h : Out [a] m m₀) : ∀ z, z ≠ a → m z = m₀ z := fun z h1 => h z (by
  rw [List.contains_cons, beq_eq_false_iff_ne.mpr h1]; rfl)
theorem Out.base3 {a b : Str} {x y : Option Value} {st : List Str} {u m₀ : Str → Option Value} : Out (a :: b :: st) (fun z => if z = a then x else if z = b then y else if st.contains z then u z else m₀ z) m₀ := fun z hz => by
  rw [List.contains_cons, List.contains_cons, Bool.or_eq_false_iff, Bool.or_eq_false_iff] at hz
  show (if z = a then x else if z = b then y else if st.contains z = true then u z else m₀ z) = m₀ z
  rw [if_neg (beq_eq_false_iff_ne.mp hz.1), if_neg (beq_eq_false_iff_ne.mp hz.2.1), if_neg (by rw [hz.2.2]; exact Bool.false_ne_true)]
theorem Out.base1 {a : Str} {x : Option Value} {m₀ : Str → Option Value} : Out [a] (fun z => if z = a then x else m₀ z) m₀ := Out.upd (by rw [List.contains_cons, beq_self_eq_true]; rfl) (fun _ _ => rfl)
inductive MidP {X : Type} (h₀ : Heap) (L : Addr) (gens : Array GenState) (drawn : Drawn) (os : OsState) (ps : X → List (Str × Value)) (led : List (Addr × Obj)) : Flow → Shared → Prop
  | mk (x : X) (h : Heap) (tk : Nat) (m : Str → Option Value) (F : Fr h₀ L h (kstB m (ps x))) (N : News h₀ L h led) : MidP h₀ L gens drawn os ps led .next ⟨h, gens, drawn, tk, os⟩
theorem MidP.of {X : Type} {h₀ h : Heap} {L : Addr} {gens : Array GenState} {drawn : Drawn} {os : OsState} {ps : X → List (Str × Value)} {led led' : List (Addr × Obj)} {m : Str → Option Value} {tk : Nat} (x : X) (F : Fr h₀ L h m) (N : News h₀ L h led') (hm : ∀ p ∈ ps x, m p.1 = some p.2) (sub : ∀ p ∈ led, p ∈ led') :
    MidP h₀ L gens drawn os ps led .next ⟨h, gens, drawn, tk, os⟩ :=
  .mk x h tk m (by rw [show kstB m (ps x) = m from funext fun z => kstB_eq hm fun _ => rfl]; exact F) fun p hp => N p (sub p hp)
theorem seq_mid {X : Type} {M : Model} {A : Around} {E : Value → Shared → Prop} {s : Shared} {env : Env} {st : Stmt} {rest : List Stmt} {Q : Flow → Shared → Prop} {h₀ : Heap} {L : Addr} {gens : Array GenState} {drawn : Drawn} {os : OsState} (ps : X → List (Str × Value)) (led : List (Addr × Obj))
    (first : wpAny M A (exec st env) (MidP h₀ L gens drawn os ps led) E s) (second : ∀ x h tk m, Fr h₀ L h (kstB m (ps x)) → News h₀ L h led → wpAny M A (execs rest env) Q E ⟨h, gens, drawn, tk, os⟩) : wpAny M A (execs (st :: rest) env) Q E s :=
  wpAny_execs_cons (wpAny_mono first (fun f s' x => by cases x with | mk x h tk m F N => exact second x h tk m F N) fun _ _ x => x)
section
variable {M : Model} {A : Around} {E : Value → Shared → Prop} {s : Shared} {env : Env}
theorem sh_asg {y x : Str} {py ps pos : Pos} {rest : List Stmt} {Q : Flow → Shared → Prop} (h : wpAny M A (execs (.Assign [.Name y py] (.Name x ps) pos :: rest) env) Q E s) : wpAny M A (execs (.Assign [.Name y py] (.Name x ps) pos :: rest) env) Q E s := h
theorem sh_lit {y : Str} {n : Int} {k : Nat} {py ps pos : Pos} {rest : List Stmt} {Q : Flow → Shared → Prop} (h : wpAny M A (execs (.Assign [.Name y py] (.Constant (.int n) k ps) pos :: rest) env) Q E s) : wpAny M A (execs (.Assign [.Name y py] (.Constant (.int n) k ps) pos :: rest) env) Q E s := h
theorem sh_bin {y : Str} {py ps pos : Pos} {l r : Expr} {op : Operator} {rest : List Stmt} {Q : Flow → Shared → Prop} (h : wpAny M A (execs (.Assign [.Name y py] (.BinOp l op r ps) pos :: rest) env) Q E s) : wpAny M A (execs (.Assign [.Name y py] (.BinOp l op r ps) pos :: rest) env) Q E s := h
theorem sh_sub {y p : Str} {py pp ps pos : Pos} {e : Expr} {rest : List Stmt} {Q : Flow → Shared → Prop} (h : wpAny M A (execs (.Assign [.Name y py] (.Subscript (.Name p pp) e ps) pos :: rest) env) Q E s) : wpAny M A (execs (.Assign [.Name y py] (.Subscript (.Name p pp) e ps) pos :: rest) env) Q E s := h
theorem sh_aug {y : Str} {py pos : Pos} {e : Expr} {rest : List Stmt} {Q : Flow → Shared → Prop} (h : wpAny M A (execs (.AugAssign (.Name y py) .Add e pos :: rest) env) Q E s) : wpAny M A (execs (.AugAssign (.Name y py) .Add e pos :: rest) env) Q E s := h
theorem sh_test {l r : Expr} {op : CmpOp} {ps : Pos} {C D : Shared → Prop} {whole : Sem Value} (h : wpAny M A (isTrue (.Compare l [op] [r] ps) env whole) (fun c s' => if c = true then C s' else D s') E s) : wpAny M A (isTrue (.Compare l [op] [r] ps) env whole) (fun c s' => if c = true then C s' else D s') E s := h
theorem sh_item {idx : Expr} {pp ps pc pos : Pos} {p y : Str} {kk : Nat} {op : CmpOp} {whole : Sem Value} {C D : Shared → Prop} (h : wpAny M A (isTrue (.Compare (.Subscript (.Name p pp) idx ps) [op] [.Constant (.str y) kk pc] pos) env whole) (fun c s' => if c = true then C s' else D s') E s) :
    wpAny M A (isTrue (.Compare (.Subscript (.Name p pp) idx ps) [op] [.Constant (.str y) kk pc] pos) env whole) (fun c s' => if c = true then C s' else D s') E s := h
end
end Mine
end
section
open PySem PySem.W PySem.Spec PySem.Calls PyProof.Rows PyProof.Rows.LCg PyProof.Rows.LCt
set_option maxRecDepth 100000 
set_option maxHeartbeats 2000000 
namespace Mine
theorem l0_Comp : True := by
  k_with_none
  k_with "q" => (all_goals first | assumption | with_unfolding_all exact rfl)
  k_with "ar" => with_reducible first | assumption | (apply Ar.addL; k_extra "q") | (apply Ar.eq2; k_extra "q") | (apply Ar.addL'; k_extra "q")
  trivial

inductive Are {β : Type} (R : β → Value → Prop) : List Value → List β → Prop
  | nil : Are R [] []
  | cons {v : Value} {b : β} {vs : List Value} {bs : List β} : R b v → Are R vs bs → Are R (v :: vs) (b :: bs)

noncomputable abbrev IsS (x : Str) (v : Value) : Prop := ∃ t, v = .str x t
noncomputable abbrev IsI (n : Int) (v : Value) : Prop := ∃ t, v = .int n t

theorem newsC {h₀ h : Heap} {L a : Addr} {o : Obj} {l : List (Addr × Obj)} (z : h.get? a = some o) (n : a ≠ L ∧ h₀.get? a = none) (N : News h₀ L h l) : News h₀ L h ((a, o) :: l) := fun p hp => by
  cases hp with
  | head => exact ⟨z, n⟩
  | tail _ hp => exact N p hp
theorem newsZ {h₀ h : Heap} {L a : Addr} {o : Obj} {l : List (Addr × Obj)} (z : h.get? a = some o ∧ a ≠ L ∧ h₀.get? a = none) (N : News h₀ L h l) : News h₀ L h ((a, o) :: l) := newsC z.1 z.2 N
theorem allC {α : Type} {P : α → Prop} {a : α} {l : List α} (x : P a) (y : ∀ q ∈ l, P q) : ∀ q ∈ a :: l, P q := List.forall_mem_cons.mpr ⟨x, y⟩
theorem Are.append {β : Type} {R : β → Value → Prop} {vs us : List Value} {bs cs : List β} (h : Are R vs bs) (r : Are R us cs) : Are R (vs ++ us) (bs ++ cs) := by
  induction h with
  | nil => exact r
  | cons a _ ih => exact .cons a ih
theorem Are.snoc {β : Type} {R : β → Value → Prop} {v : Value} {b : β} (h : R b v) {vs : List Value} {bs : List β} (q : Are R vs bs) : Are R (vs ++ [v]) (bs ++ [b]) := q.append (.cons h .nil)
theorem Are.length {β : Type} {R : β → Value → Prop} {vs : List Value} {bs : List β} (h : Are R vs bs) : vs.length = bs.length := by
  induction h with
  | nil => rfl
  | cons _ _ ih => exact congrArg (· + 1) ih
theorem Are.get {β : Type} {R : β → Value → Prop} {vs : List Value} {bs : List β} (h : Are R vs bs) : ∀ {i : Nat} {v : Value}, vs[i]? = some v → ∃ b, bs[i]? = some b ∧ R b v := by
  induction h with
  | nil => intro i v e; cases e
  | @cons w b ws bs a _ ih =>
    intro i v e
    cases i with
    | zero => exact ⟨b, rfl, Option.some.inj e ▸ a⟩
    | succ i => exact ih (i := i) e
theorem Are.at {β : Type} {R : β → Value → Prop} {vs : List Value} {bs : List β} (h : Are R vs bs) : ∀ {i : Nat} {b : β}, bs[i]? = some b → ∃ v, vs[i]? = some v ∧ R b v := by
  induction h with
  | nil => intro i v e; cases e
  | @cons w b ws bs a _ ih =>
    intro i v e
    cases i with
    | zero => exact ⟨w, rfl, Option.some.inj e ▸ a⟩
    | succ i => exact ih (i := i) e
theorem Are.strs {vs : List Value} {xs : List Str} (h : Are IsS vs xs) : StrsAre vs xs := by
  induction h with
  | nil => exact .nil
  | cons a _ ih =>
    (refine ex1E a fun t qq1 => ?_; try clear a; rcases qq1 with rfl)
    exact .cons _ _ ih
theorem Are.ints {vs : List Value} {xs : List Int} (h : Are IsI vs xs) : IntsAre vs xs := by
  induction h with
  | nil => exact .nil
  | cons a _ ih =>
    (refine ex1E a fun t qq1 => ?_; try clear a; rcases qq1 with rfl)
    exact .cons _ _ ih
theorem Are.of_strs {vs : List Value} {xs : List Str} (h : StrsAre vs xs) : Are IsS vs xs := by
  induction h with
  | nil => exact .nil
  | cons _ _ _ ih => exact .cons ⟨_, rfl⟩ ih
theorem Are.of_ints {vs : List Value} {xs : List Int} (h : IntsAre vs xs) : Are IsI vs xs := by
  induction h with
  | nil => exact .nil
  | cons _ _ _ ih => exact .cons ⟨_, rfl⟩ ih

section
variable {prog : Program} {w : World} {A : Around} {E : Value → Shared → Prop} {s : Shared} {h₀ : Heap} {L : Addr} {m : Str → Option Value} {env : Env} {elt ct : Expr} {x : Str} {scope : Scope} {cl : List (Str × Addr)} {S : List (Addr × Obj) → Prop} {P : Nat → Value → Prop}
  {Fin : List Value → List (Addr × Obj) → Prop} {α β : Type} {xs : List α} {R : α → Value → Prop} {g : α → β} {R' : β → Value → Prop} {Inv : List (Addr × Obj) → Prop}

theorem compEnd_mono {s₂ : Shared} {I C D : Addr} {oI oC oD : Obj} {y : Value} {r r' : Value → List (Addr × Obj) → Prop} (h : CompEnd h₀ L m s I oI C oC D oD S r y s₂) (k : ∀ nw, r y nw → r' y nw) : CompEnd h₀ L m s I oI C oC D oD S r' y s₂ := by
  (refine ex3E h fun h' tk nw qq3 => ?_; try clear h; refine and6E qq3 fun e F N off hS q => ?_; try clear qq3)
  exact ⟨h', tk, nw, e, F, N, off, hS, k nw q⟩
theorem rest_fun {n : Nat} (hn : xs.length = n) (hP : ∀ i v, i < n → P i v → ∃ a, xs[i]? = some a ∧ R a v) {news : List (Addr × Obj)} (hI : Inv news)
    (turn : ∀ a v I oI C oC D m₂ ys h tk news (E' : Value → Shared → Prop), a ∈ xs → R a v → Inv news → NsObj oC m₂ → m₂ x = some v → Fr h₀ L h m → News h₀ L h ((I, oI) :: (C, oC) :: (D, lst ys) :: news) → Off3 I C D news → ((@Ne Nat I C) ∧ (@Ne Nat I D) ∧ (@Ne Nat C D)) →
      wpAny (model prog w) A (eval elt (compEnvC scope cl C env)) (CompEnd h₀ L m { s with heap := h, toks := tk } I oI C oC D (lst ys) S (fun y news' => Inv news' ∧ R' (g a) y)) E' { s with heap := h, toks := tk })
    (fin : ∀ ys news, Inv news → Are R' ys (xs.map g) → Fin ys news) : CompRest prog w A h₀ L m env elt x scope cl s S P Fin n 0 [] news := by
  have key : ∀ (j i : Nat) (ys : List Value) (news : List (Addr × Obj)), Inv news → i + j = n → Are R' ys ((xs.take i).map g) → CompRest prog w A h₀ L m env elt x scope cl s S P Fin j i ys news := by
    intro j
    induction j with
    | zero =>
      intro i ys news hI hi hy
      have e : i = xs.length := by omega
      subst e
      rw [List.take_length] at hy
      exact CompRest.zero (fin ys news hI hy)
    | succ j ih =>
      intro i ys news hI hi hy
      refine CompRest.succ ?_
      intro v I oI C oC D m₂ h tk E' hv hC hx F N off ne
      (refine ex1E (hP i v (by omega) hv) fun a qq1 => ?_; refine and2E qq1 fun ha hR => ?_; try clear qq1)
      refine wpAny_mono (turn a v I oI C oC D m₂ ys h tk news E' (List.mem_of_getElem? ha) hR hI hC hx F N off ne) (fun y s₂ hq => ?_) fun _ _ e => e
      refine compEnd_mono hq fun nw hr => ih (i + 1) _ nw hr.1 (by omega) ?_
      rw [List.take_add_one, ha]
      simpa using hy.snoc hr.2
  exact key n 0 [] news hI (by omega) (by simp only [List.take_zero, List.map_nil]; exact .nil)

theorem restT_fun {n : Nat} {p : α → Bool} (hn : xs.length = n) (hP : ∀ i v, i < n → P i v → ∃ a, xs[i]? = some a ∧ R a v) {news : List (Addr × Obj)} (hI : Inv news)
    (turn : ∀ a v I oI C oC D m₂ ys h tk news (E' : Value → Shared → Prop), a ∈ xs → R a v → Inv news → NsObj oC m₂ → m₂ x = some v → Fr h₀ L h m → News h₀ L h ((I, oI) :: (C, oC) :: (D, lst ys) :: news) → Off3 I C D news → ((@Ne Nat I C) ∧ (@Ne Nat I D) ∧ (@Ne Nat C D)) →
      wpAny (model prog w) A (isTrue ct (compEnvC scope cl C env) (eval ct (compEnvC scope cl C env))) (fun ok s' => ok = p a ∧ if ok = true then
        wpAny (model prog w) A (eval elt (compEnvC scope cl C env)) (CompEnd h₀ L m { s with heap := h, toks := tk } I oI C oC D (lst ys) S (fun y news' => Inv news' ∧ R' (g a) y)) E' s'
        else CompEnd h₀ L m { s with heap := h, toks := tk } I oI C oC D (lst ys) S (fun _ news' => Inv news') Value.none s') E' { s with heap := h, toks := tk })
    (fin : ∀ ys news, Inv news → Are R' ys ((xs.filter p).map g) → Fin ys news) : CompRestT prog w A h₀ L m env ct elt x scope cl s S P Fin n 0 [] news := by
  have key : ∀ (j i : Nat) (ys : List Value) (news : List (Addr × Obj)), Inv news → i + j = n → Are R' ys (((xs.take i).filter p).map g) → CompRestT prog w A h₀ L m env ct elt x scope cl s S P Fin j i ys news := by
    intro j
    induction j with
    | zero =>
      intro i ys news hI hi hy
      have e : i = xs.length := by omega
      subst e
      rw [List.take_length] at hy
      exact CompRestT.zero (fin ys news hI hy)
    | succ j ih =>
      intro i ys news hI hi hy
      refine CompRestT.succ ?_
      intro v I oI C oC D m₂ h tk E' hv hC hx F N off ne
      (refine ex1E (hP i v (by omega) hv) fun a qq1 => ?_; refine and2E qq1 fun ha hR => ?_; try clear qq1)
      refine wpAny_mono (turn a v I oI C oC D m₂ ys h tk news E' (List.mem_of_getElem? ha) hR hI hC hx F N off ne) (fun ok s₁ hq => ?_) fun _ _ e => e
      (refine and2E hq fun qq0 qq1 => ?_; try clear hq; rcases qq0 with rfl; revert qq1; intro hq)
      by_cases hp : p a = true
      · rw [if_pos hp] at hq ⊢
        refine wpAny_mono hq (fun y s₂ hq => ?_) fun _ _ e => e
        refine compEnd_mono hq fun nw hr => ih (i + 1) _ nw hr.1 (by omega) ?_
        rw [List.take_add_one, ha]
        simpa [hp] using hy.snoc hr.2
      · rw [if_neg hp] at hq ⊢
        refine compEnd_mono hq fun nw hI' => ih (i + 1) _ nw hI' (by omega) ?_
        rw [List.take_add_one, ha]
        simpa [hp] using hy
  exact key n 0 [] news hI (by omega) (by simp only [List.take_zero, List.filter_nil, List.map_nil]; exact .nil)
end

section
variable {prog : Program} {w : World} {A : Around} {E : Value → Shared → Prop} {s : Shared} {h₀ : Heap} {L : Addr} {m : Str → Option Value} {env : Env}

inductive SrcW (prog : Program) (w : World) (A : Around) (h₀ : Heap) (L : Addr) (m : Str → Option Value) (env : Env) (elt : Expr) (x : Str) (scope : Scope) (cl : List (Str × Addr)) (Q : Value → Shared → Prop) : Value → Shared → Prop
  | mk {s₂ : Shared} (I : Addr) (fp : List Addr) (n : Nat) (P : Nat → Value → Prop) (St : Nat → Heap → Prop) (S : List (Addr × Obj) → Prop) (news : List (Addr × Obj)) (W : Walks prog w A I fp [I] n P St) (hsz : n ≤ sizeLine) (hIo : ∀ i h, St i h → ∃ o, h.get? I = some o)
    (hSt : ∀ i h h' o nw, St i h → h.get? I = some o → h'.get? I = some o → (∀ b o, h₀.get? b = some o → h'.get? b = some o) → News h₀ L h' nw → S nw → St i h')
    (st : St 0 s₂.heap) (hfp : ∀ b ∈ fp, b < s₂.heap.objs.size) (F : Fr h₀ L s₂.heap m) (N : News h₀ L s₂.heap news) (hIL : L ≠ I) (hI₀ : h₀.get? I = none) (off : ∀ p ∈ news, p.1 ≠ I) (hS : S news)
    (R : CompRest prog w A h₀ L m env elt x scope cl s₂ S P (FinE h₀ L m s₂ Q) n 0 [] news) : SrcW prog w A h₀ L m env elt x scope cl Q (.ref I) s₂

theorem ListComp_W {elt iter : Expr} {x : Str} {px : Pos} {scope : Scope} {cl : List (Str × Addr)} {pos : Pos} {Q : Value → Shared → Prop} (_F₀ : Fr h₀ L s.heap m)
    (hclos : closureFor scope env = pure cl) (hcell : ∀ y ∈ scope.names, y.2 ≠ .cell) (hkind : scope.kind = .function)
    (hnames : ∀ y ∈ scope.names, y.2 = .local → scope.names.lookup y.1 = some .local) (hx : scope.names.lookup x = some .local)
    (h : wpAny (model prog w) A (eval iter env) (fun xv s₁ => wpAny (model prog w) A (pyIter xv) (SrcW prog w A h₀ L m env elt x scope cl Q) E s₁) E s)
    (hs : ∀ x, foldedSetIterable iter env x = pure x := by intro _; rfl) :
    wpAny (model prog w) A (eval (.ListComp elt [⟨.Name x px, iter, [], 0⟩] scope pos) env) Q E s := by
  rw [eval_ListComp]
  refine wpAny_comprehension_free (use := none) rfl hs hclos hkind hnames (wpAny_mono h (fun xv s₁ h₁ => wpAny_mono h₁ (fun it s₂ h₂ => ?_) fun _ _ e => e) fun _ _ e => e)
  obtain ⟨I, fp, n, P, St, S, news, W, hsz, hIo, hSt, hst, hfp, F, N, hIL, hI₀, off, hS, R⟩ := h₂
  refine block_U W hsz hIo hSt hcell hkind hx hst hfp F N hIL hI₀ off hS R ?_
  intro D C h tk m' ys news' F' N' o1 hn hC₀ hD₀ hCL hDL hCD offC fin
  have offD : ∀ p ∈ (D, lst ys) :: news', p.1 ≠ C := allC (Ne.symm hCD) offC
  exact ⟨m', hn, fun h'' hs'' => fin D h'' tk (F'.change hs'' hCL hC₀) (fun p hp => ⟨hs''.extBut _ _ (offD p hp) (N' p hp).1, (N' p hp).2⟩) o1⟩

theorem str_walks (hh : A.handled = none) (I : Addr) (y : Str) (t : Tok) :
    Walks prog w A I [I] [I] y.cps.size (SignAt y) (fun i h => h.IsStrIter I (strIterType y) y t i) := by
  unfold strIterType
  cases y.cps.all (· < 128)
  · exact Walks.strWide hh I y t
  · exact Walks.strAscii hh I y t

theorem src_str {elt : Expr} {x : Str} {scope : Scope} {cl : List (Str × Addr)} {Q : Value → Shared → Prop} {y : Str} {t : Tok} {β : Type} {g : Nat → β} {R' : β → Value → Prop} {Inv : List (Addr × Obj) → Prop} {news : List (Addr × Obj)}
    (hh : A.handled = none) (hsz : y.cps.size ≤ sizeLine) (F : Fr h₀ L s.heap m) (N : News h₀ L s.heap news) (hI : Inv news)
    (turn : ∀ c u I oI C oC D m₂ ys h tk news (E' : Value → Shared → Prop), c ∈ y.cps.toList → Inv news → NsObj oC m₂ → m₂ x = some (.str ⟨#[c]⟩ u) → Fr h₀ L h m → News h₀ L h ((I, oI) :: (C, oC) :: (D, lst ys) :: news) → Off3 I C D news → ((@Ne Nat I C) ∧ (@Ne Nat I D) ∧ (@Ne Nat C D)) →
      wpAny (model prog w) A (eval elt (compEnvC scope cl C env)) (CompEnd h₀ L m { s with heap := h, toks := tk } I oI C oC D (lst ys) (fun _ => True) (fun z news' => Inv news' ∧ R' (g c) z)) E' { s with heap := h, toks := tk })
    (fin : ∀ ys news, Inv news → Are R' ys (y.cps.toList.map g) → FinE h₀ L m s Q ys news) :
    wpAny (model prog w) A (pyIter (.str y t)) (SrcW prog w A h₀ L m env elt x scope cl Q) E s := by
  refine wpAny_pyIter_strU ?_
  have up : ∀ b o, s.heap.get? b = some o → (s.heap.push { cls := .type (strIterType y), data := .fields #[.str y t, .int 0 0] }).get? b = some o := fun b o e => Heap.get?_push_of_some _ e
  refine ⟨_, _, _, _, _, fun _ => True, news, str_walks hh _ y t, hsz, fun i h st => by (refine ex1E st fun o qq1 => ?_; try clear st; refine and2E qq1 fun e ux => ?_; try clear qq1); exact ⟨o, e⟩, fun i h h' o nw st e e' _ _ _ => ?_, ⟨_, Heap.get?_push_size _ rfl, rfl, rfl⟩, fun b hb => ?_,
    F.keeps up, N.grown up, Nat.ne_of_lt F.ns.lt, next_is_new F, fun p hp => Nat.ne_of_lt (Heap.lt_size (N p hp).1), trivial, ?_⟩
  · (refine ex1E st fun o' qq1 => ?_; try clear st; refine and2E qq1 fun q r => ?_; try clear qq1); rw [e] at q; cases q; exact ⟨o, e', r⟩
  · rw [List.mem_singleton.mp hb]
    show s.heap.objs.size < (s.heap.push _).objs.size
    rw [Heap.size_push]; exact Nat.lt_succ_self _
  · refine rest_fun (xs := y.cps.toList) (R := fun c v => ∃ u, v = .str ⟨#[c]⟩ u) (g := g) (R' := R') (Inv := Inv) (by simp) (fun i v _ hv => ?_) hI (fun a v I oI C oC D m₂ ys h tk nw E' ha hR hI' hC hx F N off ne => ?_) fin
    · (refine ex2E hv fun c u qq2 => ?_; try clear hv; refine and2E qq2 fun e e' => ?_; try clear qq2)
      exact ⟨c, by simpa using e, u, e'⟩
    · (refine ex1E hR fun u qq1 => ?_; try clear hR; rcases qq1 with rfl)
      exact turn a u I oI C oC D m₂ ys h tk nw E' ha hI' hC hx F N off ne
end
end Mine
end
section
open PySem PySem.W PySem.Spec PySem.Calls PyProof.Rows
set_option maxRecDepth 100000 
set_option maxHeartbeats 2000000 
namespace Mine


theorem st_divmod {prog : Program} {w : World} {K : Frag} {A : Around} {E : Value → Shared → Prop} {h₀ : Heap} {L a : Addr} {m mg mb : Str → Option Value} {cn : Str} {cs : Scope} {ccd : Value} {cl : List (Str × Addr)} {p : Program} {loose : List Str} {hp : Heap} {gens : Array GenState} {drawn : Drawn} {toks : Nat} {os : OsState}
    {x y z : Str} {n k : Int} {tn : Tok} {px py pt pn pz pc pcall pos : Pos} {kk kc : Nat} {rest : List Stmt} {news : List (Addr × Obj)} {Q : Flow → Shared → Prop}
    (F : Fr h₀ L hp m) (N : News h₀ L hp news) (X : K.In h₀) (T : TopRead p loose mg mb h₀) (e : nsIn K mainGlobals (Str.ofString "divmod") = some none) (hk : cs.kind = .function) (hg : cs.names.lookup (Str.ofString "divmod") = some .globalImplicit)
    (hm : m z = some (.int n tn)) (ho : (okN cs z && (okN cs x && okN cs y)) = true) (hh : A.handled = none) (hb : k ≠ 0) (hpl : Builtin.divisionGoesByPylong n k = false)
    (h : ∀ t1 t2, let m1 : Str → Option Value := fun v => if v = y then some (.int (n.fmod k) t2) else if v = x then some (.int (n.fdiv k) t1) else m v; ∀ h' tk, Fr h₀ L h' m1 → News h₀ L h' news → wpAny (model prog w) A (execs rest (envX cn cs L a ccd cl)) Q E ⟨h', gens, drawn, tk, os⟩) :
    wpAny (model prog w) A (execs (.Assign [.Tuple [.Name x px, .Name y py] kk pt] (.Call (.Name (Str.ofString "divmod") pn) [.Name z pz, .Constant (.int k) kc pc] [] pcall) pos :: rest) (envX cn cs L a ccd cl)) Q E ⟨hp, gens, drawn, toks, os⟩ := by
  rw [Bool.and_eq_true, Bool.and_eq_true] at ho
  refine wpAny_execs_cons (PyProof.Rows.Assign_Tuple (PyProof.Rows.Call_ (nameX_B (s := ⟨hp, gens, drawn, toks, os⟩) F X T e (by boot_fast) (by decide) ?_ hk hg (by decide)) (by rfl)) (by rfl) (by rfl))
  refine PyProof.Rows.callWith_builtin1 (PyProof.Rows.args_cons (nameX_L (s := ⟨hp, gens, drawn, toks, os⟩) F hm ?_ hk (okN_of ho.1).1 (okN_of ho.1).2))
  refine PyProof.Rows.args_cons (wpAny_Constant_int (PyProof.Rows.args_nil ?_))
  refine PyProof.Rows.divmod_N (s := ⟨hp, gens, drawn, toks + 1, os⟩) F N hb (fun h1 F1 N1 => ?_) (.inl hpl)
  refine PyProof.Rows.unpackN_ (s := ⟨h1, gens, drawn, toks + 1 + 1 + 1, os⟩) F1 N1 (PyProof.Rows.News.isTup N1 (.head _)) hh rfl rfl fun h2 F2 N2 => ?_
  refine PyProof.Rows.assignInOrder_cons (PyProof.Rows.assign_Name (storeX_L (s := ⟨h2, gens, drawn, toks + 1 + 1 + 1, os⟩) F2 N2 (fun h3 F3 N3 => ?_) hk (okN_of ho.2.1).1))
  refine PyProof.Rows.assignInOrder_cons (PyProof.Rows.assign_Name (storeX_L (s := ⟨h3, gens, drawn, toks + 1 + 1 + 1 + 1, os⟩) F3 N3 (fun h4 F4 N4 => ?_) hk (okN_of ho.2.2).1))
  exact PyProof.Rows.assignInOrder_nil (h _ _ h4 _ F4 fun p hp => N4 p (.tail _ hp))
theorem sh_dm {M : Model} {A : Around} {E : Value → Shared → Prop} {s : Shared} {env : Env} {x y z f : Str} {px py pt pn pz pc pcall pos : Pos} {k : Int} {kk kc : Nat} {rest : List Stmt} {Q : Flow → Shared → Prop}
    (h : wpAny M A (execs (.Assign [.Tuple [.Name x px, .Name y py] kk pt] (.Call (.Name f pn) [.Name z pz, .Constant (.int k) kc pc] [] pcall) pos :: rest) env) Q E s) : wpAny M A (execs (.Assign [.Tuple [.Name x px, .Name y py] kk pt] (.Call (.Name f pn) [.Name z pz, .Constant (.int k) kc pc] [] pcall) pos :: rest) env) Q E s := h
theorem lines_C1_0 : True := by
  k_with_none
  k_with "q" => (all_goals first | assumption | with_unfolding_all exact rfl)
  k_with "ar" => with_reducible first | assumption | (apply Ar.le0; k_extra "q") | (apply Ar.sn; k_extra "q") | (apply Ar.sn2; k_extra "q") | (apply Ar.notlt; k_extra "q") | (apply Ar.sn3; k_extra "q") | (apply Ar.rl0; k_extra "q") | (apply Ar.fmn; k_extra "q") | (apply Ar.fmn2; k_extra "q") | (apply Ar.fm3; k_extra "q")
  k_with "execs cons Assign" => (k_here; (fail_if_success (fail_if_success (with_reducible refine sh_dm ?_))); k_dflt (refine st_divmod (by k_asm) (by k_asm) (by k_asm) (by k_asm) (by k_is) (by rfl) (by rfl) (by rfl) (by rfl) (by rfl) (by decide) (by first | exact PyProof.noPylong_of_log2 (by decide +kernel) | exact PyProof.noPylong_small (by omega)) ?_); k_whole; intro t1 t2 m1 h' tk F' N'; (try k_sweep))
  k_with "ite" => first | with_reducible refine ite_tt ?_ | with_reducible refine ite_ff ?_
  k_with "execs cons" => first | (with_reducible refine seqT1 ?_; intro tk) | (k_here; (with_reducible refine seqL (by k_asm) ?_); k_whole; intro n1 Kc tk N' hKc) | (with_reducible refine blkT ?_; intro Qd tk hQd)
  k_with "storeName" => (
      k_here
      k_dflt (refine storeL (by k_asm) (by k_asm) ?_ (by rfl) (by rfl))
      k_whole
      intro m1 h' tk F' N'
      (try k_sweep))
  k_with "execs cons" => first | (with_reducible refine seqT1 ?_; intro tk) | (k_here; (with_reducible refine seqL (by k_asm) ?_); k_whole; intro n1 Kc tk N' hKc) | (with_reducible refine blkT ?_; intro Qd tk hQd)
  k_with "storeName" => (
      k_here
      k_dflt (
        refine' storeL ?F ?N ?_ ?a ?b
        (case F => k_asm)
        (case N => k_asm)
        (case a => rfl)
        (case b => rfl)
        k_whole)
      intro m1 h' tk F' N'
      (try k_sweep))
  k_with "Nxt" => (k_dflt (dsimp only [Nxt]))
  k_with "Kont" => first | (k_dflt (refine hKc _ _ ?_; try clear hKc)) | (k_dflt (refine hQd _ _ ?_; try clear hQd)) | (k_dflt (refine hQc _ _ ?_; try clear hQc)) | (k_dflt (refine kont_app (by assumption) ?_))
  k_with "mine enter" => (
      refine' enter ?k3 ?k5 ?kT ?k6 ?k7 ?k8 ?k9 ?kB ?_ ?c2 ?c3 ?c4 ?c5
      (case k3 => assumption)
      (case k5 => assumption)
      (case kT => assumption)
      (case k6 => k_is)
      (case k7 => k_is)
      (case k8 => (dsimp only [aA]; omega))
      (case k9 => exact BindsTo.of_eq rfl)
      (case c5 => decide)
      (case kB => exact locs rfl)
      (case c2 => exact rfl)
      (case c3 => exact rfl)
      (case c4 => exact rfl)
      k_whole
      intro L' h' ps FL NL hps l0 lL gL
      (try dsimp only)
      (try k_fold))
  k_with "subscriptTail" => (
      k_here
      with_reducible show wpAny _ _ (subscriptTail (Expr.List _ _) (Expr.Name _ _) (Value.ref _) (Value.int _ _)) _ _ _
      k_dflt (
        refine' KTb.item_list ?k1 ?k2 ?k3 ?k4 ?k5 ?_ ?k6
        (case k1 => is_list)
        (case k2 => (repeat' constructor))
        (case k3 => exact fmod_lo _ (by decide))
        (case k4 => exact fmod_hi _ (by decide))
        (case k5 => exact Int.lt_trans (fmod_hi _ (by decide)) (by decide))
        (case k6 => with_unfolding_all rfl)
        k_whole)
      intro tt _)
  trivial
theorem slice3 {a b c : Str} {t1 t2 t3 : Tok} {d : Int} (h0 : 0 ≤ d) (h1 : d < 3) :
    StrsAre (slicePick #[.str a t1, .str b t2, .str c t3] none (some (d + 1)) none).toList ([a, b, c].take (d + 1).toNat) := by
  have : d = 0 ∨ d = 1 ∨ d = 2 := by omega
  rcases this with rfl | rfl | rfl
  · exact .cons _ _ .nil
  · exact .cons _ _ (.cons _ _ .nil)
  · exact .cons _ _ (.cons _ _ (.cons _ _ .nil))
theorem len_getD {l : List Str} {i k : Nat} (h : ∀ x ∈ l, x.length ≤ k) : (l.getD i Str.empty).length ≤ k := by
  by_cases hi : i < l.length
  · rw [List.getD_eq_getElem?_getD, List.getElem?_eq_getElem hi]
    exact h _ (List.getElem_mem hi)
  · rw [List.getD_eq_getElem?_getD, List.getElem?_eq_none (by omega)]
    exact Nat.zero_le _
noncomputable def pA (n : Int) : Str := [Str.ofString "a", Str.ofString "*", Str.ofString "[a]", Str.ofString "?"].getD (((n.fdiv 2).fdiv 3).fmod 4).toNat Str.empty
noncomputable def pB (n : Int) : Str := [Str.ofString "a", Str.ofString "*", Str.ofString "ab", Str.ofString "[", Str.ofString "b]", Str.ofString "!", Str.ofString "\\", Str.ofString "\n"].getD ((((n.fdiv 2).fdiv 3).fdiv 4).fmod 8).toNat Str.empty
noncomputable def odd (n : Int) : Str := ⟨#[(256 + ((((((n.fdiv 2).fdiv 3).fdiv 4).fdiv 8).fdiv 8).fmod 50000)).toNat]⟩
noncomputable def pC (n : Int) : Str := [Str.ofString "a", Str.ofString "?", Str.ofString ".a", Str.ofString "[!a]", Str.ofString "-", Str.ofString "**", odd n, odd n ++ Str.ofString "*"].getD (((((n.fdiv 2).fdiv 3).fdiv 4).fdiv 8).fmod 8).toNat Str.empty
theorem pA_len (n : Int) : (pA n).length ≤ 4 := len_getD (by decide +kernel)
theorem pB_len (n : Int) : (pB n).length ≤ 4 := len_getD (by decide +kernel)
theorem pC_len (n : Int) : (pC n).length ≤ 4 := len_getD fun x hx => by
  simp only [List.mem_cons, List.not_mem_nil, or_false] at hx
  rcases hx with rfl | rfl | rfl | rfl | rfl | rfl | rfl | rfl
  all_goals first | decide +kernel | exact Nat.le_of_ble_eq_true rfl
noncomputable def lawName (n : Int) : Str := Str.join (Str.ofString "/") ([pA n, pB n, pC n].take ((n.fdiv 2).fmod 3 + 1).toNat) ++ [Str.ofString "", Str.ofString "/"].getD (n.fmod 2).toNat Str.empty

theorem join3 {prog : Program} {w : World} {A : Around} {E : Value → Shared → Prop} {s : Shared} {Q : Value → Shared → Prop} {D : Addr} {n : Int} {t t1 t2 t3 : Tok} 
    (hl : s.heap.IsList D (slicePick #[.str (pA n) t1, .str (pB n) t2, .str (pC n) t3] none (some ((n.fdiv 2).fmod 3 + 1)) none))
    (h : ∀ t' k, Q (.str (Str.join (Str.ofString "/") ([pA n, pB n, pC n].take ((n.fdiv 2).fmod 3 + 1).toNat)) t') { s with toks := k }) : wpAny (model prog w) A (call (.builtin "str.join") [.str (Str.ofString "/") t, .ref D]) Q E s := by
  refine join_list hl (slice3 (fmod_lo _ (by decide)) (fmod_hi _ (by decide))) ?_ fun t' k => (show Txt.join (Str.ofString "/") _ = _ from StrLaws.glued_eq_join _ _) ▸ h t' k
  have a := pA_len n
  have b := pB_len n
  have c := pC_len n
  have d : (n.fdiv 2).fmod 3 = 0 ∨ (n.fdiv 2).fmod 3 = 1 ∨ (n.fdiv 2).fmod 3 = 2 := by
    have := fmod_lo (n.fdiv 2) (n := 3) (by decide)
    have := fmod_hi (n.fdiv 2) (n := 3) (by decide)
    omega
  have e : (Str.ofString "/").length = 1 := by decide +kernel
  rw [e]
  rcases d with d | d | d <;> rw [d]
  · show ([pA n].map (·.length)).sum + 1 * 1 ≤ _
    simp; omega
  · show ([pA n, pB n].map (·.length)).sum + 2 * 1 ≤ _
    simp; omega
  · show ([pA n, pB n, pC n].map (·.length)).sum + 3 * 1 ≤ _
    simp; omega
theorem join3_len (n : Int) : (Str.join (Str.ofString "/") ([pA n, pB n, pC n].take ((n.fdiv 2).fmod 3 + 1).toNat)).length ≤ 15 := by
  refine Nat.le_trans (StrLaws.join_length_le _ _) ?_
  have a := pA_len n
  have b := pB_len n
  have c := pC_len n
  have d : (n.fdiv 2).fmod 3 = 0 ∨ (n.fdiv 2).fmod 3 = 1 ∨ (n.fdiv 2).fmod 3 = 2 := by
    have := fmod_lo (n.fdiv 2) (n := 3) (by decide)
    have := fmod_hi (n.fdiv 2) (n := 3) (by decide)
    omega
  have e : (Str.ofString "/").length = 1 := by decide +kernel
  rw [e]
  rcases d with d | d | d <;> rw [d]
  · show ([pA n].map (·.length)).sum + 1 * 1 ≤ _
    simp; omega
  · show ([pA n, pB n].map (·.length)).sum + 2 * 1 ≤ _
    simp; omega
  · show ([pA n, pB n, pC n].map (·.length)).sum + 3 * 1 ≤ _
    simp; omega
theorem add3_fit (n : Int) : (Str.join (Str.ofString "/") ([pA n, pB n, pC n].take ((n.fdiv 2).fmod 3 + 1).toNat)).length + ([Str.ofString "", Str.ofString "/"].getD (n.fmod 2).toNat Str.empty).length ≤ sizeLine := by
  have a := join3_len n
  have b : ([Str.ofString "", Str.ofString "/"].getD (n.fmod 2).toNat Str.empty).length ≤ 1 := len_getD (by decide +kernel)
  have := sizeLine_eq
  omega
theorem lines_C1_1 : True := by
  k_with "call builtin:str.join" => (
      k_here
      k_dflt (
        refine' join3 ?k1 ?_
        (case k1 => exact News.isList (by k_asm) (by k_mem))
        k_whole)
      intro tj kj)
  k_with "binaryOp Add str str" => (
      k_here
      refine' PyProof.Rows.add_str ?_ (add3_fit _)
      intro ta ka)
  trivial
theorem c_law_name (w : World) (n : Int) (t : Tok) (hn : 0 ≤ n ∧ n < 1000000000) : Pure w 3 10 253 [.int n t] (fun _ => True) (fun _ _ v => ∃ t', v = .str (lawName n) t') := by
  unfold Pure
  k_fill
  intro mean mg mb dp un fr gd Q E s X T hT hp hdp hun hret
  walk_at "mine enter"
  refine entL (by first | assumption | with_unfolding_all passes_own) ?_
  intro A1 e1 Qc Ec hQc hEc
  k_steps
  exact leaveP_in (by k_asm) (by k_asm) (by k_mem) (by assumption) fun G T => hret _ _ _ G T ⟨_, rfl⟩
end Mine
end
section
open PySem PySem.W PySem.Spec PySem.Calls PyProof.Rows
set_option maxRecDepth 100000 
set_option maxHeartbeats 2000000 
namespace Mine
theorem lines_C2_0 : True := by
  k_with_none
  k_with "q" => (all_goals first | assumption | with_unfolding_all exact rfl)
  k_with "ar" => with_reducible first | assumption | (apply Ar.sn; k_extra "q") | (apply Ar.s1; k_extra "q") | (apply Ar.rl0; k_extra "q") | (apply Ar.pn0; k_extra "q") | (apply Ar.pn1; k_extra "q") | (apply Ar.pn2e; k_extra "q")
  k_with "mine enter" => (
      (case k3 => assumption)
      (case k5 => assumption)
      (case kT => assumption)
      (case k6 => k_is)
      (case k7 => k_is)
      (case k8 => (dsimp only [aA]; omega))
      (case k9 => exact BindsTo.of_eq rfl)
      (case c5 => decide)
      (case kB => exact locs rfl)
      (case c2 => exact rfl)
      (case c3 => exact rfl)
      (case c4 => exact rfl)
      (case' kk => skip)
      k_whole
      intro L' h' ps FL NL hps l0 lL gL
      (try dsimp only)
      (try k_fold))
  trivial
noncomputable def escC (c : Nat) : Str := if c ∈ (Str.ofString "*?[").cps.toList then ⟨#[91, c, 93]⟩ else ⟨#[c]⟩
noncomputable def esc (x : Str) : Str := Str.join (Str.ofString "") (x.cps.toList.map escC)

theorem lines_C2_1 : True := by
  k_with "eval ListComp" => (
      k_here
      k_dflt (refine ListComp_W (by k_asm) (by rfl) (by decide) (by rfl) (by decide) (by rfl) ?_))
  k_with "pyIter str" => (
      k_here
      k_dflt (
        refine' src_str (g := escC) (R' := IsS) (Inv := fun n => n = _) ?k0 ?k1 ?k2 ?k3 ?k4 ?kt ?kf
        (case k0 => exact rfl)
        (case k2 => k_asm)
        (case k3 => k_asm)
        (case k4 => exact rfl)
        (case k1 => (show Str.length _ ≤ _; rw [sizeLine_eq]; omega))
        (case' kt => (intro c u I oI C oC D m₂ ys h tk news E' hc hI hC hx F N off ne; subst hI; simp only [LCg.Off3, and_true] at off))
        (case' kf => (intro ys news hI hA D h tk F N off; subst hI))))
  trivial
theorem esc_yes {c : Nat} {t : Tok} (hc : (Builtin.Str.occurrences (Str.ofString "*?[") ⟨#[c]⟩ 0 (Str.ofString "*?[").length 1).isEmpty = false) : Value.str (Str.ofString "[" ++ ⟨#[c]⟩ ++ Str.ofString "]") t = Value.str (escC c) t := by
  have h := StrLaws.found_one (Str.ofString "*?[") c
  rw [hc] at h
  have hc := of_decide_eq_true h.symm
  unfold escC
  rw [if_pos hc]
  have a : Str.ofString "[" = ⟨#[91]⟩ := by decide +kernel
  have b : Str.ofString "]" = ⟨#[93]⟩ := by decide +kernel
  rw [a, b]; rfl
theorem esc_no {c : Nat} {t : Tok} (hc : (Builtin.Str.occurrences (Str.ofString "*?[") ⟨#[c]⟩ 0 (Str.ofString "*?[").length 1).isEmpty = true) : Value.str ⟨#[c]⟩ t = Value.str (escC c) t := by
  have h := StrLaws.found_one (Str.ofString "*?[") c
  rw [hc] at h
  have hc := of_decide_eq_false h.symm
  unfold escC
  rw [if_neg hc]
theorem escC_len (c : Nat) : (escC c).length ≤ 3 := by
  unfold escC
  split
  · exact Nat.le_refl 3
  · exact (by decide : 1 ≤ 3)
theorem esc_sum : ∀ l : List Nat, ((l.map escC).map (·.length)).sum ≤ 3 * l.length
  | [] => Nat.le_refl _
  | c :: l => by
    have := esc_sum l
    have := escC_len c
    simp only [List.map_cons, List.sum_cons, List.length_cons]
    omega
theorem esc_join {prog : Program} {w : World} {A : Around} {E : Value → Shared → Prop} {s : Shared} {Q : Value → Shared → Prop} {D : Addr} {x : Str} {ys : List Value} {t : Tok} (hx : x.length ≤ 100)
    (hl : s.heap.IsList D ys.toArray) (hA : Are IsS ys (x.cps.toList.map escC)) (h : ∀ t' k, Q (.str (esc x) t') { s with toks := k }) : wpAny (model prog w) A (call (.builtin "str.join") [.str (Str.ofString "") t, .ref D]) Q E s := by
  refine join_list hl (by simpa using hA.strs) ?_ fun t' k => by
    have e := h t' k
    unfold esc at e
    rw [← StrLaws.glued_eq_join] at e
    exact e
  have := esc_sum x.cps.toList
  have e : (Str.ofString "").length = 0 := by decide +kernel
  rw [e]
  have : x.cps.toList.length = x.length := by simp [Str.length]
  omega
theorem lines_C2_2 : True := by
  k_with "And" => (
      k_here
      k_dflt (first | exact ⟨rfl, _, esc_no (by assumption)⟩ | exact ⟨rfl, _, esc_yes (by assumption)⟩))
  k_with "call builtin:str.join" => (
      k_here
      k_dflt (refine' esc_join ?k1 ?k2 ?k3 ?_; (case k1 => assumption); (case k2 => exact News.isList (by k_asm) (by k_mem)); (case k3 => assumption); k_whole)
      intro tj kj)
  trivial
theorem c_esc (w : World) (x : Str) (t : Tok) : Pure w 3 10 246 [.str x t] (fun _ => x.length ≤ 100) (fun _ _ v => ∃ t', v = .str (esc x) t') := by
  unfold Pure
  k_fill
  intro mean mg mb dp un fr gd Q E s X T hT hp hdp hun hret
  refine' enter (binds := [(Str.ofString "text", .str x t)]) ?k3 ?k5 ?kT ?k6 ?k7 ?k8 ?k9 ?kB ?kk ?c2 ?c3 ?c4 ?c5
  walk_at "mine enter"
  k_steps
  exact leaveP_in (by k_asm) (by k_asm) (by k_mem) (by assumption) fun G T => hret _ _ _ G T ⟨_, rfl⟩
end Mine
end
section
open PySem PySem.W PySem.Spec PySem.Calls PyProof.Rows
set_option maxRecDepth 100000
set_option maxHeartbeats 2000000
namespace Mine
theorem l0_E1 : True := by
  k_with_none
  k_with "q" => (all_goals first | assumption | with_unfolding_all exact rfl)
  k_with "ar" => with_reducible first | assumption | (apply Ar.i20; k_extra "q")
  trivial
noncomputable def escKeys : List Nat := [40,41,91,93,123,125,63,42,43,45,124,94,36,92,46,38,126,35,32,9,10,13,11,12]
noncomputable def escRe (c : Nat) : Str := if c ∈ escKeys then ⟨#[92, c]⟩ else ⟨#[c]⟩
noncomputable def escEs (w : World) : List DictEntry := match (hd.heap_1_1 w.params).lookup 186 with
  | some ⟨_, _, .dict es _, _⟩ => es.toList
  | _ => []
theorem escEs_is (w : World) : ∃ n, (hd.heap_1_1 w.params).lookup 186 = some ⟨.type "dict", none, .dict (escEs w).toArray n, #[]⟩ := ⟨_, rfl⟩
noncomputable def escOk (k : Nat) (e : DictEntry) : Bool := match e.key, e.val with
  | .int i _, .str x _ => i == (k : Int) && x == ⟨#[92, k]⟩ && e.hash == hashInt i
  | _, _ => false
noncomputable def escAll : List Nat → List DictEntry → Bool
  | [], [] => true
  | k :: ks, e :: es => escOk k e && escAll ks es
  | _, _ => false
theorem escEs_all (w : World) : escAll escKeys (escEs w) = true := rfl
theorem escOk_key {k : Nat} {hh : Int} {val key : Value} (h : escOk k ⟨hh, key, val⟩ = true) : ∃ i t, key = .int i t := by
  cases key <;> first | exact ⟨_, _, rfl⟩ | exact (Bool.false_ne_true h).elim
theorem escOk_val {k : Nat} {hh i : Int} {t : Tok} {val : Value} (h : escOk k ⟨hh, .int i t, val⟩ = true) : ∃ x u, val = .str x u := by
  cases val <;> first | exact ⟨_, _, rfl⟩ | exact (Bool.false_ne_true h).elim
theorem escOk_is {k : Nat} {e : DictEntry} (h : escOk k e = true) : ∃ t u, e.key = .int k t ∧ e.val = .str ⟨#[92, k]⟩ u ∧ e.hash = hashInt k := by
  obtain ⟨hh, key, val⟩ := e
  (refine ex2E (escOk_key h) fun i t qq2 => ?_; rcases qq2 with rfl)
  (refine ex2E (escOk_val h) fun x u qq2 => ?_; rcases qq2 with rfl)
  have h1 := Bool.and_eq_true_iff.mp h
  have h2 := Bool.and_eq_true_iff.mp h1.1
  exact ⟨t, u, congrArg (fun i => Value.int i t) (eq_of_beq h2.1), congrArg (fun x => Value.str x u) (eq_of_beq h2.2), (eq_of_beq h1.2).trans (congrArg hashInt (eq_of_beq h2.1))⟩
theorem escAll_keys {w : World} {prog : Program} {e' : DictEntry} (es : List DictEntry) (ks : List Nat) (h : escAll ks es = true) (m : e' ∈ es) : ∃ k, (intKind prog w).is k e'.key = true ∧ e'.hash = (intKind prog w).hash k := by
  induction es generalizing ks with
  | nil => cases m
  | cons e es ih =>
    cases ks with
    | nil => cases h
    | cons k ks =>
      have h := Bool.and_eq_true_iff.mp h
      cases m with
      | head =>
        (refine ex2E (escOk_is h.1) fun t u qq2 => ?_; refine and3E qq2 fun a b c => ?_; try clear qq2)
        exact ⟨(k : Int), by rw [a]; exact intKind_is prog w _ t, c⟩
      | tail _ m => exact ih ks h.2 m
theorem escAll_find {c : Nat} (ks : List Nat) : ∀ {es : List DictEntry}, escAll ks es = true →
    (c ∈ ks → ∃ u, (es.find? fun e => Value.isInt (c : Int) e.key).map (·.val) = some (.str ⟨#[92, c]⟩ u)) ∧ (c ∉ ks → (es.find? fun e => Value.isInt (c : Int) e.key) = none) := by
  induction ks with
  | nil =>
    intro es h
    cases es with
    | nil => exact ⟨fun h => (by cases h), fun _ => rfl⟩
    | cons e es => exact absurd h Bool.false_ne_true
  | cons k ks ih =>
    intro es h
    cases es with
    | nil => exact absurd h Bool.false_ne_true
    | cons e es =>
      have h := Bool.and_eq_true_iff.mp h
      (refine ex2E (escOk_is h.1) fun t u qq2 => ?_; refine and3E qq2 fun a b ux => ?_; try clear qq2)
      have ih := ih h.2
      have q : Value.isInt (c : Int) e.key = decide (c = k) := by
        rw [a]
        show ((k : Int) == (c : Int)) = _
        rw [Bool.eq_iff_iff, beq_iff_eq, decide_eq_true_eq]
        omega
      rw [List.find?_cons, q]
      by_cases hk : c = k
      · subst hk
        simp -iota only [decide_true]
        exact ⟨fun _ => ⟨u, by rw [Option.map_some, b]⟩, fun n => absurd (List.mem_cons_self) n⟩
      · simp -iota only [hk, decide_false]
        exact ⟨fun m => ih.1 ((List.mem_cons.mp m).resolve_left hk), fun n => ih.2 fun m => n (List.mem_cons_of_mem _ m)⟩

noncomputable def escF (w : World) (k : Int) : Option Value := findBy Value.isInt (escEs w).toArray k
theorem escF_yes (w : World) {c : Nat} (h : c ∈ escKeys) : ∃ u, escF w (c : Int) = some (.str ⟨#[92, c]⟩ u) := by
  refine ex1E ((escAll_find (c := c) _ (escEs_all w)).1 h) fun u e => ?_
  exact ⟨u, by unfold escF findBy; rw [List.find?_toArray]; exact e⟩
theorem escF_no (w : World) {c : Nat} (h : c ∉ escKeys) : escF w (c : Int) = none := by
  unfold escF findBy; rw [List.find?_toArray, (escAll_find (c := c) _ (escEs_all w)).2 h]; rfl
theorem esc_map {w : World} {prog : Program} {h : Heap} (X : (hd.heap_1_1 w.params).In h) : h.MapOf (intKind prog w) 186 (escF w) := by
  refine ex1E (escEs_is w) fun n e => ?_
  exact ⟨_, _, n, X _ _ e, ⟨rfl, rfl, rfl⟩, rfl, fun e he => escAll_keys _ _ (escEs_all w) (by simpa using he), fun _ => rfl⟩

section
variable {prog : Program} {w : World} {A : Around} {E : Value → Shared → Prop} {s : Shared} {c : Nat}
open PySem.Builtin.Str in
theorem lookup_yes {Q : Mapped → Shared → Prop} (X : (hd.heap_1_1 w.params).In s.heap) (hc : c ∈ escKeys) (h : ∀ k, Q (.text ⟨#[92, c]⟩) { s with toks := k }) :
    wpAny (model prog w) A (tableLookup (.ref 186) c) Q E s := by
  refine ex1E (escF_yes w hc) fun u hu => ?_
  unfold tableLookup
  refine wpAny_bind (wpAny_attempt (wpAny_bind (wpAny_mkInt (wpAny_getItem_of (intKind_is prog w (c : Int) _) (esc_map (prog := prog) X) hu ?_))))
  dsimp -iota only [asInt?, asStr?]
  exact wpAny_bind (wpAny_bind (wpAny_of_eq (by rfl) (wpAny_pure (wpAny_bind (wpAny_pure (wpAny_pure (h _)))))))
open PySem.Builtin.Str in
theorem lookup_no {Q : Mapped → Shared → Prop} (X : (hd.heap_1_1 w.params).In s.heap) (hA : A.handled = none) (hc : c ∉ escKeys)
    (h : ∀ h' k, (∀ b o, s.heap.get? b = some o → h'.get? b = some o) → Q .keep { s with heap := h', toks := k }) :
    wpAny (model prog w) A (tableLookup (.ref 186) c) Q E s := by
  unfold tableLookup
  refine wpAny_bind (wpAny_attempt (wpAny_bind (wpAny_mkInt (wpAny_getItem_missing_of (intKind_is prog w (c : Int) _) (by decide) hA (esc_map (prog := prog) X) (escF_no w hc) fun h' e x => ?_))))
  dsimp only
  (refine ex2E x.there fun ob t qq2 => ?_; refine and3E qq2 fun he hcl hd => ?_; try clear qq2)
  refine wpAny_bind (wpAny_isInstance (T := "KeyError") (b := true) ⟨ob, he, hcl⟩ (by rw [isSubtype_type]; kernel_rfl) ?_)
  exact wpAny_bind (wpAny_rule (wpAny_pure (h _ _ x.keeps)))

theorem keys_lt : ∀ c ∈ escKeys, c < 128 := by decide +kernel
theorem wif_n {α : Type} {M : Model} {Q : α → Shared → Prop} {p : Prop} [Decidable p] {a b : Sem α} (hc : ¬ p) (h : wpAny M A b Q E s) : wpAny M A (if p then a else b) Q E s := by rw [if_neg hc]; exact h
theorem wif_p {α : Type} {M : Model} {Q : α → Shared → Prop} {p : Prop} [Decidable p] {a b : Sem α} (hc : p) (h : wpAny M A a Q E s) : wpAny M A (if p then a else b) Q E s := by rw [if_pos hc]; exact h
theorem translate1 {Q : Value → Shared → Prop} {t : Tok} (X : (hd.heap_1_1 w.params).In s.heap) (hA : A.handled = none)
    (h : ∀ t' h' k, (∀ b o, s.heap.get? b = some o → h'.get? b = some o) → Q (.str (escRe c) t') { s with heap := h', toks := k }) :
    wpAny (model prog w) A (call (.builtin "str.translate") [.str ⟨#[c]⟩ t, .ref 186]) Q E s := by
  refine wpAny_call_entry F.slot_str_translate (typeIs_str _ _ _) F.entry_str_translate ?_ (F.args_str_translate_2 _ _)
  unfold Builtin.«str.translate»
  refine wpAny_bind (wpAny_of_eq (a := (.str ⟨#[c]⟩ t, ⟨#[c]⟩, .ref 186)) (by rfl) ?_)
  dsimp only
  refine wif_n Bool.false_ne_true ?_
  have hz : Builtin.Str.tooLong 0 = false := rfl
  have h1 : Builtin.Str.tooLong 1 = false := by decide +kernel
  have h2 : Builtin.Str.tooLong (Str.length ⟨#[92, c]⟩) = false := by show Builtin.Str.tooLong 2 = false; decide +kernel
  have hs1 : (Str.length ⟨#[c]⟩) ≤ sizeLine := by show 1 ≤ sizeLine; decide +kernel
  have hs2 : (Str.length ⟨#[92, c]⟩) ≤ sizeLine := by show 2 ≤ sizeLine; decide +kernel
  have hA1 : A.in1.handled = none := hA
  have hlt : c ∈ escKeys → (#[c].all fun x => decide (x < 128)) = true := fun hk => by
    have : c < 128 := keys_lt c hk
    simp [this]
  have hbad : (if ((Str.length ⟨#[92, c]⟩ == 1) && (#[92, c].all fun x => decide (x < 128))) = true then some (#[92, c])[0]? else none) = none := if_neg (by simp [Str.length])
  generalize (#[c].all fun x => decide (x < 128)) = fast at hlt
  simp -iota only [List.forIn_toArray, List.forIn_cons, List.forIn_nil, hz, Bool.false_eq_true, if_false, List.lookup_nil]
  by_cases hk : c ∈ escKeys
  · rw [show escRe c = ⟨#[92, c]⟩ from if_pos hk] at h
    refine wpAny_bind (wpAny_bind (wif_p (hlt hk) (wpAny_bind (lookup_yes X hk fun k => ?_))))
    dsimp only
    rw [hbad]
    refine wpAny_bind (wpAny_pure (wpAny_bind (wpAny_rule (wpAny_bind (lookup_yes (s := { s with toks := k }) X hk fun k' => wpAny_pure ?_)))))
    dsimp only
    refine wpAny_pure ?_
    rw [Nat.zero_add, h2]
    refine wpAny_bind (wpAny_mkStr (wpAny_pure ⟨_, rfl, h _ _ _ fun _ _ e => e⟩) hs2)
  · rw [show escRe c = ⟨#[c]⟩ from if_neg hk] at h
    clear hlt
    cases fast
    · refine wpAny_bind (wpAny_bind (wif_n Bool.false_ne_true (wpAny_bind (lookup_no X hA1 hk fun h' k kp => wpAny_pure ?_))))
      dsimp only
      refine wpAny_pure ?_
      rw [Nat.zero_add, h1]
      refine wpAny_bind (wpAny_mkStr (wpAny_pure ⟨_, rfl, h _ _ _ kp⟩) hs1)
    · refine wpAny_bind (wpAny_bind (wif_p rfl (wpAny_bind (lookup_no X hA1 hk fun h' k kp => ?_))))
      dsimp only
      refine wpAny_bind (wpAny_pure (wpAny_pure ?_))
      dsimp only
      refine wpAny_pure ?_
      rw [Nat.zero_add, h1]
      refine wpAny_bind (wpAny_mkStr (wpAny_pure ⟨_, rfl, h _ _ _ kp⟩) hs1)

theorem translate1K {Q : Value → Shared → Prop} {t : Tok} {h₀ : Heap} {L : Addr} {m : Str → Option Value} {news : List (Addr × Obj)} (F : Fr h₀ L s.heap m) (X : (hd.heap_1_1 w.params).In h₀) (N : News h₀ L s.heap news) (hA : A.handled = none)
    (h : ∀ t' h' k, Fr h₀ L h' m → News h₀ L h' news → Q (.str (escRe c) t') { s with heap := h', toks := k }) :
    wpAny (model prog w) A (call (.builtin "str.translate") [.str ⟨#[c]⟩ t, .ref 186]) Q E s :=
  translate1 (X.keeps F.keep) hA fun t' h' k kp => h t' h' k (F.keeps kp) (N.grown kp)
end
end Mine
end
section
open PySem PySem.W PySem.Spec PySem.Calls PyProof.Rows
set_option maxRecDepth 100000 
set_option maxHeartbeats 2000000 
namespace Mine

theorem lines_C3_0 : True := by
  k_with_none
  k_with "q" => (all_goals first | assumption | with_unfolding_all exact rfl)
  k_with "ar" => with_reducible first | assumption | (apply Ar.rl0; k_extra "q")
  k_with "storeName" => (
      k_here
      k_dflt (refine storeL (by k_asm) (by k_asm) ?_ (by rfl) (by rfl))
      k_whole
      intro m1 h' tk F' N'
      (try k_sweep))
  k_with "ite" => first | with_reducible refine ite_tt ?_ | with_reducible refine ite_ff ?_
  k_with "execs cons" => first | (with_reducible refine seqT1 ?_; intro tk) | (with_reducible refine seqT ?_; intro Kc tk hKc) | (with_reducible refine blkT ?_; intro Qd tk hQd)
  k_with "Nxt" => (k_dflt (dsimp only [Nxt]))
  k_with "Kont" => first | (k_dflt (refine hKc _ _ ?_; try clear hKc)) | (k_dflt (refine hQd _ _ ?_; try clear hQd)) | (k_dflt (refine hQc _ _ ?_; try clear hQc)) | (k_dflt (refine kont_app (by assumption) ?_))
  k_with "mine enter" => (
      (case k3 => assumption)
      (case k5 => assumption)
      (case kT => assumption)
      (case k6 => k_is)
      (case k7 => k_is)
      (case k8 => (dsimp only [aA]; omega))
      (case k9 => exact BindsTo.of_eq rfl)
      (case c5 => decide)
      (case kB => exact locs rfl)
      (case c2 => exact rfl)
      (case c3 => exact rfl)
      (case c4 => exact rfl)
      (case' kk => skip)
      k_whole
      intro L' h' ps FL NL hps l0 lL gL
      (try dsimp only)
      (try k_fold))
  k_with "call builtin:str.translate" => (
      k_here
      k_dflt (
        refine' translate1K ?k1 ?k2 ?k3 ?k4 ?_
        (case k1 => k_asm)
        (case k2 => k_asm)
        (case k3 => k_asm)
        (case k4 => exact rfl)
        k_whole)
      intro t' h' k F' N')
  trivial
theorem get_translate {prog : Program} {w : World} {A : Around} {E : Value → Shared → Prop} {s : Shared} {x : Str} {t : Tok} {pl : Sem Bool} {Q : Value × List Value → Shared → Prop} (h : Q (.builtin "str.translate", [.str x t]) s) : wpAny (model prog w) A (getMethod (.str x t) "translate" pl) Q E s := by
  with_reducible exact GM.of (.str x t) (typeIs_str _ _ _) F.slot_str_translate F.type_str_translate GM.noRef h
theorem lines_C3_1 : True := by
  k_with "getMethod str" => (
      k_here
      k_dflt (refine get_translate ?_))
  trivial
theorem c_escape (w : World) (c : Nat) (t : Tok) : Pure w 3 10 196 [.str ⟨#[c]⟩ t] (fun _ => True) (fun _ _ v => ∃ t', v = .str (escRe c) t') := by
  unfold Pure
  k_fill
  intro mean mg mb dp un fr gd Q E s X T hT hp hdp hun hret
  refine' enter (binds := [(Str.ofString "pattern", .str ⟨#[c]⟩ t)]) ?k3 ?k5 ?kT ?k6 ?k7 ?k8 ?k9 ?kB ?kk ?c2 ?c3 ?c4 ?c5
  walk_at "mine enter"
  refine entL (by first | assumption | with_unfolding_all passes_own) ?_
  intro A1 e1 Qc Ec hQc hEc
  k_steps
  exact leaveP_in (by k_asm) (by k_asm) (by k_mem) (by assumption) fun G T => hret _ _ _ G T ⟨_, rfl⟩

end Mine
end
section
open PySem PySem.W PySem.Spec PySem.Calls PyProof.Rows
set_option maxRecDepth 100000
set_option maxHeartbeats 2000000
namespace Mine
theorem l0_R1 : True := by
  k_with_none
  k_with "q" => (all_goals first | assumption | with_unfolding_all exact rfl)
  k_with "ar" => with_reducible first | assumption | (apply Ar.le0; k_extra "q") | (apply Ar.sz; k_extra "q") | (apply Ar.n51; k_extra "q")
  trivial
theorem slot_sub : Slot "re.Pattern" "sub" "re.Pattern.sub" :=
  .of (owner := "re.Pattern") (n := "sub") (by rw [typeLookup_type, builtinLookup_eq_fast]; kernel_rfl) (by decide +kernel) (by decide +kernel) (by decide +kernel)
    (by first | exact .inl (by decide +kernel) | exact .inr (by decide +kernel)) (by rw [isSubtype_type]; kernel_rfl)
theorem type_sub : typeOf (.builtin "re.Pattern.sub") = pure (.type "method_descriptor") := by show builtinType _ = _; rw [builtinType_eq_fast]; kernel_rfl
theorem entry_sub : entryFor table "re.Pattern.sub" = some Builtin.«re.Pattern.sub» := entryFor_of_tree (by kernel_rfl)
theorem entry_loop : entryFor table "re.Pattern.sub.loop" = some Builtin.«re.Pattern.sub.loop» := entryFor_of_tree (by kernel_rfl)
theorem owner_rp : Manifest.owners.lookup (String.ofList ['n', 'r', 'e', 't', 't', 'a', 'P', '.', 'e', 'r'].reverse) = some Manifest.sig_re_Pattern := by kernel_rfl
theorem args_sub (a b c : Value) : argsOk "re.Pattern.sub" ⟨[a, b, c], []⟩ := by
  unfold argsOk; rw [signature?_of (id := "re.Pattern.sub") (n := ['b', 'u', 's']) (o := ['n', 'r', 'e', 't', 't', 'a', 'P', '.', 'e', 'r']) (by kernel_rfl) owner_rp]; kernel_rfl
theorem plainAttrs_rp : PlainAttrs "re.Pattern" :=
  ⟨⟨"object.__getattribute__", by rw [typeLookup_type, builtinLookup_eq_fast]; kernel_rfl, by decide +kernel⟩, by rw [typeLookup_type, builtinLookup_eq_fast]; kernel_rfl⟩
theorem typeIs_ref {s : Shared} {a : Addr} {o : Obj} {T : String} (e : s.heap.get? a = some o) (c : o.cls = .type T) : s.TypeIs (.ref a) T := ⟨o, e, c⟩
section
variable {prog : Program} {w : World} {A : Around} {E : Value → Shared → Prop} {s : Shared} {c : Nat}
theorem get_sub {pl : Sem Bool} {Q : Value × List Value → Shared → Prop} (X : (hd.heap_1_1 w.params).In s.heap) (h : Q (.builtin "re.Pattern.sub", [.ref 177]) s) : wpAny (model prog w) A (getMethod (.ref 177) "sub" pl) Q E s := by
  have e := X 177 _ rfl
  with_reducible refine getMethod_builtin (v := .ref 177) (T := "re.Pattern") (typeIs_ref e rfl) plainAttrs_rp slot_sub type_sub (fun a q => ?_) h
  cases q
  exact ⟨_, e, rfl⟩
open PySem.Builtin.Re
noncomputable def fails : Nat → Sre.M → Bool
  | 0, _ => false
  | k + 1, m => match (m.runFor reTurnSteps).outcome with
    | some .failed => true
    | some _ => false
    | none => fails k (m.runFor reTurnSteps)
theorem drive_fails {Q : Sre.M → Shared → Prop} (k : Nat) : ∀ (n : Nat) (m : Sre.M), fails k m = true → k ≤ n → (∀ m', m'.outcome = some .failed → Q m' s) → wpAny (model prog w) A (reDrive n m) Q E s := by
  induction k with
  | zero => intro n m h; cases h
  | succ k ih =>
    intro n m h hk hQ
    cases n with
    | zero => exact absurd hk (Nat.not_succ_le_zero k)
    | succ n =>
      cases e : (m.runFor reTurnSteps).outcome with
      | none =>
        have h1 : (match (m.runFor reTurnSteps).outcome with | some .failed => true | some _ => false | none => fails k (m.runFor reTurnSteps)) = true := h
        rw [e] at h1
        unfold reDrive
        dsimp only
        rw [if_neg (by rw [e]; decide)]
        exact wpAny_bind (wpAny_rule (ih n _ h1 (Nat.le_of_succ_le_succ hk) hQ))
      | some o =>
        have h1 : (match (m.runFor reTurnSteps).outcome with | some .failed => true | some _ => false | none => fails k (m.runFor reTurnSteps)) = true := h
        rw [e] at h1
        cases o with
        | failed =>
          unfold reDrive
          dsimp only
          rw [if_pos (by rw [e]; rfl)]
          exact wpAny_pure (hQ _ e)
        | _ => exact absurd h1 Bool.false_ne_true
theorem rules_skip {p : Nat → Bool} {f : Nat → String} {Q : PUnit → Shared → Prop} (hQ : Q ⟨⟩ s) : ∀ l : List Nat, wpAny (model prog w) A (forIn l PUnit.unit fun i _ => do
    if p i = true then rule (f i)
    pure (ForInStep.yield PUnit.unit)) Q E s
  | [] => by rw [List.forIn_nil]; exact wpAny_pure hQ
  | i :: l => by
    rw [List.forIn_cons]
    refine wpAny_bind ?_
    cases hp : p i
    · simp -iota only [Bool.false_eq_true, if_false]
      exact wpAny_pure (rules_skip hQ l)
    · simp -iota only [if_true]
      exact wpAny_bind (wpAny_rule (wpAny_pure (rules_skip hQ l)))
theorem runToEnd_none {m : Sre.M} {Q : Option Sre.M → Shared → Prop} (h : fails 400 m = true) (hQ : Q none s) : wpAny (model prog w) A (reRunToEnd m) Q E s := by
  unfold reRunToEnd
  refine wpAny_bind (drive_fails 400 _ m h (by decide) fun m' e => ?_)
  refine wpAny_bind (rules_skip ?_ _)
  rw [e]
  exact wpAny_pure hQ
noncomputable def subCode : Array Nat := #[14, 14, 4, 1, 1, 9, 0, 64, 0, 1342177280, 0, 0, 0, 0, 0, 17, 0, 13, 11, 9, 0, 64, 0, 1342177280, 0, 0, 0, 0, 0, 17, 1, 1]
noncomputable def noHit (x : Array Nat) : Bool := fails 400 (Sre.forSearch subCode x 1 0 x.size false)
theorem noHit1 : noHit #[42] = true := by decide +kernel
theorem noHit2 : noHit #[63] = true := by decide +kernel
theorem noHit3 : noHit #[91] = true := by decide +kernel
theorem noHit4 : noHit #[33, 47] = true := by decide +kernel
theorem call_fn : typeLookup (.type "function") (Str.ofString "__call__") = pure (some (.builtin "function.__call__")) := by rw [typeLookup_type, builtinLookup_eq_fast]; kernel_rfl
theorem not_bytearray : isSubtype (.type "str") (.type "bytearray") = pure false := by rw [isSubtype_type]; kernel_rfl
noncomputable def subTarget (x : Str) (t : Tok) : ReTarget := { pattern := .ref 177, string := .str x t, code := subCode, text := x.cps, kind := 0, groups := 1, pos := 0, lim := x.cps.size }
theorem target_go {Q : ReTarget → Shared → Prop} {x : Str} {t : Tok} (X : (hd.heap_1_1 w.params).In s.heap) (h : Q (subTarget x t) s) : wpAny (model prog w) A (reWholeTarget (.ref 177) (.str x t)) Q E s := by
  have e := X 177 _ rfl
  have e2 := X 176 _ rfl
  unfold reWholeTarget
  refine wpAny_bind ?_
  unfold fieldsOf
  refine wpAny_bind (wpAny_load e (wpAny_pure ?_))
  refine wpAny_bind (wpAny_of_eq (a := (x.cps, 0)) (by rfl) ?_)
  dsimp only
  refine wpAny_bind (wpAny_of_eq (a := ()) (by rfl) ?_)
  unfold reRawItems seqItems?
  refine wpAny_bind (wpAny_bind (wpAny_bind (wpAny_load e2 (wpAny_pure (wpAny_pure (wpAny_pure ?_))))))
  have key : ∀ r, r = subTarget x t → Q r s := by (intro _ qr1; rcases qr1 with rfl); exact h
  refine key _ ?_
  unfold subTarget
  congr 1
  decide +kernel
theorem notHeld {Q : Unit → Shared → Prop} {x : Str} {t : Tok} {id : String} (h : Q () s) : wpAny (model prog w) A (reNotHeld id (.str x t)) Q E s := by
  unfold reNotHeld
  exact wpAny_bind (wpAny_isInstance (T := "str") (typeIs_str _ _ _) not_bytearray (wpAny_pure h))
theorem sub_none {Q : Value → Shared → Prop} {f : Addr} {o : Obj} {x : Str} {t : Tok} (X : (hd.heap_1_1 w.params).In s.heap) (hf : s.heap.get? f = some o) (hc : o.cls = .type "function")
    (hn : noHit x.cps = true) (hp : 0 < x.cps.size) (hz : x.length ≤ 16)
    (h : ∀ t' h' k, (∀ b o, s.heap.get? b = some o → h'.get? b = some o) → Q (.str x t') { s with heap := h', toks := k }) :
    wpAny (model prog w) A (call (.builtin "re.Pattern.sub") [.ref 177, .ref f, .str x t]) Q E s := by
  have e := X 177 _ rfl
  refine wpAny_call (codeAny_call_builtin slot_sub.plain entry_sub (slot_sub.check _ _ _ _ _ _ _ _ (typeIs_ref e rfl) (args_sub _ _ _) ?_))
  unfold Builtin.«re.Pattern.sub» reSubstitute
  dsimp only
  refine wpAny_bind (wpAny_of_eq (a := [some (.ref f), some (.str x t), none]) (by rfl) ?_)
  refine wpAny_bind (wpAny_pure ?_)
  refine wpAny_bind (wpAny_specialOf (T := "function") (typeIs_ref hf hc) call_fn ?_)
  simp -iota only [Option.isSome_some, if_true]
  refine wpAny_bind (wpAny_pure (wpAny_bind (wpAny_pure ?_)))
  refine wpAny_bind (wpAny_holding (target_go X ?_))
  simp -iota only [beq_self_eq_true, if_true]
  refine wpAny_bind (notHeld ?_)
  refine wpAny_bind (wpAny_newList ?_ (by decide +kernel))
  refine wpAny_pure ⟨plainId_quiet (by decide +kernel) _, ?_⟩
  have up : ∀ b o, s.heap.get? b = some o → (s.heap.push { cls := .type "list", data := .seq ([] : List Value).toArray }).get? b = some o := fun b o e => Heap.get?_push_of_some _ e
  refine codeAny_builtin entry_loop ?_
  rw [Around.under_plainId (by decide +kernel)]
  unfold Builtin.«re.Pattern.sub.loop»
  refine wpAny_bind (target_go (X.keeps up) ?_)
  dsimp only
  rw [if_neg (by decide)]
  refine wpAny_bind ?_
  rw [if_neg (by decide)]
  unfold reNextFound
  refine runToEnd_none hn ?_
  dsimp only
  rw [if_pos (show Int.toNat 0 < (subTarget x t).lim from hp)]
  have ex : (⟨(subTarget x t).text.extract (Int.toNat 0) (subTarget x t).lim⟩ : Str) = x := by
    show (⟨x.cps.extract 0 x.cps.size⟩ : Str) = x
    rw [Array.extract_size]
  have sz : sizeLine = 16777216 := sizeLine_eq
  unfold reSlice
  rw [if_pos (show ((subTarget x t).kind == 0) = true from rfl), ex]
  refine wpAny_bind (wpAny_mkStr ?_ (by omega))
  refine wpAny_bind (wpAny_updateSeq (xs := #[]) (n := 0) (Heap.get?_push_size _ rfl) rfl ?_ (by decide +kernel) (by show 1 ≤ sizeLine + 1; omega))
  refine wpAny_bind ?_
  rw [if_pos (show ((subTarget x t).kind == 0) = true from rfl)]
  refine wpAny_mkStr ?_ (by show (x.cps.extract 0 0).size ≤ _; rw [Array.size_extract]; omega)
  have hl : ((s.heap.push { cls := .type "list", data := .seq ([] : List Value).toArray }).update s.heap.objs.size (Obj.mapSeq fun z => z.push (.str x s.toks))).get? s.heap.objs.size = some { cls := .type "list", data := .seq #[.str x s.toks] 1 } :=
    Heap.get?_update_self _ (Heap.get?_push_size _ rfl) rfl
  have up2 : ∀ b o, s.heap.get? b = some o → ((s.heap.push { cls := .type "list", data := .seq ([] : List Value).toArray }).update s.heap.objs.size (Obj.mapSeq fun z => z.push (.str x s.toks))).get? b = some o := fun b o e =>
    (Heap.get?_update_ne _ _ _ _ (Nat.ne_of_lt (Heap.lt_size e))).trans (Heap.get?_push_of_some _ e)
  unfold seqItems?
  refine wpAny_bind (wpAny_bind (wpAny_load hl (wpAny_pure ?_)))
  rw [if_neg (show ¬ ((some (#[Value.str x s.toks] : Array Value)).getD #[]).isEmpty = true by simp)]
  rw [if_pos (show ((subTarget x t).kind == 0) = true from rfl)]
  refine wpAny_bind (join_list (ys := [x]) ⟨_, hl, rfl, 1, rfl⟩ (.cons _ _ .nil) ?_ fun t' k => ?_)
  · show x.length + 0 + 1 * (x.cps.extract 0 0).size ≤ _
    rw [Array.size_extract]; omega
  simp -iota only [Bool.false_eq_true, if_false]
  refine wpAny_pure ?_
  exact h t' _ k up2
end
end Mine
end
section
open PySem PySem.W PySem.Spec PySem.Calls PyProof.Rows
set_option maxRecDepth 100000
set_option maxHeartbeats 2000000
namespace Mine
theorem l0_B2 : True := by
  k_with_none
  k_with "q" => (all_goals first | assumption | with_unfolding_all exact rfl)
  k_with "ar" => with_reducible first | assumption | (apply Ar.le0; k_extra "q") | (apply Ar.le5; k_extra "q")
  trivial
theorem slot_lga : Slot "list" "__getattribute__" "list.__getattribute__" :=
  .of (owner := "list") (n := "__getattribute__") (by rw [typeLookup_type, builtinLookup_eq_fast]; kernel_rfl) (by decide +kernel) (by decide +kernel) (by decide +kernel)
    (by first | exact .inl (by decide +kernel) | exact .inr (by decide +kernel)) (by rw [isSubtype_type]; kernel_rfl)
theorem entry_lga : entryFor table "list.__getattribute__" = some Builtin.«object.__getattribute__» :=
  entryFor_alias (id' := "object.__getattribute__") (by rw [fastTable_eq_tree]; kernel_rfl) (by decide +kernel) (by decide +kernel) (by rw [fastTable_eq_tree]; kernel_rfl)
theorem slot_mdg : Slot "method_descriptor" "__get__" "method_descriptor.__get__" :=
  .of (owner := "method_descriptor") (n := "__get__") (by rw [typeLookup_type, builtinLookup_eq_fast]; kernel_rfl) (by decide +kernel) (by decide +kernel) (by decide +kernel)
    (by first | exact .inl (by decide +kernel) | exact .inr (by decide +kernel)) (by rw [isSubtype_type]; kernel_rfl)
theorem entry_mdg : entryFor table "method_descriptor.__get__" = some Builtin.«method_descriptor.__get__» := entryFor_of_tree (by kernel_rfl)
theorem args_lga (a b : Value) : argsOk "list.__getattribute__" ⟨[a, b], []⟩ := by
  unfold argsOk; rw [signature?_of (id := "list.__getattribute__") (n := ['_', '_', 'e', 't', 'u', 'b', 'i', 'r', 't', 't', 'a', 't', 'e', 'g', '_', '_']) (o := ['t', 's', 'i', 'l']) (by kernel_rfl) F.owner_list]; kernel_rfl
theorem owner_md : Manifest.owners.lookup (String.ofList ['r', 'o', 't', 'p', 'i', 'r', 'c', 's', 'e', 'd', '_', 'd', 'o', 'h', 't', 'e', 'm'].reverse) = some Manifest.sig_method_descriptor := by kernel_rfl
theorem args_mdg (a b c : Value) : argsOk "method_descriptor.__get__" ⟨[a, b, c], []⟩ := by
  unfold argsOk; rw [signature?_of (id := "method_descriptor.__get__") (n := ['_', '_', 't', 'e', 'g', '_', '_']) (o := ['r', 'o', 't', 'p', 'i', 'r', 'c', 's', 'e', 'd', '_', 'd', 'o', 'h', 't', 'e', 'm']) (by kernel_rfl) owner_md]; kernel_rfl
theorem look_lap : typeLookup (.type "list") "append" = pure (some (.builtin "list.append")) := by rw [typeLookup_type, builtinLookup_eq_fast]; kernel_rfl
theorem type_lap : typeOf (.builtin "list.append") = pure (.type "method_descriptor") := by show builtinType _ = _; rw [builtinType_eq_fast]; kernel_rfl
theorem type_sc : typeOf (.builtin "set.__contains__") = pure (.type "method_descriptor") := by show builtinType _ = _; rw [builtinType_eq_fast]; kernel_rfl
theorem md_get : typeLookup (.type "method_descriptor") "__get__" = pure (some (.builtin "method_descriptor.__get__")) := by rw [typeLookup_type, builtinLookup_eq_fast]; kernel_rfl
theorem md_set : typeLookup (.type "method_descriptor") "__set__" = pure none := by rw [typeLookup_type, builtinLookup_eq_fast]; kernel_rfl
theorem md_del : typeLookup (.type "method_descriptor") "__delete__" = pure none := by rw [typeLookup_type, builtinLookup_eq_fast]; kernel_rfl

section
variable {prog : Program} {w : World} {A : Around} {E : Value → Shared → Prop} {s : Shared}
theorem prog_eq {α : Type} {c c' : Sem α} {Q : α → Shared → Prop} (e : c = c') (h : wpAny (model prog w) A c' Q E s) : wpAny (model prog w) A c Q E s := e ▸ h
theorem bound_go {l : Addr} {o : Obj} {T id : String} {Q : Fin → Shared → Prop} (e : s.heap.get? l = some o) (hc : o.cls = .type T)
    (hn : Manifest.toldItsClass.contains id = false) (ho : ".".intercalate (id.cutAt '.').dropLast = T) (hs : isSubtype (.type T) (.type T) = pure true)
    (h : Q (.done (.ret (.ref s.heap.objs.size))) { s with heap := s.heap.push { cls := .type "builtin_function_or_method", data := .fields #[.builtin id, .ref l] } }) :
    wpAny (model prog w) A (Builtin.«method_descriptor.__get__» ⟨[.builtin id, .ref l, .type T], []⟩) Q E s := by
  unfold Builtin.«method_descriptor.__get__»
  refine wpAny_bind (wpAny_of_eq (a := (.builtin id, some (.ref l), some (.type T))) (by rfl) ?_)
  dsimp only
  rw [if_neg (by rw [hn]; exact Bool.false_ne_true)]
  refine wpAny_bind ?_
  refine wpAny_bind (wpAny_of_eq (by rfl) ?_)
  dsimp only
  rw [ho]
  refine wpAny_bind (wpAny_isInstance (typeIs_ref e hc) hs ?_)
  simp -iota only [Bool.not_true, Bool.false_eq_true, if_false]
  refine wpAny_pure ?_
  refine wpAny_bind ?_
  unfold newFields
  exact wpAny_newObj_type (wpAny_pure h)

theorem get_bound {l : Addr} {o : Obj} {T id ga : String} {name : Str} {Q : Value → Shared → Prop} (e : s.heap.get? l = some o) (hc : o.cls = .type T) (hd : o.dict = none) (hcls : ∀ c, o.data ≠ .cls c)
    (look : typeLookup (.type T) name = pure (some (.builtin id))) (type : typeOf (.builtin id) = pure (.type "method_descriptor"))
    (hn : Manifest.toldItsClass.contains id = false) (ho : ".".intercalate (id.cutAt '.').dropLast = T) (hs : isSubtype (.type T) (.type T) = pure true)
    (sg : Slot T "__getattribute__" ga) (eg : entryFor table ga = some Builtin.«object.__getattribute__») (ag : ∀ a b, argsOk ga ⟨[a, b], []⟩)
    (hname : (["__module__", "__name__", "__qualname__", "__doc__", "__annotations__"] : List Str).contains name = false)
    (h : ∀ k, Q (.ref s.heap.objs.size) { s with heap := s.heap.push { cls := .type "builtin_function_or_method", data := .fields #[.builtin id, .ref l] }, toks := k }) :
    wpAny (model prog w) A (getAttr (.ref l) name true) Q E s := by
  unfold getAttr
  refine wpAny_bind (wpAny_mkText ?_)
  unfold getAttrBy
  refine wpAny_holding (wpAny_bind (wpAny_typeOf (typeIs_ref e hc) (wpAny_bind (wpAny_of_eq sg.lookup ?_))))
  simp -iota only [onTheHeap, Bool.false_and, Bool.false_eq_true, if_false]
  unfold getAttrByItsOwn
  refine wpAny_bind (wpAny_of_eq (a := none) (by rfl) ?_)
  refine wpAny_bind (wpAny_attempt (wpAny_holding ?_))
  unfold callGetattribute
  simp -iota only [onTheHeap, Bool.and_false, Bool.false_eq_true, if_false]
  unfold boundAndCalled
  refine wpAny_bind (wpAny_of_eq (sg.bind _) ?_)
  dsimp only [List.singleton_append]
  have e1 : ({ s with toks := s.toks + 1 } : Shared).heap.get? l = some o := e
  have hm : ({ s with toks := s.toks + 1 } : Shared).TypeIs (.builtin id) "method_descriptor" := type
  refine wpAny_call_entry sg (typeIs_ref e1 hc) eg ?_ (ag _ _)
  unfold Builtin.«object.__getattribute__»
  refine wpAny_bind (wpAny_of_eq (a := (.ref l, [.str name s.toks])) (by rfl) ?_)
  dsimp only
  refine wpAny_bind (wpAny_of_eq (a := name) (by rfl) ?_)
  refine wpAny_bind (wpAny_typeOf (typeIs_ref e1 hc) ?_)
  refine wpAny_bind ?_
  unfold Builtin.ObjectAttr.find
  refine wpAny_bind (wpAny_of_eq look (wpAny_bind ?_))
  refine wpAny_specialOf hm md_get (wpAny_bind ?_)
  refine wpAny_bind ?_
  unfold Builtin.ObjectAttr.takesStores
  refine wpAny_bind (wpAny_specialOf hm md_set ?_)
  simp -iota only [Option.isSome_none, Bool.false_eq_true, if_false]
  refine wpAny_bind (wpAny_specialOf hm md_del (wpAny_pure ?_))
  simp -iota only [Option.isSome_none, Bool.false_eq_true, if_false]
  refine wpAny_pure ?_
  dsimp only
  unfold Builtin.ObjectAttr.ownThenClass
  refine wpAny_bind ?_
  unfold Builtin.ObjectAttr.inOwnDict
  refine wpAny_bind ?_
  unfold Builtin.ObjectAttr.ownDict
  refine wpAny_bind (wpAny_loadPart e1 ?_)
  refine prog_eq (c' := instanceDict l false) (by revert hcls; generalize o.data = dd; intro hcls; cases dd <;> first | rfl | exact absurd rfl (hcls _)) ?_
  unfold instanceDict
  refine wpAny_bind (wpAny_loadPart e1 ?_)
  rw [hc]
  dsimp only
  rw [hd]
  simp -iota only [Bool.not_false, Bool.true_or, if_true]
  refine wpAny_pure ?_
  refine wpAny_pure ?_
  dsimp only
  refine wpAny_bind ?_
  unfold Builtin.ObjectAttr.copiedAttributeGuard
  rw [hname]
  simp -iota only [Bool.false_eq_true, if_false]
  refine wpAny_pure ?_
  refine wpAny_bind (wpAny_rule (wpAny_pure ?_))
  dsimp only
  unfold Builtin.ObjectAttr.bindTo
  dsimp only
  refine wpAny_bind (wpAny_holding ?_)
  refine wpAny_call_entry slot_mdg hm entry_mdg ?_ (args_mdg _ _ _)
  refine bound_go e1 hc hn ho hs ?_
  refine ⟨_, rfl, ?_⟩
  refine wpAny_pure ⟨_, rfl, ?_⟩
  exact wpAny_pure (h _)

theorem get_append {l : Addr} {vs : Array Value} {n : Nat} {Q : Value → Shared → Prop} (e : s.heap.get? l = some (listOf vs n))
    (h : ∀ k, Q (.ref s.heap.objs.size) { s with heap := s.heap.push { cls := .type "builtin_function_or_method", data := .fields #[.builtin "list.append", .ref l] }, toks := k }) :
    wpAny (model prog w) A (getAttr (.ref l) "append" true) Q E s :=
  get_bound e rfl rfl (fun _ q => by cases q) look_lap type_lap (by decide +kernel) (by decide +kernel) sub_list_self slot_lga entry_lga args_lga (by decide +kernel) h

theorem list_not_module : isSubtype (.type "list") (.type "module") = pure false := by rw [isSubtype_type]; kernel_rfl
theorem list_not_type : isSubtype (.type "list") (.type "type") = pure false := by rw [isSubtype_type]; kernel_rfl
theorem kind_lap : builtinKind "list.append" = some .method := by decide +kernel
theorem va_lap : Manifest.varargsMethods.contains "list.append" = false := by decide +kernel
noncomputable def lapSig : Manifest.Signature := (Manifest.sig_list.lookup "append").get (by decide +kernel)
theorem sig_lap : Manifest.signature? "list.append" = some lapSig := by
  rw [signature?_of (id := "list.append") (n := ['d', 'n', 'e', 'p', 'p', 'a']) (o := ['t', 's', 'i', 'l']) (by kernel_rfl) F.owner_list]; kernel_rfl
theorem chk_lap (a b : Value) : Bind.checkArgs "list.append" { lapSig with full := toString (Bind.lastOf "list") ++ toString "." ++ toString (Bind.lastOf "list.append") } ⟨[a, b], []⟩ = pure () := by kernel_rfl
theorem call_append {b l : Addr} {vs : Array Value} {n : Nat} {v : Value} {Q : Value → Shared → Prop} (eb : s.heap.get? b = some { cls := .type "builtin_function_or_method", data := .fields #[.builtin "list.append", .ref l] })
    (e : s.heap.get? l = some (listOf vs n)) (hsz : vs.size ≤ sizeLine)
    (h : Q .none { s with heap := s.heap.update l (Obj.mapSeq fun z => z.push v) }) :
    wpAny (model prog w) A (call (.ref b) [v]) Q E s := by
  refine wpAny_call (codeAny_of_tree ?_)
  show wpAny _ A.in1 (callAny (.ref b) _) _ _ s
  simp -iota only [callAny]
  refine wpAny_bind (wpAny_load eb ?_)
  dsimp only
  simp -iota only [show (Value.type "builtin_function_or_method" == Value.type "method") = false by decide, beq_self_eq_true, Bool.true_or, Bool.or_true, if_true]
  show wpAny _ _ (checkBoundCall "list.append" ⟨[.ref l, v], []⟩ >>= _) _ _ s
  refine wpAny_bind ?_
  have hT : s.TypeIs (.ref l) "list" := typeIs_ref e rfl
  unfold checkBoundCall
  rw [sig_lap]
  dsimp only
  rw [kind_lap]
  dsimp only
  rw [if_neg (by decide)]
  refine wpAny_bind (wpAny_isInstance hT list_not_module ?_)
  rw [va_lap]
  simp -iota only [Bool.or_self, Bool.false_eq_true, if_false]
  refine wpAny_bind ?_
  unfold isType
  refine wpAny_bind (wpAny_loadPart e (wpAny_pure ?_))
  dsimp only
  simp -iota only [Bool.false_eq_true, if_false]
  refine wpAny_bind (wpAny_typeOf hT ?_)
  dsimp only
  refine wpAny_of_eq (chk_lap _ _) ?_
  refine wpAny_pure ⟨plainId_quiet (by decide +kernel) _, ?_⟩
  refine codeAny_builtin F.entry_list_append ?_
  rw [Around.under_plainId (by decide +kernel)]
  unfold Builtin.«list.append»
  refine wpAny_bind (wpAny_of_eq (a := (.ref l, v)) (by rfl) ?_)
  dsimp only
  refine wpAny_bind ?_
  unfold Builtin.List.listUpdate
  exact wpAny_updateSeq e rfl (wpAny_pure h) hsz (by show (vs.push v).size ≤ _; rw [Array.size_push]; omega)

theorem call_appendK {h₀ : Heap} {L : Addr} {m : Str → Option Value} {news news' : List (Addr × Obj)} {b l : Addr} {vs : Array Value} {n : Nat} {v : Value} {Q : Value → Shared → Prop} (F : Fr h₀ L s.heap m) (N : News h₀ L s.heap news)
    (hb : (b, ({ cls := .type "builtin_function_or_method", data := .fields #[.builtin "list.append", .ref l] } : Obj)) ∈ news) (U : Upd l (listOf vs n) (listOf (vs.push v) (n + 1)) news news')
    (hsz : vs.size ≤ sizeLine) (h : ∀ h', Fr h₀ L h' m → News h₀ L h' news' → Q .none { s with heap := h' }) : wpAny (model prog w) A (call (.ref b) [v]) Q E s := by
  (refine ex2E U.split fun pre post qq2 => ?_; refine and4E qq2 fun qq20 qq21 x y => ?_; try clear qq2; rcases qq20 with rfl; rcases qq21 with rfl)
  have z := N (l, listOf vs n) (List.mem_append.mpr (.inr (.head _)))
  refine call_append (N _ hb).1 z.1 hsz ?_
  have hs : Heap.SameBut l s.heap (s.heap.update l (Obj.mapSeq fun z => z.push v)) := Heap.SameBut.update ..
  have ho' : (s.heap.update l (Obj.mapSeq fun z => z.push v)).get? l = some (listOf (vs.push v) (n + 1)) := by
    rw [Heap.get?_update_self _ z.1 (by rw [mapSeq_push]; rfl), mapSeq_push]
  exact h _ (F.change hs z.2.1 z.2.2) (news_set N x y hs ho')

theorem get_appendK {h₀ : Heap} {L : Addr} {m : Str → Option Value} {news : List (Addr × Obj)} {l : Addr} {vs : Array Value} {n : Nat} {Q : Value → Shared → Prop} (F : Fr h₀ L s.heap m) (N : News h₀ L s.heap news) (hl : (l, listOf vs n) ∈ news)
    (h : ∀ b h' k, Fr h₀ L h' m → News h₀ L h' ((b, ({ cls := .type "builtin_function_or_method", data := .fields #[.builtin "list.append", .ref l] } : Obj)) :: news) → (∀ p ∈ news, p.1 < b) → Q (.ref b) { s with heap := h', toks := k }) :
    wpAny (model prog w) A (getAttr (.ref l) "append" true) Q E s := by
  refine get_append (N _ hl).1 fun k => h s.heap.objs.size _ k (F.keeps fun _ _ e => Heap.get?_push_of_some _ e) (fun p hp => ?_) fun p hp => Heap.lt_size (N p hp).1
  rcases List.mem_cons.mp hp with rfl | hp
  · exact ⟨Heap.get?_push_size _ rfl, Nat.ne_of_gt F.ns.lt, next_is_new F⟩
  · exact ⟨Heap.get?_push_of_some _ (N p hp).1, (N p hp).2⟩

noncomputable def BndP (b l : Addr) (h : Heap) : Prop := h.get? b = some { cls := .type "builtin_function_or_method", data := .fields #[.builtin "list.append", .ref l] }
theorem callWith_B {env : Env} {pos : Pos} {first : List Value} {b l : Addr} {e : Expr} {rest : List Expr} {h₀ : Heap} {L : Addr} {news : List (Addr × Obj)} {Q : Value → Shared → Prop} (_N : News h₀ L s.heap news)
    (_q : (b, ({ cls := .type "builtin_function_or_method", data := .fields #[.builtin "list.append", .ref l] } : Obj)) ∈ news)
    (h : wpAny (model prog w) A (spliced (backTo pos (starEach (e :: rest) env))) (fun vs s₁ => BndP b l s₁.heap ∧ wpAny (model prog w) A (call (.ref b) (first ++ vs)) Q E s₁) E s)
    (he : starEach (e :: rest) env = (false, eval e env) :: starEach rest env := by rfl) (hplain : (backTo pos (starEach rest env)).any (·.1) = false := by rfl) :
    wpAny (model prog w) A (callWith pos (.ref b) first (backTo pos (starEach (e :: rest) env)) []) Q E s := by
  rw [he] at h ⊢
  exact callWith_of (P := BndP b l) (by show ((false || (backTo pos (starEach rest env)).any (·.1)) || false) = false; rw [hplain]; rfl) (fun h X => ⟨.machine, .inr (.inl rfl), (Looks.ld (part := none) X).andThen .now⟩) (evalArgs_plain h)
theorem bndP {b l : Addr} {h₀ h : Heap} {L : Addr} {news : List (Addr × Obj)} {P : Prop} (N : News h₀ L h news) (q : (b, ({ cls := .type "builtin_function_or_method", data := .fields #[.builtin "list.append", .ref l] } : Obj)) ∈ news) (hp : P) : BndP b l h ∧ P := ⟨(N _ q).1, hp⟩
end
end Mine
end
section
open PySem PySem.W PySem.Spec PySem.Calls PyProof.Rows
set_option maxRecDepth 100000
set_option maxHeartbeats 2000000
namespace Mine
theorem l0_D4 : True := by
  k_with_none
  k_with "q" => (all_goals first | assumption | with_unfolding_all exact rfl)
  k_with "ar" => with_reducible first | assumption | (apply Ar.s3; k_extra "q") | (apply Ar.i21; k_extra "q") | (apply Ar.i32; k_extra "q")
  trivial
inductive PTok
  | lit (c : Nat)
  | star
  | br (x : List Nat)
noncomputable def PTok.text : PTok → List Nat
  | .lit c => [c]
  | .star => [42]
  | .br x => 91 :: x ++ [93]
noncomputable def tx (l : List PTok) : List Nat := l.flatMap PTok.text
noncomputable def brRe (x : List Nat) : Str := if x = [91] then ⟨#[91, 92, 91, 93]⟩ else if x = [33, 47] then ⟨#[91, 94, 47, 93]⟩ else ⟨#[91] ++ x.toArray ++ #[93]⟩
noncomputable def PTok.part : PTok → Option Str
  | .lit c => some (escRe c)
  | .star => none
  | .br x => some (brRe x)
noncomputable def PTok.ok : PTok → Prop
  | .lit c => c ≠ 42 ∧ c ≠ 63 ∧ c ≠ 91
  | .star => True
  | .br x => x = [42] ∨ x = [63] ∨ x = [91] ∨ x = [33, 47]
noncomputable def apart : List PTok → Prop
  | .star :: .star :: _ => False
  | _ :: r => apart r
  | [] => True
noncomputable def PartIs (S : Addr) : Option Str → Value → Prop
  | none, v => v = .ref S
  | some x, v => ∃ t, v = .str x t
noncomputable abbrev bndObj (l : Addr) : Obj := { cls := .type "builtin_function_or_method", data := .fields #[.builtin "list.append", .ref l] }
theorem Are.unsnoc {β : Type} {R : β → Value → Prop} {b : β} {vs : List Value} {bs : List β} (h : Are R vs (bs ++ [b])) : ∃ vs' v, vs = vs' ++ [v] ∧ Are R vs' bs ∧ R b v := by
  induction bs generalizing vs with
  | nil =>
    cases h with
    | cons a r =>
      cases r
      exact ⟨[], _, rfl, .nil, a⟩
  | cons c bs ih =>
    cases h with
    | cons a r =>
      (refine ex2E (ih r) fun vs' v qq2 => ?_; refine and3E qq2 fun e q z => ?_; try clear qq2)
      exact ⟨_ :: vs', v, by rw [e]; rfl, .cons a q, z⟩
theorem apart_mid {l : List PTok} {p : PTok} {r : List PTok} (h : apart (l ++ p :: PTok.star :: r)) : ∃ y, p.part = some y := by
  induction l with
  | nil =>
    cases p with
    | star => exact h.elim
    | lit => exact ⟨_, rfl⟩
    | br => exact ⟨_, rfl⟩
  | cons k l ih =>
    exact ih (by cases l <;> cases k <;> first | exact h | (rename_i a b; cases a <;> first | exact h.elim | exact h) | (cases p <;> first | exact h.elim | exact h))
theorem newsTail {h₀ h : Heap} {L : Addr} {p : Addr × Obj} {l : List (Addr × Obj)} (N : News h₀ L h (p :: l)) : News h₀ L h l := fun q hq => N q (.tail _ hq)
theorem gh_none {h : Heap} {a : Addr} (e : (gh h).get? a = none) (n : a ≠ 198) : h.get? a = none := by
  cases q : h.get? a with
  | none => rfl
  | some o => rw [gh_ne q n] at e; cases e
structure TS where
  done : List PTok
  todo : List PTok
  vs : List Value
  k : Nat
  ti : Tok
  ps : Array Value
noncomputable def trStored : List Str := [Str.ofString "c", Str.ofString "i", Str.ofString "j", Str.ofString "stuff", Str.ofString "chunks", Str.ofString "k", Str.ofString "chunk"]
noncomputable abbrev trLed (b l : Addr) (c : TS) : List (Addr × Obj) := [(b, bndObj l), (l, listOf c.vs.toArray c.k), (198, tabObj c.ps)]
noncomputable abbrev trPs (c : TS) : List (Str × Value) := [(Str.ofString "i", .int ((tx c.done).length : Int) c.ti)]
noncomputable abbrev trFacts (_c : TS) : Prop := True
noncomputable def trP (S : Addr) (toks : List PTok) (c : TS) : Prop := c.done ++ c.todo = toks ∧ Are (PartIs S) c.vs (c.done.map PTok.part) ∧ TabOk c.ps
noncomputable abbrev trMu (c : TS) : Nat := c.todo.length
section
variable {prog : Program} {w : World} {A : Around} {E : Value → Shared → Prop} {Q : Flow → Shared → Prop} {s : Shared} {env : Env} {h₀ : Heap} {L S : Addr} {toks : List PTok}
noncomputable abbrev TrPost (h₀ : Heap) (L : Addr) (s : Shared) (b l S : Addr) (toks : List PTok) (m₀ : Str → Option Value) (Q : Flow → Shared → Prop) (c : TS) : Flow → Shared → Prop :=
  KswPost h₀ L s (trLed b l) trPs trFacts trStored m₀ (trP S toks) trMu Q c
theorem trans_while {test : Expr} {body : List Stmt} {pos : Pos} {m₀ : Str → Option Value} {b l D : Addr} {oD : Obj} {ps : Array Value} {t : Tok}
    (F : Fr h₀ L s.heap m₀) (N : News h₀ L s.heap [(D, oD), (b, bndObj l), (l, listOf #[] 0), (198, tabObj ps)]) (hi : m₀ (Str.ofString "i") = some (.int 0 t)) (hps : TabOk ps)
    (turn : ∀ (c : TS) (u : Str → Option Value) h tk, trP S toks c → Fr h₀ L h (kstB (fun z => if trStored.contains z then u z else m₀ z) (trPs c)) → News h₀ L h (trLed b l c) →
      wpAny (model prog w) A (isTrue test env (eval test env)) (fun bb s₂ =>
        if bb = true then wpAny (model prog w) A (execs body env) (TrPost h₀ L s b l S toks m₀ Q c) E s₂ else Q .next s₂) E { s with heap := h, toks := tk })
    (hE : PassesOwn (model prog w) A env E := by passes_own) :
    wpAny (model prog w) A (exec (.While test body [] pos) env) Q E s := by
  refine ksw_while (trLed b l) trPs trFacts trStored (trP S toks) trMu ⟨[], toks, [], 0, t, ps⟩ F (fun p hp => N p (List.mem_cons_of_mem _ hp)) trivial ?_ ⟨rfl, .nil, hps⟩ (fun c u h tk _ hp F N => turn c u h tk hp F N) hE
  intro p hp
  cases hp with
  | head => exact hi
  | tail _ hp => cases hp

theorem tr_next {m₀ m' : Str → Option Value} {b l : Addr} {c : TS} {v : Value} {tok : PTok} {rest : List PTok} {h' : Heap} {tk : Nat} {ps' : Array Value} {j : Int} {ti' : Tok}
    (F : Fr h₀ L h' m') (N : News h₀ L h' [(b, bndObj l), (l, listOf (c.vs.toArray.push v) (c.k + 1)), (198, tabObj ps')]) (hP : trP S toks c) (ht : c.todo = tok :: rest)
    (hm : m' (Str.ofString "i") = some (.int j ti')) (hj : j = ((tx c.done).length : Int) + (tok.text.length : Int)) (hs : ∀ z, (∀ p ∈ [(Str.ofString "i", Value.none)], z ≠ p.1) → trStored.contains z = false → m' z = m₀ z)
    (hv : PartIs S tok.part v) (ok : TabOk ps') : TrPost h₀ L s b l S toks m₀ Q c .next { s with heap := h', toks := tk } := by
  obtain ⟨done, todo, vs, k, ti, ps⟩ := c
  dsimp only at ht N hj
  subst ht
  (refine and3E hP fun h1 h2 h3 => ?_; try clear hP)
  dsimp only at h1 h2
  refine ksw_end ⟨done ++ [tok], rest, vs ++ [v], k + 1, ti', ps'⟩ F N (fun p hp => ?_) trivial (fun p hp => ?_) (fun z hz hc => hs z (fun p hp => ?_) hc) ⟨?_, ?_, ok⟩ (Nat.lt_succ_self _)
  · rw [List.push_toArray]; exact hp
  · cases hp with
    | head =>
      show m' (Str.ofString "i") = some (.int ((tx (done ++ [tok])).length : Int) ti')
      rw [hm, hj]
      simp [tx]
    | tail _ hp => cases hp
  · cases hp with
    | head => exact hz (Str.ofString "i", .int ((tx (done ++ [tok])).length : Int) ti') (.head _)
    | tail _ hp => cases hp
  · show (done ++ [tok]) ++ rest = toks
    rw [← h1]; simp
  · show Are (PartIs S) (vs ++ [v]) ((done ++ [tok]).map PTok.part)
    rw [List.map_append]
    exact h2.append (.cons hv .nil)

theorem tx_len : ∀ l : List PTok, l.length ≤ (tx l).length
  | [] => Nat.le_refl _
  | p :: l => by
    have := tx_len l
    have h1 : 1 ≤ p.text.length := by cases p <;> simp [PTok.text]
    simp only [tx, List.flatMap_cons, List.length_append, List.length_cons] at this ⊢
    omega
theorem truthy_snoc {l : Addr} {vs : List Value} {v : Value} {Q : Bool → Shared → Prop} (hl : s.heap.IsList l (vs ++ [v]).toArray) (hsz : vs.length ≤ 1000) (h : ∀ k, Q true { s with toks := k }) :
    wpAny (model prog w) A (truthy (.ref l)) Q E s := by
  refine wpAny_truthy_list hl (by simp; omega) ?_
  have : (!(vs ++ [v]).toArray.isEmpty) = true := by cases vs <;> rfl
  rw [this]; exact h _
theorem last_snoc {l : Addr} {vs : List Value} {v : Value} {value slice : Expr} {u : Tok} {Q : Value → Shared → Prop} (hl : s.heap.IsList l (vs ++ [v]).toArray) (hsz : vs.length ≤ 1000) (h : Q v s)
    (hs : subscripted slice false (.ref l) (.int (-1) u) = operate [.ref l, .int (-1) u] (getItem (.ref l) (.int (-1) u)) := by with_unfolding_all rfl) :
    wpAny (model prog w) A (subscriptTail value slice (.ref l) (.int (-1) u)) Q E s := by
  refine tail_any hl.typeIs slot_list_getitem.lookup (wpAny_getItem_list_neg hl (by decide) (by simp; omega) (by decide) ?_ h) hs
  have : ((-1 : Int) + ((vs ++ [v]).toArray.size : Int)).toNat = vs.length := by simp; omega
  rw [this]; simp
end
end Mine
end
section
open PySem PySem.W PySem.Spec PySem.Calls PyProof.Rows
set_option maxRecDepth 100000
set_option maxHeartbeats 2000000
namespace Mine
theorem l0_L1 : True := by
  k_with_none
  trivial
theorem codeHd_of {w : World} {h : Heap} (X : (hd.heap_1_1 w.params).In h) : CodeHd h 202 198 :=
  ⟨_, _, _, _, _, _, _, _, _, X 202 _ rfl, rfl, rfl, rfl, rfl, rfl, rfl, rfl, rfl, by decide⟩

theorem updF_last {o : Obj} {d : Addr} : ∀ {news : List (Addr × Obj)}, (∀ p ∈ news, p.1 ≠ d) → UpdF d o (news ++ [(d, o)]) (fun o' => news ++ [(d, o')])
  | [], _ => .head fun _ h => (nomatch h)
  | p :: r, h => .tail (h p (.head _)) (updF_last fun q hq => h q (.tail _ hq))
section
variable {prog : Program} {w : World} {A : Around} {E : Value → Shared → Prop} {s : Shared} {h₀ : Heap} {L : Addr} {m : Str → Option Value} {news : List (Addr × Obj)} {mean : ExcName → Option Value} {mg mb : Str → Option Value}
  {cn : Str} {cs : Scope} {ps : Array Value} {params : Arguments} {body : Expr} {scope : Scope}
theorem lam_go {Q : Value → Shared → Prop} (F : Fr h₀ L s.heap m) (X : (hd.heap_1_1 w.params).In h₀) (N : News h₀ L s.heap (news ++ [(198, tabObj ps)])) (hne : ∀ p ∈ news, p.1 ≠ 198) (ok : TabOk ps) (T : Top topProg LO mean mg mb h₀)
    (hcl : closureFor scope (envX cn cs L 203 (.ref 202) []) = pure []) (hdef : defaultsOf params (envX cn cs L 203 (.ref 202) []) = ([], []))
    (h : ∀ f o h' tk ps', Fr h₀ L h' m → News h₀ L h' ((f, o) :: (news ++ [(198, tabObj ps')])) → o.cls = .type "function" → TabOk ps' → (∀ q ∈ news, q.1 < f) → 198 < f → Q (.ref f) { s with heap := h', toks := tk }) :
    wpAny (model prog w) A (eval (.Lambda params body scope lamPos) (envX cn cs L 203 (.ref 202) [])) Q E s := by
  refine kla_eval hdef ?_
  cases hc : codeAmong lamPos ps.toList with
  | none =>
    refine kla_nest F N T (codeHd_of X) rfl (updF_last hne) ok.1 hc hcl fun f c' oc vs t ctv h' tk F' N' _ _ l1 l2 => ?_
    refine h f _ h' tk (ps ++ #[rawInt lamPos.line, rawInt lamPos.col, .ref c']) F' (List.forall_mem_cons.mpr ⟨N' _ (.head _), fun p hp => N' _ (.tail _ (.tail _ hp))⟩) rfl ⟨?_, fun c e => ?_⟩ (fun q hq => Nat.lt_trans (l1 q (List.mem_append_left _ hq)) l2) (Nat.lt_trans (l1 (198, tabObj ps) (List.mem_append_right _ (.head _))) l2)
    · rw [Array.toList_append]; exact TriplesOk_snoc _ _ _ _ ok.1
    · rw [Array.toList_append] at e
      have := codeAmong_snoc (c := .ref c') ps.toList ok.1 hc
      rw [show (#[rawInt lamPos.line, rawInt lamPos.col, Value.ref c'] : Array Value).toList = [rawInt lamPos.line, rawInt lamPos.col, .ref c'] from rfl, this] at e
      cases e
      exact ⟨_, rfl⟩
  | some c =>
    (refine ex1E (ok.2 c hc) fun a qq1 => ?_; rcases qq1 with rfl)
    refine kla_hit F N T (codeHd_of X) rfl (List.mem_append_right _ (.head _)) ok.1 hc hcl fun f ctv h' tk F' N' l1 => ?_
    exact h f _ h' tk ps F' N' rfl ok (fun q hq => l1 q (List.mem_append_left _ hq)) (l1 (198, tabObj ps) (List.mem_append_right _ (.head _)))
end
end Mine
end
section
open PySem PySem.W PySem.Spec PySem.Calls PyProof.Rows
set_option maxRecDepth 100000 
set_option maxHeartbeats 4000000 
namespace Mine


theorem br_two {y : List Nat} (hy : y = [42] ∨ y = [63] ∨ y = [91] ∨ y = [33, 47]) : (∃ c, y = [c] ∧ (c = 42 ∨ c = 63 ∨ c = 91)) ∨ y = [33, 47] := by
  rcases hy with rfl | rfl | rfl | rfl
  · exact .inl ⟨_, rfl, .inl rfl⟩
  · exact .inl ⟨_, rfl, .inr (.inl rfl)⟩
  · exact .inl ⟨_, rfl, .inr (.inr rfl)⟩
  · exact .inr rfl
theorem br_facts {c : Nat} (hc : c = 42 ∨ c = 63 ∨ c = 91) : c ≠ 33 ∧ c ≠ 93 ∧ (!(!(Builtin.Str.occurrences ⟨[c].toArray⟩ (Str.ofString "-") 0 (⟨[c].toArray⟩ : Str).length 1).isEmpty)) = true ∧
    (Builtin.Str.occurrences ⟨[c].toArray⟩ (Str.ofString "\\") 0 (⟨[c].toArray⟩ : Str).length ((⟨[c].toArray⟩ : Str).length + 1)).isEmpty = true ∧ noHit (⟨[c].toArray⟩ : Str).cps = true := by
  rcases hc with rfl | rfl | rfl <;> decide +kernel
theorem br_yes {c : Nat} {S : Addr} {t : Tok} (hc : c = 42 ∨ c = 63 ∨ c = 91) (h : ([Str.ofString "^", Str.ofString "["].any fun x => x == Txt.item ⟨#[c]⟩ 0) = true) :
    PartIs S (PTok.br [c]).part (.str (Str.empty ++ Str.ofString "[" ++ (Str.ofString "\\" ++ ⟨#[c]⟩) ++ Str.ofString "]") t) := by
  rcases hc with rfl | rfl | rfl
  · exact absurd h (by decide +kernel)
  · exact absurd h (by decide +kernel)
  · exact ⟨_, congrArg (fun z => Value.str z _) (by decide +kernel)⟩
theorem br_no {c : Nat} {S : Addr} {t : Tok} (hc : c = 42 ∨ c = 63 ∨ c = 91) (h : ([Str.ofString "^", Str.ofString "["].any fun x => x == Txt.item ⟨#[c]⟩ 0) = false) :
    PartIs S (PTok.br [c]).part (.str (Str.empty ++ Str.ofString "[" ++ ⟨#[c]⟩ ++ Str.ofString "]") t) := by
  rcases hc with rfl | rfl | rfl
  · exact ⟨_, congrArg (fun z => Value.str z _) (by decide +kernel)⟩
  · exact ⟨_, congrArg (fun z => Value.str z _) (by decide +kernel)⟩
  · exact absurd h (by decide +kernel)
theorem lines_C4_0 : True := by
  k_with_none
  k_with "q" => (all_goals first | assumption | with_unfolding_all exact rfl)
  k_with "ar" => with_reducible first | assumption | (apply Ar.le0; k_extra "q") | (apply Ar.rm2; k_extra "q") | (apply Ar.sz; k_extra "q") | (apply Ar.sn; k_extra "q") | (apply Ar.snp; k_extra "q") | (apply Ar.rl0; k_extra "q") | (apply Ar.nel; k_extra "q") | (apply Ar.neg_; k_extra "q") | (apply Ar.pg0; k_extra "q") | (apply Ar.pg1e; k_extra "q") | (apply Ar.pg2; k_extra "q") | (apply Ar.i1; k_extra "q") | (apply Ar.i2; k_extra "q") | (apply Ar.i5; k_extra "q") | (apply Ar.i9; k_extra "q") | (apply Ar.i9q; k_extra "q") | (apply Ar.i10q; k_extra "q") | (apply Ar.i18; k_extra "q") | (apply Ar.i16; k_extra "q") | (apply Ar.i12; k_extra "q")
  k_with "execs cons Assign" => first
    | (k_here; (fail_if_success (fail_if_success (with_reducible refine sh_bin ?_))); k_dflt (refine asg_bin (by k_asm) (by k_asm) (by rfl) (by rfl) (by rfl) ?_); k_whole; intro t' m1 h' tk F' N'; (try k_sweep))
    | (k_here; (fail_if_success (fail_if_success (with_reducible refine sh_sub ?_))); k_dflt (refine asg_item (by k_asm) (by k_asm) (by rfl) (by rfl) (by rfl) (by intro _ _; with_unfolding_all rfl) (by walk_at "mine at") (by rfl) ?_); k_whole; intro t' m1 h' tk F' N'; (try k_sweep))
    | (k_here; (fail_if_success (fail_if_success (with_reducible refine sh_asg ?_))); k_dflt (refine asg_int (by k_asm) (by k_asm) (by rfl) (by rfl) (by rfl) (by rfl) ?_); k_whole; intro t' m1 h' tk F' N'; (try k_sweep))
    | (k_here; (fail_if_success (fail_if_success (with_reducible refine sh_lit ?_))); k_dflt (refine asg_int (by k_asm) (by k_asm) (by rfl) (by rfl) (by rfl) (by rfl) ?_); k_whole; intro t' m1 h' tk F' N'; (try k_sweep))
  k_with "execs cons AugAssign" => (k_here; (fail_if_success (fail_if_success (with_reducible refine sh_aug ?_))); k_dflt (refine aug_int (by k_asm) (by k_asm) (by rfl) (by rfl) (by rfl) (by rfl) ?_); k_whole; intro t' m1 h' tk F' N'; (try k_sweep))
  k_with "isTrue Compare Name" => first
    | (k_here; (fail_if_success (fail_if_success (with_reducible refine sh_test ?_))); k_dflt (refine test_t (by k_asm) (by rfl) (by rfl) (by rfl) (by walk_at "mine yes") ?_); k_whole; intro tk)
    | (k_here; (fail_if_success (fail_if_success (with_reducible refine sh_test ?_))); k_dflt (refine test_f (by k_asm) (by rfl) (by rfl) (by rfl) (by walk_at "mine no") ?_); k_whole; intro tk)
  k_with "isTrue Compare Subscript" => first
    | (k_here; (fail_if_success (fail_if_success (with_reducible refine sh_item ?_))); k_dflt (refine item_t (by k_asm) (by rfl) (by rfl) (by rfl) (by intro _ _; with_unfolding_all rfl) (by walk_at "mine at") (by rfl) (by walk_at "mine yes") ?_); k_whole; intro tk)
    | (k_here; (fail_if_success (fail_if_success (with_reducible refine sh_item ?_))); k_dflt (refine item_f (by k_asm) (by rfl) (by rfl) (by rfl) (by intro _ _; with_unfolding_all rfl) (by walk_at "mine at") (by rfl) (by walk_at "mine no") ?_); k_whole; intro tk)
  k_with "mine at" => first
    | exact At.of (k := 0) (by assumption) rfl (by omega) (by omega)
    | exact At.of (k := 1) (by assumption) rfl (by omega) (by omega)
    | exact At.of (k := 2) (by assumption) rfl (by omega) (by omega)
    | exact At.of (k := 3) (by assumption) rfl (by omega) (by omega)
  k_with "mine yes" => first
    | exact decide_eq_true (by omega)
    | exact int_yes (by omega)
    | exact int_ney (by omega)
    | exact str_ney (by walk_at "mine sgn")
    | decide +kernel
  k_with "mine no" => first
    | exact decide_eq_false (by omega)
    | exact int_no (by omega)
    | exact int_nen (by omega)
    | exact (by walk_at "mine sgn")
    | decide +kernel
  k_with "mine sgn" => first
    | exact one_ne (d := 42) (by decide +kernel) (by assumption)
    | exact one_ne (d := 63) (by decide +kernel) (by assumption)
    | exact one_ne (d := 91) (by decide +kernel) (by assumption)
    | exact one_ne (d := 33) (by decide +kernel) (by assumption)
    | exact one_ne (d := 93) (by decide +kernel) (by assumption)
  k_with "storeName" => (
      k_here
      k_dflt (refine storeL (by k_asm) (by k_asm) ?_ (by rfl) (by rfl))
      k_whole
      intro m1 h' tk F' N'
      (try k_sweep))
  k_with "mine out" => (repeat (first | exact Out.kst rfl | exact Out.base | exact (fun _ _ => rfl) | refine Out.upd rfl ?_))
  k_with "ite" => first | with_reducible refine ite_tt ?_ | with_reducible refine ite_ff ?_
  k_with "execs cons" => first | (with_reducible refine seqT1 ?_; intro tk) | (with_reducible refine seqT ?_; intro Kc tk hKc) | (with_reducible refine blkT ?_; intro Qd tk hQd)
  k_with "Nxt" => (k_dflt (dsimp only [Nxt]))
  k_with "Kont" => first | (k_dflt (refine hKc _ _ ?_; try clear hKc)) | (k_dflt (refine hQd _ _ ?_; try clear hQd)) | (k_dflt (refine hQc _ _ ?_; try clear hQc)) | (k_dflt (refine kont_app (by assumption) ?_))
  k_with "mine enter" => (
      (case k3 => assumption)
      (case k5 => assumption)
      (case kT => assumption)
      (case k6 => k_is)
      (case k7 => k_is)
      (case k8 => (dsimp only [aA]; omega))
      (case k9 => exact BindsTo.of_eq rfl)
      (case c5 => decide)
      (case kB => exact locs rfl)
      (case c2 => exact rfl)
      (case c3 => exact rfl)
      (case c4 => exact rfl)
      (case' kk => skip)
      k_whole
      intro L' h' ps FL NL hps l0 lL gL
      (try dsimp only)
      (try k_fold))
  k_with "exec While Compare cons nil" => (refine stop_intro ?_)
  k_with "exec While BoolOp" => (k_here; k_dflt (refine whl_start 100 ?_))
  k_with "getAttr ref" => (
      k_here
      with_reducible show wpAny _ _ (getAttr (Value.ref _) (PySem.Str.ofString "append") _) _ _ _
      k_dflt (refine' get_appendK ?k1 ?k2 ?k3 ?_; (case k1 => k_asm); (case k2 => k_asm); (case k3 => k_mem); k_whole)
      intro b h' k' F' N' l1
      (try k_lt l1))
  trivial
section
variable {prog : Program} {w : World} {A : Around} {E : Value → Shared → Prop} {s : Shared} {x y : Str} {t u : Tok} {Q : Value → Shared → Prop}
theorem eq_no (h : (x == y) = false) (hq : Q (.bool false) s) : wpAny (model prog w) A (compareOp .Eq (.str x t) (.str y u)) Q E s := eq_str (by rw [h]; exact hq)
theorem eq_yes (h : (x == y) = true) (hq : Q (.bool true) s) : wpAny (model prog w) A (compareOp .Eq (.str x t) (.str y u)) Q E s := eq_str (by rw [h]; exact hq)
theorem ne_no (h : (x == y) = true) (hq : Q (.bool false) s) : wpAny (model prog w) A (compareOp .NotEq (.str x t) (.str y u)) Q E s := ne_str (by rw [bne, h]; exact hq)
theorem ne_yes (h : (x == y) = false) (hq : Q (.bool true) s) : wpAny (model prog w) A (compareOp .NotEq (.str x t) (.str y u)) Q E s := ne_str (by rw [bne, h]; exact hq)
theorem item_at {value slice : Expr} {n k : Nat} {i : Int} {l : List Nat} {c : Nat} (hd : x.cps.toList.drop n = l) (hl : l[k]? = some c) (hi : i = (n : Int) + (k : Int)) (hsz : x.length ≤ 1000) (hq : ∀ t', Q (.str ⟨#[c]⟩ t') { s with toks := s.toks + 1 })
    (hs : subscripted slice false (.str x t) (.int i u) = operate [.str x t, .int i u] (getItem (.str x t) (.int i u)) := by with_unfolding_all rfl)
    (ht : ∀ r, letTemporaryGo value (.str x t) r = pure () := by intro _; with_unfolding_all rfl) :
    wpAny (model prog w) A (subscriptTail value slice (.str x t) (.int i u)) Q E s := by
  have h2 : x.cps.toList[n + k]? = some c := by rw [← List.getElem?_drop, hd]; exact hl
  have h3 : n + k < x.length := by
    have := (List.getElem?_eq_some_iff.mp h2).1
    simpa [Str.length] using this
  have e : Txt.item x i = ⟨#[c]⟩ := by
    subst hi
    unfold Txt.item Txt.charAt
    rw [seqIndex_of (by omega) (by omega)]
    have : (((n : Int) + (k : Int)).toNat) = n + k := by omega
    rw [this]
    show (⟨#[(x.cps[n + k]?).getD 0]⟩ : Str) = _
    rw [show x.cps[n + k]? = some c by simpa using h2]; rfl
  refine item_str ?_ (by omega) (by omega) (fun _ => by rw [e]; exact hq _) hs ht
  unfold fitsSsize
  simp
  omega
end
theorem lines_C4_1 : True := by
  k_with "subscriptTail Name Name str int" => (
      k_here
      with_reducible show wpAny _ _ (subscriptTail _ _ (Value.str _ _) (Value.int _ _)) _ _ _
      k_dflt (
        first
        | refine item_at (k := 0) (by assumption) rfl (by omega) (by omega) ?_
        | refine item_at (k := 1) (by assumption) rfl (by omega) (by omega) ?_
        | refine item_at (k := 2) (by assumption) rfl (by omega) (by omega) ?_
        | refine item_at (k := 3) (by assumption) rfl (by omega) (by omega) ?_)
      intro t')
  k_with "compareOp Eq str str" => (
      k_here
      k_dflt (
        first
        | (refine eq_no (one_ne (d := 42) (by decide +kernel) (by assumption)) ?_)
        | (refine eq_no (one_ne (d := 63) (by decide +kernel) (by assumption)) ?_)
        | (refine eq_no (one_ne (d := 91) (by decide +kernel) (by assumption)) ?_)
        | (refine eq_no (one_ne (d := 33) (by decide +kernel) (by assumption)) ?_)
        | (refine eq_no (one_ne (d := 93) (by decide +kernel) (by assumption)) ?_)
        | (refine eq_no (by decide +kernel) ?_)
        | (refine eq_yes (by decide +kernel) ?_)))
  k_with "callWith ref" => (
      k_here
      with_reducible show wpAny _ _ (callWith _ (Value.ref _) _ _ _) _ _ _
      k_dflt (refine' callWith_B ?k1 ?k2 ?_; (case k1 => k_asm); (case k2 => k_mem); k_whole))
  k_with "And" => (
      k_here
      k_dflt (refine' bndP ?k1 ?k2 ?_; (case k1 => k_asm); (case k2 => k_mem); k_whole))
  k_with "call ref" => (
      k_here
      k_dflt (first
      | (refine' call_appendK ?k1 ?k2 ?k3 ?k4 ?k5 ?_; (case k1 => k_asm); (case k2 => k_asm); (case k3 => k_mem); (case k4 => k_upd); (case k5 => (have q5 := sizeLine_eq; simp -iota only [List.size_toArray]; omega)); k_whole; intro h' F' N')
      | (refine' use (news := [_, _]) (c_escape _ _ _) ?k1 ?k2 ?k3 ?k4 ?k5 ?k6 ?k7 ?k8 ?k9 ?kA ?_; (case k1 => k_asm); (case k2 => k_asm); (case k3 => k_asm); (case k4 => k_all); (case k5 => assumption); (case k6 => k_asm); (case k7 => exact rfl); (case k8 => trivial); (case k9 => (dsimp +zetaDelta only [aA, Around.deeper]; omega)); (case kA => (dsimp +zetaDelta only [aA, Around.deeper]; omega)); k_whole; intro v h' tk' ps' F' N' ok' G' hv l'; ((refine ex1E hv fun t' qq1 => ?_; try clear hv; revert qq1; intro hv)); subst hv; simp only [List.cons_append, List.nil_append] at N')))
  k_with "truthy ref" => (
      k_here
      k_dflt (refine' truthy_snoc ?k1 ?k2 ?_; (case k1 => exact News.isList (by k_asm) (by k_mem)); (case k2 => (simp -iota only [List.length_append, List.length_cons, List.length_nil] at *; omega)); k_whole)
      intro k')
  k_with "subscriptTail Name UnaryOp ref int" => (
      k_here
      k_dflt (refine' last_snoc ?k1 ?k2 ?_ ?k3; (case k1 => exact News.isList (by k_asm) (by k_mem)); (case k2 => (simp -iota only [List.length_append, List.length_cons, List.length_nil] at *; omega)); (case k3 => with_unfolding_all rfl); k_whole))
  k_with "compareOp IsNot str ref" => (
      k_here
      k_dflt (refine wpAny_isNot_other (by rfl) (by intro e; cases e) ?_))
  k_with "mine next" => (
      refine' tr_next ?a1 ?a2 ?aP ?a4 ?a5 ?a6 ?a7 ?a8 ?a9
      (case a2 => first | k_asm | (refine' cb_drop ?cbN ?cbS; (case cbN => assumption); (case cbS => lcg_sub)))
      (case a1 => k_asm)
      (case aP => assumption)
      (case a4 => exact rfl)
      (case a5 => exact rfl)
      (case a6 => first | exact rfl | (dsimp only [PTok.text, List.length_cons, List.length_nil, List.cons_append, List.nil_append]; omega))
      (case a7 => exact Out.ends (by walk_at "mine out"))
      (case a8 => first | exact rfl | exact ⟨_, rfl⟩ | with_reducible exact br_yes hc (by assumption) | with_reducible exact br_no hc (by assumption) | exact br_yes hc (by assumption) | exact br_no hc (by assumption) | exact ⟨_, congrArg (fun z => Value.str z _) (by decide +kernel)⟩)
      (case a9 => assumption))
  trivial
section
variable {prog : Program} {w : World} {A : Around} {E : Value → Shared → Prop} {s : Shared} {x : Str} {t : Tok} {Q : Value → Shared → Prop} {h₀ : Heap} {L : Addr} {m : Str → Option Value} {news : List (Addr × Obj)}
theorem slice_at {value slice : Expr} {i j : Int} {ui uj : Tok} {n k : Nat} {l r : List Nat} (F : Fr h₀ L s.heap m) (N : News h₀ L s.heap news) (hd : x.cps.toList.drop n = l) (hi : i = (n : Int) + 1) (hj : j = i + (k : Int)) (hk : j ≤ (x.length : Int)) (hz : x.length ≤ 1000) (hr : (l.drop 1).take k = r)
    (h : ∀ h' t' tk, Fr h₀ L h' m → News h₀ L h' news → Q (.str ⟨r.toArray⟩ t') { s with heap := h', toks := tk })
    (hs : subscripted slice false (.str x t) (.ref s.heap.objs.size) = operate [.ref s.heap.objs.size, .str x t] (getItem (.str x t) (.ref s.heap.objs.size)) := by with_unfolding_all rfl)
    (ht : ∀ r, letTemporaryGo value (.str x t) r = pure () := by intro _; with_unfolding_all rfl) :
    wpAny (model prog w) A (subscriptTail value slice (.str x t) (.ref s.heap.objs.size)) Q E { s with heap := s.heap.push { cls := .type "slice", data := .fields #[.int i ui, .int j uj, .none] } } := by
  refine slice_strN_ss F N (fun h' t' tk F' N' => ?_) hs ht (by have := sizeLine_eq; omega)
  have e := eq_of_beq (slice_closesL (x := x) (i := i) (j := j) (by omega) (by omega) hk)
  rw [e]
  have e1 : i.toNat = n + 1 := by omega
  have e2 : (j - i).toNat = k := by omega
  rw [e1, e2, ← List.drop_drop, hd, hr]
  exact h h' t' tk F' N'
end
theorem lines_C4_2 : True := by
  k_with "subscriptTail Name Slice str ref" => (
      k_here
      k_dflt (
        first
        | (refine' slice_at (k := 1) (r := [_]) ?k1 ?k2 ?k3 ?k4 ?k5 ?k6 ?k7 ?k8 ?_ ?k9 ?kA; (case k1 => k_asm); (case k2 => k_asm); (case k3 => assumption); (case k4 => omega); (case k5 => omega); (case k6 => omega); (case k7 => omega); (case k8 => exact rfl); (case k9 => with_unfolding_all rfl); (case kA => (intro _; with_unfolding_all rfl)); k_whole)
        | (refine' slice_at (k := 2) (r := [_, _]) ?k1 ?k2 ?k3 ?k4 ?k5 ?k6 ?k7 ?k8 ?_ ?k9 ?kA; (case k1 => k_asm); (case k2 => k_asm); (case k3 => assumption); (case k4 => omega); (case k5 => omega); (case k6 => omega); (case k7 => omega); (case k8 => exact rfl); (case k9 => with_unfolding_all rfl); (case kA => (intro _; with_unfolding_all rfl)); k_whole))
      intro h' t' tk' F' N')
  k_with "compareOp NotEq str str" => (
      k_here
      k_dflt (first | (refine ne_yes (one_ne (d := 93) (by decide +kernel) (by assumption)) ?_) | (refine ne_no (by decide +kernel) ?_) | (refine ne_yes (by decide +kernel) ?_)))
  trivial
section
variable {prog : Program} {w : World} {A : Around} {E : Value → Shared → Prop} {s : Shared} {x y z : Str} {t u v : Tok} {Q : Value → Shared → Prop} {h₀ : Heap} {L : Addr} {m : Str → Option Value} {news : List (Addr × Obj)}
theorem replace_none (h : (Builtin.Str.occurrences x y 0 x.length (x.length + 1)).isEmpty = true) (hq : ∀ t' k, Q (.str x t') { s with toks := k }) : wpAny (model prog w) A (call (.builtin "str.replace") [.str x t, .str y u, .str z v]) Q E s := by
  refine call_gives F.slot_str_replace (typeIs_str _ _ _) F.entry_str_replace (F.args_str_replace_3 _ _ _) (gives_str_replace x y z t u v fun e => by simp [h] at e) ?_
  simp only [h, Bool.true_or, if_true]
  exact hq t s.toks
theorem notIn_closed {b : Bool} (h : (!(!(Builtin.Str.occurrences x y 0 x.length 1).isEmpty)) = b) (hq : Q (.bool b) s) : wpAny (model prog w) A (compareOp .NotIn (.str y u) (.str x t)) Q E s := notIn_str (by rw [h]; exact hq)
theorem get_subK {pl : Sem Bool} {Q : Value × List Value → Shared → Prop} (F : Fr h₀ L s.heap m) (X : (hd.heap_1_1 w.params).In h₀) (h : Q (.builtin "re.Pattern.sub", [.ref 177]) s) : wpAny (model prog w) A (getMethod (.ref 177) "sub" pl) Q E s := get_sub (X.keeps F.keep) h
theorem sub_noneK {f : Addr} {o : Obj} (F : Fr h₀ L s.heap m) (X : (hd.heap_1_1 w.params).In h₀) (N : News h₀ L s.heap news) (hm : (f, o) ∈ news) (hc : o.cls = .type "function")
    (hn : noHit x.cps = true) (hp : 0 < x.cps.size) (hz : x.length ≤ 16) (h : ∀ t' h' k, Fr h₀ L h' m → News h₀ L h' news → Q (.str x t') { s with heap := h', toks := k }) :
    wpAny (model prog w) A (call (.builtin "re.Pattern.sub") [.ref 177, .ref f, .str x t]) Q E s :=
  sub_none (X.keeps F.keep) (N _ hm).1 hc hn hp hz fun t' h' k kp => h t' h' k (F.keeps kp) (N.grown kp)
end
theorem lines_C4_3 : True := by
  k_with "compareOp NotIn str str" => (
      k_here
      k_dflt (first | refine notIn_closed (b := true) (by assumption) ?_ | refine notIn_closed (b := true) (by decide +kernel) ?_ | refine notIn_closed (b := false) (by decide +kernel) ?_))
  k_with "call builtin:str.replace" => (
      k_here
      k_dflt (first | refine replace_none (by assumption) ?_ | refine replace_none (by decide +kernel) ?_)
      intro t' k')
  k_with "getMethod ref" => (
      k_here
      with_reducible show wpAny _ _ (getMethod (Value.ref _) (PySem.Str.ofString "sub") _) _ _ _
      k_dflt (refine' get_subK ?k1 ?k2 ?_; (case k1 => k_asm); (case k2 => k_asm); k_whole))
  k_with "call builtin:re.Pattern.sub" => (
      k_here
      k_dflt (refine' sub_noneK ?k1 ?k2 ?k3 ?k4 ?k5 ?k6 ?k7 ?k8 ?_; (case k1 => k_asm); (case k2 => k_asm); (case k3 => k_asm); (case k4 => k_mem); (case k5 => first | assumption | exact rfl); (case k6 => first | assumption | decide +kernel); (case k7 => first | exact Nat.zero_lt_one | decide +kernel); (case k8 => first | exact Nat.le_of_ble_eq_true rfl | decide +kernel); k_whole)
      intro t' h' k' F' N')
  k_with "eval Lambda" => (
      k_here
      k_dflt (refine' lam_go (news := [_, _]) ?k1 ?k2 ?k3 ?k4 ?k5 ?k6 ?k7 ?k8 ?_; (case k1 => k_asm); (case k2 => k_asm); (case k3 => k_asm); (case k4 => k_all); (case k5 => assumption); (case k6 => k_asm); (case k7 => exact rfl); (case k8 => exact rfl); k_whole)
      intro f' o' h' tk' ps' F' N' hc' ok' l1 l2
      (try k_lt l1)
      (try simp only [List.cons_append, List.nil_append] at N'))
  trivial
section
variable {prog : Program} {w : World} {A : Around} {E : Value → Shared → Prop} {s : Shared} {x : Str} {t : Tok} {Q : Value → Shared → Prop} {h₀ : Heap} {L : Addr} {m : Str → Option Value} {news : List (Addr × Obj)}
theorem slice_tail {value slice : Expr} {ui : Tok} {r : Str} (F : Fr h₀ L s.heap m) (N : News h₀ L s.heap news) (hr : Txt.slice x (some 1) none = r) (hz : x.length ≤ 1000)
    (h : ∀ h' t' tk, Fr h₀ L h' m → News h₀ L h' news → Q (.str r t') { s with heap := h', toks := tk })
    (hs : subscripted slice false (.str x t) (.ref s.heap.objs.size) = operate [.ref s.heap.objs.size, .str x t] (getItem (.str x t) (.ref s.heap.objs.size)) := by with_unfolding_all rfl)
    (ht : ∀ r, letTemporaryGo value (.str x t) r = pure () := by intro _; with_unfolding_all rfl) :
    wpAny (model prog w) A (subscriptTail value slice (.str x t) (.ref s.heap.objs.size)) Q E { s with heap := s.heap.push { cls := .type "slice", data := .fields #[.int 1 ui, .none, .none] } } := by
  subst hr
  exact slice_strN_sn F N h hs ht (by have := sizeLine_eq; omega)
end
theorem lines_C4_4 : True := by
  k_with "subscriptTail Name Slice str ref" => (
      k_here
      k_dflt (refine' slice_tail (r := Str.ofString "/") ?k1 ?k2 ?k3 ?k4 ?_ ?k9 ?kA; (case k1 => k_asm); (case k2 => k_asm); (case k3 => decide +kernel); (case k4 => decide +kernel); (case k9 => with_unfolding_all rfl); (case kA => (intro _; with_unfolding_all rfl)); k_whole)
      intro h' t' tk' F' N')
  trivial
theorem c_trans (w : World) (x : Str) (t t2 : Tok) (S : Addr) (toks : List PTok) (hok : ∀ k ∈ toks, k.ok) (hap : apart toks) (hx : x = ⟨(tx toks).toArray⟩) : Pure w 6 30 203 [.str x t, .ref S, .str (Str.ofString ".") t2] (fun h => x.length ≤ 100 ∧ ∃ o, h.get? S = some o ∧ o.cls = .type "object") (fun h h' v => ∃ r vs k, v = .ref r ∧ h'.get? r = some (listOf vs.toArray k) ∧ h.get? r = none ∧ Are (PartIs S) vs (toks.map PTok.part)) := by
  unfold Pure
  k_fill
  intro mean mg mb dp un fr gd Q E s X T hT hp hdp hun hret
  have hxl : x.length ≤ 1000 := by have := hp.1; omega
  refine' enter (binds := [(Str.ofString "pat", .str x t), (Str.ofString "STAR", .ref S), (Str.ofString "QUESTION_MARK", .str (Str.ofString ".") t2)]) ?k3 ?k5 ?kT ?k6 ?k7 ?k8 ?k9 ?kB ?kk ?c2 ?c3 ?c4 ?c5
  walk_at "mine enter"
  refine entL (by first | assumption | with_unfolding_all passes_own) ?_
  intro A1 e1 Qc Ec hQc hEc
  k_steps
  unfold Stop
  refine trans_while (S := S) (toks := toks) (by k_asm) (by k_asm) rfl (by assumption) ?_ (by first | assumption | with_unfolding_all passes_own)
  (intro qr0 u h tk qr4 F N; obtain ⟨done, todo, vs, k, ti, ps⟩ := qr0; (refine and3E qr4 fun hdt hvs htab => ?_; try clear qr4))
  dsimp only at hdt hvs htab
  dsimp only [trPs, trLed] at F N
  have hvl : vs.length ≤ 1000 := by
    have a := hvs.length
    have b := tx_len done
    have d : (tx done).length ≤ x.length := by rw [hx, ← hdt]; show _ ≤ (tx (done ++ todo)).toArray.size; simp [tx]
    rw [List.length_map] at a
    omega
  have hP : trP S toks ⟨done, todo, vs, k, ti, ps⟩ := ⟨hdt, hvs, htab⟩
  cases todo with
  | nil =>
    rw [List.append_nil] at hdt
    subst hdt
    have hn : (x.length : Int) = ((tx done).length : Int) := by
      rw [hx]; show ((tx done).toArray.size : Int) = _; simp
    refine while_cut ?_
    intro Kw Kn hKw hKn
    k_steps
    try dsimp only
    exact leaveP_in (by k_asm) N (by k_mem) htab fun G T => hret _ _ _ G T ⟨_, vs, k, rfl, (N (_, listOf vs.toArray k) (.tail _ (.head _))).1, gh_none (N (_, listOf vs.toArray k) (.tail _ (.head _))).2.2 (by k_ne), hvs⟩
  | cons tok rest =>
    cases tok with
    | lit c =>
      have hD : x.cps.toList.drop (tx done).length = c :: tx rest := by
        rw [hx, ← hdt]; simp [tx, PTok.text]
      have hlt : ((tx done).length : Int) < (x.length : Int) := by
        rw [hx, ← hdt]; show _ < ((tx (done ++ PTok.lit c :: rest)).toArray.size : Int); simp [tx, PTok.text]; omega
      obtain ⟨c1, c2, c3⟩ : c ≠ 42 ∧ c ≠ 63 ∧ c ≠ 91 := hok (.lit c) (by rw [← hdt]; simp)
      refine while_cut ?_
      intro Kw Kn hKw hKn
      k_steps
      walk_at "mine next"
    | star =>
      have hD : x.cps.toList.drop (tx done).length = 42 :: tx rest := by
        rw [hx, ← hdt]; simp [tx, PTok.text]
      have hlt : ((tx done).length : Int) < (x.length : Int) := by
        rw [hx, ← hdt]; show _ < ((tx (done ++ PTok.star :: rest)).toArray.size : Int); simp [tx, PTok.text]; omega
      rcases List.eq_nil_or_concat done with rfl | ⟨d', p, rfl⟩
      · cases hvs
        refine while_cut ?_
        intro Kw Kn hKw hKn
        k_steps
        walk_at "mine next"
      · rw [List.concat_eq_append] at *
        rw [List.map_append] at hvs
        (refine ex2E (Are.unsnoc hvs) fun vs' v qq2 => ?_; refine and3E qq2 fun qq20 hvs' hpv => ?_; try clear qq2; rcases qq20 with rfl)
        obtain ⟨y, hy⟩ : ∃ y, p.part = some y := apart_mid (l := d') (r := rest) (by rw [← hdt] at hap; simpa using hap)
        rw [hy] at hpv
        (refine ex1E hpv fun tv qq1 => ?_; try clear hpv; rcases qq1 with rfl)
        refine while_cut ?_
        intro Kw Kn hKw hKn
        k_steps
        walk_at "mine next"
    | br y =>
      have hy : y = [42] ∨ y = [63] ∨ y = [91] ∨ y = [33, 47] := hok (.br y) (by rw [← hdt]; simp)
      have hD : x.cps.toList.drop (tx done).length = 91 :: (y ++ 93 :: tx rest) := by
        rw [hx, ← hdt]; simp [tx, PTok.text]
      have hlt : ((tx done).length : Int) + (y.length : Int) + 2 ≤ (x.length : Int) := by
        rw [hx, ← hdt]; show _ ≤ ((tx (done ++ PTok.br y :: rest)).toArray.size : Int); simp [tx, PTok.text]; omega
      obtain ⟨c, rfl, hc⟩ | rfl := br_two hy
      · refine and5E (br_facts hc) fun c1 c2 c4 c5 c6 => ?_
        dsimp only [List.length_cons, List.length_nil, List.cons_append, List.nil_append] at hlt hD
        refine while_cut ?_
        intro Kw Kn hKw hKn
        k_steps
        all_goals walk_at "mine next"
      · dsimp only [List.length_cons, List.length_nil, List.cons_append, List.nil_append] at hlt hD
        refine while_cut ?_
        intro Kw Kn hKw hKn
        k_steps
        walk_at "mine next"
end Mine
end
section
open PySem PySem.W PySem.Spec PySem.Calls PyProof.Rows
set_option maxRecDepth 100000
set_option maxHeartbeats 2000000
namespace Mine
theorem l0_D5 : True := by
  k_with_none
  k_with "q" => (all_goals first | assumption | with_unfolding_all exact rfl)
  k_with "ar" => with_reducible first | assumption | (apply Ar.dec1; k_extra "q")
  trivial
structure JS where
  i : Nat
  k : Nat
  ti : Tok
noncomputable abbrev jLed1 (b l : Addr) (vs : List Value) (ps : Array Value) (c : JS) : List (Addr × Obj) := [(b, bndObj l), (l, listOf (vs.take c.i).toArray c.k), (198, tabObj ps)]
noncomputable abbrev jLed2 (f b l : Addr) (vs : List Value) (its : Array Value) (kk : Nat) (ps : Array Value) (c : JS) : List (Addr × Obj) := [(f, listOf (vs.take c.i).toArray c.k), (b, bndObj l), (l, listOf its kk), (198, tabObj ps)]
noncomputable abbrev jPs (base : Nat) (c : JS) : List (Str × Value) := [(Str.ofString "i", .int ((base + c.i : Nat) : Int) c.ti)]
noncomputable abbrev jP (n : Nat) (c : JS) : Prop := c.i ≤ n
noncomputable abbrev jMu (n : Nat) (c : JS) : Nat := n + 1 - c.i
noncomputable def jStored : List Str := [Str.ofString "i"]
section
variable {prog : Program} {w : World} {A : Around} {E : Value → Shared → Prop} {s : Shared} {h₀ : Heap} {L : Addr}
theorem len_lst {l : Addr} {vs : List Value} {Q : Value → Shared → Prop} (hl : s.heap.IsList l vs.toArray) (hz : vs.length ≤ 100000) (h : ∀ t k, Q (.int (vs.length : Int) t) { s with toks := k }) : wpAny (model prog w) A (call (.builtin "len") [.ref l]) Q E s :=
  PyProof.Rows.len_list hl (by simp; omega) (by simpa using h _ _)
theorem item_lst {value slice : Expr} {l : Addr} {vs : List Value} {i : Int} {u : Tok} {n : Nat} {v : Value} {Q : Value → Shared → Prop} (hl : s.heap.IsList l vs.toArray) (hx : vs[n]? = some v) (hi : i = (n : Int)) (hz : vs.length ≤ 100000) (h : Q v s)
    (hs : subscripted slice false (.ref l) (.int i u) = operate [.ref l, .int i u] (getItem (.ref l) (.int i u)) := by with_unfolding_all rfl) :
    wpAny (model prog w) A (subscriptTail value slice (.ref l) (.int i u)) Q E s := by
  have hn : n < vs.length := (List.getElem?_eq_some_iff.mp hx).1
  exact tail_any hl.typeIs slot_list_getitem.lookup (wpAny_getItem_list hl (by omega) (by omega) (by subst hi; simpa using hx) h) hs
theorem is_lst {h : Heap} {r : Addr} {vs : List Value} {k : Nat} (e : h.get? r = some (listOf vs.toArray k)) (hT : Tab h) : (gh h).IsList r vs.toArray := by
  refine ⟨_, gh_ne e fun q => ?_, rfl, _, rfl⟩
  subst q
  (refine ex1E hT fun ps qq1 => ?_; try clear hT; refine and2E qq1 fun hps ux => ?_; try clear qq1)
  rw [hps] at e
  cases e
noncomputable abbrev JPost (h₀ : Heap) (L : Addr) (s : Shared) (Led : JS → List (Addr × Obj)) (base n : Nat) (m₀ : Str → Option Value) (Q : Flow → Shared → Prop) (c : JS) : Flow → Shared → Prop :=
  KswPost h₀ L s Led (jPs base) (fun _ => True) jStored m₀ (jP n) (jMu n) Q c
theorem join_while {Q : Flow → Shared → Prop} {env : Env} {test : Expr} {body : List Stmt} {pos : Pos} {m₀ : Str → Option Value} {base k : Nat} {t : Tok} (n : Nat) (Led : JS → List (Addr × Obj))
    (F : Fr h₀ L s.heap m₀) (N : News h₀ L s.heap (Led ⟨0, k, t⟩)) (hi : m₀ (Str.ofString "i") = some (.int (base : Int) t))
    (turn : ∀ (i k : Nat) (ti : Tok) (u : Str → Option Value) h tk, i ≤ n → Fr h₀ L h (kstB (fun z => if jStored.contains z then u z else m₀ z) (jPs base ⟨i, k, ti⟩)) → News h₀ L h (Led ⟨i, k, ti⟩) →
      wpAny (model prog w) A (isTrue test env (eval test env)) (fun bb s₂ =>
        if bb = true then wpAny (model prog w) A (execs body env) (JPost h₀ L s Led base n m₀ Q ⟨i, k, ti⟩) E s₂ else Q .next s₂) E { s with heap := h, toks := tk })
    (hE : PassesOwn (model prog w) A env E := by passes_own) :
    wpAny (model prog w) A (exec (.While test body [] pos) env) Q E s := by
  refine ksw_while Led (jPs base) (fun _ => True) jStored (jP n) (jMu n) ⟨0, k, t⟩ F N trivial ?_ (Nat.zero_le _) (fun c u h tk _ hp F N => turn c.i c.k c.ti u h tk hp F N) hE
  intro p hp
  cases hp with
  | head => exact hi
  | tail _ hp => cases hp
theorem j_next {Q : Flow → Shared → Prop} {m₀ m' : Str → Option Value} {Led : JS → List (Addr × Obj)} {base n i k k' : Nat} {ti ti' : Tok} {h' : Heap} {tk : Nat} {j : Int} {news : List (Addr × Obj)}
    (F : Fr h₀ L h' m') (N : News h₀ L h' news) (hn : Led ⟨i + 1, k', ti'⟩ = news) (hlt : i < n)
    (hm : m' (Str.ofString "i") = some (.int j ti')) (hj : j = ((base + i : Nat) : Int) + 1) (hs : ∀ z, (∀ p ∈ [(Str.ofString "i", Value.none)], z ≠ p.1) → jStored.contains z = false → m' z = m₀ z) :
    JPost h₀ L s Led base n m₀ Q ⟨i, k, ti⟩ .next { s with heap := h', toks := tk } := by
  subst hn
  refine ksw_end ⟨i + 1, k', ti'⟩ F N (fun p hp => hp) trivial (fun p hp => ?_) (fun z hz hc => hs z (fun p hp => ?_) hc) hlt ?_
  · cases hp with
    | head =>
      show m' (Str.ofString "i") = some (.int ((base + (i + 1) : Nat) : Int) ti')
      rw [hm, hj]; congr 2
    | tail _ hp => cases hp
  · cases hp with
    | head => exact hz (Str.ofString "i", .int ((base + (i + 1) : Nat) : Int) ti') (.head _)
    | tail _ hp => cases hp
  · show n + 1 - (i + 1) < n + 1 - i
    omega
end
end Mine
end
section
open PySem PySem.W PySem.Spec PySem.Calls PyProof.Rows
set_option maxRecDepth 100000 
set_option maxHeartbeats 2000000 
namespace Mine
theorem lines_C5_0 : True := by
  k_with_none
  k_with "q" => (all_goals first | assumption | with_unfolding_all exact rfl)
  k_with "ar" => with_reducible first | assumption | (apply Ar.le0; k_extra "q") | (apply Ar.le3; k_extra "q") | (apply Ar.sn; k_extra "q") | (apply Ar.sn1; k_extra "q") | (apply Ar.mn1; k_extra "q") | (apply Ar.mn2; k_extra "q") | (apply Ar.mn6; k_extra "q") | (apply Ar.mn7; k_extra "q") | (apply Ar.rl0; k_extra "q") | (apply Ar.ltn; k_extra "q") | (apply Ar.ltn'; k_extra "q") | (apply Ar.nel; k_extra "q") | (apply Ar.cj6; k_extra "q") | (apply Ar.cj7; k_extra "q") | (apply Ar.pl0; k_extra "q") | (apply Ar.pg0; k_extra "q") | (apply Ar.pl1; k_extra "q") | (apply Ar.pg1; k_extra "q") | (apply Ar.pl2e; k_extra "q") | (apply Ar.subC; k_extra "q") | (apply Ar.n13; k_extra "q") | (apply Ar.cj1; k_extra "q") | (apply Ar.cj2; k_extra "q") | (apply Ar.cj4; k_extra "q") | (apply Ar.cj5; k_extra "q") | (apply Ar.cj3; k_extra "q") | (apply Ar.cj8; k_extra "q")
  k_with "execs cons Assign" => first
    | (k_here; (fail_if_success (fail_if_success (with_reducible refine sh_bin ?_))); k_dflt (refine asg_bin (by k_asm) (by k_asm) (by rfl) (by rfl) (by rfl) ?_); k_whole; intro t' m1 h' tk F' N'; (try k_sweep))
    | (k_here; (fail_if_success (fail_if_success (with_reducible refine sh_sub ?_))); k_dflt (refine asg_item (by k_asm) (by k_asm) (by rfl) (by rfl) (by rfl) (by intro _ _; with_unfolding_all rfl) (by walk_at "mine at") (by rfl) ?_); k_whole; intro t' m1 h' tk F' N'; (try k_sweep))
    | (k_here; (fail_if_success (fail_if_success (with_reducible refine sh_asg ?_))); k_dflt (refine asg_int (by k_asm) (by k_asm) (by rfl) (by rfl) (by rfl) (by rfl) ?_); k_whole; intro t' m1 h' tk F' N'; (try k_sweep))
    | (k_here; (fail_if_success (fail_if_success (with_reducible refine sh_lit ?_))); k_dflt (refine asg_int (by k_asm) (by k_asm) (by rfl) (by rfl) (by rfl) (by rfl) ?_); k_whole; intro t' m1 h' tk F' N'; (try k_sweep))
  k_with "execs cons AugAssign" => (k_here; (fail_if_success (fail_if_success (with_reducible refine sh_aug ?_))); k_dflt (refine aug_int (by k_asm) (by k_asm) (by rfl) (by rfl) (by rfl) (by rfl) ?_); k_whole; intro t' m1 h' tk F' N'; (try k_sweep))
  k_with "isTrue Compare Name" => first
    | (k_here; (fail_if_success (fail_if_success (with_reducible refine sh_test ?_))); k_dflt (refine test_t (by k_asm) (by rfl) (by rfl) (by rfl) (by walk_at "mine yes") ?_); k_whole; intro tk)
    | (k_here; (fail_if_success (fail_if_success (with_reducible refine sh_test ?_))); k_dflt (refine test_f (by k_asm) (by rfl) (by rfl) (by rfl) (by walk_at "mine no") ?_); k_whole; intro tk)
  k_with "isTrue Compare Subscript" => first
    | (k_here; (fail_if_success (fail_if_success (with_reducible refine sh_item ?_))); k_dflt (refine item_t (by k_asm) (by rfl) (by rfl) (by rfl) (by intro _ _; with_unfolding_all rfl) (by walk_at "mine at") (by rfl) (by walk_at "mine yes") ?_); k_whole; intro tk)
    | (k_here; (fail_if_success (fail_if_success (with_reducible refine sh_item ?_))); k_dflt (refine item_f (by k_asm) (by rfl) (by rfl) (by rfl) (by intro _ _; with_unfolding_all rfl) (by walk_at "mine at") (by rfl) (by walk_at "mine no") ?_); k_whole; intro tk)
  k_with "mine at" => first
    | exact At.of (k := 0) (by assumption) rfl (by omega) (by omega)
    | exact At.of (k := 1) (by assumption) rfl (by omega) (by omega)
    | exact At.of (k := 2) (by assumption) rfl (by omega) (by omega)
    | exact At.of (k := 3) (by assumption) rfl (by omega) (by omega)
  k_with "mine yes" => first
    | exact decide_eq_true (by omega)
    | exact int_yes (by omega)
    | exact int_ney (by omega)
    | exact str_ney (by walk_at "mine sgn")
    | decide +kernel
  k_with "mine no" => first
    | exact decide_eq_false (by omega)
    | exact int_no (by omega)
    | exact int_nen (by omega)
    | exact (by walk_at "mine sgn")
    | decide +kernel
  k_with "mine sgn" => first
    | decide +kernel
  k_with "mine out" => (repeat (first | exact Out.kst rfl | exact Out.base | exact (fun _ _ => rfl) | refine Out.upd rfl ?_))
  k_with "storeName" => (
      k_here
      k_dflt (refine storeL (by k_asm) (by k_asm) ?_ (by rfl) (by rfl))
      k_whole
      intro m1 h' tk F' N'
      (try k_sweep))
  k_with "ite" => first | with_reducible refine ite_tt ?_ | with_reducible refine ite_ff ?_
  k_with "execs cons" => first | (with_reducible refine seqT1 ?_; intro tk) | (with_reducible refine seqT ?_; intro Kc tk hKc) | (with_reducible refine blkT ?_; intro Qd tk hQd)
  k_with "Nxt" => (k_dflt (dsimp only [Nxt]))
  k_with "Kont" => first | (k_dflt (refine hKc _ _ ?_; try clear hKc)) | (k_dflt (refine hQd _ _ ?_; try clear hQd)) | (k_dflt (refine hQc _ _ ?_; try clear hQc)) | (k_dflt (refine kont_app (by assumption) ?_))
  k_with "mine enter" => (
      (case k3 => assumption)
      (case k5 => assumption)
      (case kT => assumption)
      (case k6 => k_is)
      (case k7 => k_is)
      (case k8 => (dsimp only [aA]; omega))
      (case k9 => exact BindsTo.of_eq rfl)
      (case c5 => decide)
      (case kB => exact locs rfl)
      (case c2 => exact rfl)
      (case c3 => exact rfl)
      (case c4 => exact rfl)
      (case' kk => skip)
      k_whole
      intro L' h' ps FL NL hps l0 lL gL
      (try dsimp only)
      (try k_fold))
  k_with "exec While BoolOp" => (refine stop_intro ?_)
  k_with "exec While Compare cons nil" => (k_here; k_dflt (refine whl_start 100 ?_))
  k_with "getAttr ref" => (
      k_here
      with_reducible show wpAny _ _ (getAttr (Value.ref _) (PySem.Str.ofString "append") _) _ _ _
      k_dflt (refine' get_appendK ?k1 ?k2 ?k3 ?_; (case k1 => k_asm); (case k2 => k_asm); (case k3 => k_mem); k_whole)
      intro b h' k' F' N' l1
      (try k_lt l1))
  k_with "call builtin:len" => (
      k_here
      k_dflt (refine' len_lst ?k1 ?k2 ?_; (case k1 => exact Fr.lst (by k_asm) (by assumption)); (case k2 => assumption); k_whole)
      intro t' k')
  k_with "subscriptTail Name Name ref int" => (
      k_here
      first
      | k_dflt (refine' item_lst ?k1 hx ?k3 ?k4 ?_ ?k5; (case k1 => exact Fr.lst (by k_asm) (by assumption)); (case k3 => omega); (case k4 => assumption); (case k5 => with_unfolding_all rfl); k_whole)
      | k_dflt (refine' item_lst ?k1 hy ?k3 ?k4 ?_ ?k5; (case k1 => exact Fr.lst (by k_asm) (by assumption)); (case k3 => omega); (case k4 => assumption); (case k5 => with_unfolding_all rfl); k_whole)
      | k_dflt (refine' item_lst ?k1 hz2 ?k3 ?k4 ?_ ?k5; (case k1 => exact Fr.lst (by k_asm) (by assumption)); (case k3 => omega); (case k4 => assumption); (case k5 => with_unfolding_all rfl); k_whole))
  k_with "compareOp IsNot str ref" => (
      k_here
      k_dflt (refine wpAny_isNot_other (by rfl) (by intro e; cases e) ?_))
  k_with "callWith ref" => (
      k_here
      with_reducible show wpAny _ _ (callWith _ (Value.ref _) _ _ _) _ _ _
      k_dflt (refine' callWith_B ?k1 ?k2 ?_; (case k1 => k_asm); (case k2 => k_mem); k_whole))
  k_with "And" => (
      k_here
      k_dflt (refine' bndP ?k1 ?k2 ?_; (case k1 => k_asm); (case k2 => k_mem); k_whole))
  k_with "call ref" => (
      k_here
      k_dflt (refine' call_appendK ?k1 ?k2 ?k3 ?k4 ?k5 ?_; (case k1 => k_asm); (case k2 => k_asm); (case k3 => k_mem); (case k4 => k_upd); (case k5 => (have q5 := sizeLine_eq; simp only [Array.size_push, List.size_toArray, List.length_take]; omega)); k_whole; intro h' F' N'))
  k_with "WhlIf" => (
      first
      | refine WhlIf.yes (decide_eq_true (by (try simp only [List.length_append, List.length_cons, List.length_nil] at *); omega)) ?_
      | refine WhlIf.no (decide_eq_false (by (try simp only [List.length_append, List.length_cons, List.length_nil] at *); omega)) ?_)
  trivial
noncomputable def joined (xs0 xs1 : List Str) : Str := Str.empty ++ Str.ofString "(?s:" ++ Str.join (Str.ofString "") (xs0 ++ [Str.empty ++ Str.ofString "(?>.*?" ++ Str.join (Str.ofString "") xs1 ++ Str.ofString ")", Str.ofString ".*"]) ++ Str.ofString ")\\Z"
noncomputable def cat (xs : List Str) : Str := Str.join (Str.ofString "") xs
theorem cat_len (xs : List Str) : (cat xs).length ≤ (xs.map (·.length)).sum := by
  have e : (Str.ofString "").length = 0 := by decide +kernel
  have := StrLaws.join_length_le (Str.ofString "") xs
  rw [e] at this
  unfold cat
  omega
theorem jl1 : (Str.ofString "(?>.*?").length = 6 := by decide +kernel
theorem jl2 : (Str.ofString ")").length = 1 := by decide +kernel
theorem jl3 : (Str.ofString ".*").length = 2 := by decide +kernel
theorem jl4 : Str.empty.length = 0 := by decide +kernel
theorem cat_join {prog : Program} {w : World} {A : Around} {E : Value → Shared → Prop} {s : Shared} {Q : Value → Shared → Prop} {D : Addr} {vs : Array Value} {xs : List Str} {t : Tok}
    (hl : s.heap.IsList D vs) (hA : StrsAre vs.toList xs) (hx : (xs.map (·.length)).sum ≤ 3000) (h : ∀ t' k, Q (.str (cat xs) t') { s with toks := k }) : wpAny (model prog w) A (call (.builtin "str.join") [.str (Str.ofString "") t, .ref D]) Q E s := by
  refine join_list hl hA ?_ fun t' k => by
    have e := h t' k
    unfold cat at e
    rw [← StrLaws.glued_eq_join] at e
    exact e
  have e : (Str.ofString "").length = 0 := by decide +kernel
  rw [e]
  omega
theorem lines_C5_1 : True := by
  k_with "call builtin:str.join" => (
      k_here
      k_dflt (refine' cat_join ?k1 ?k2 ?k3 ?_; (case k1 => exact News.isList (by k_asm) (by k_mem)); (case k2 => (first | exact hs1 | exact hs2 _ _ _ _)); (case k3 => first | omega | (simp only [List.map_append, List.sum_append, List.map_cons, List.map_nil, List.sum_cons, List.sum_nil] at *; simp only [Str.length_append, jl1, jl2, jl3, jl4] at *; omega)); k_whole)
      intro tj kj)
  trivial
theorem strs_two {vs : List Value} {xs : List Str} (h : StrsAre vs xs) {a b : Str} {t u : Tok} : StrsAre (vs ++ [.str a t, .str b u]) (xs ++ [a, b]) :=
  ((Are.of_strs h).append (.cons ⟨_, rfl⟩ (.cons ⟨_, rfl⟩ .nil))).strs
theorem c_join (w : World) (S r : Addr) (vs vs0 vs1 : List Value) (k : Nat) (xs0 xs1 : List Str) (hvs : vs = vs0 ++ Value.ref S :: (vs1 ++ [Value.ref S])) (h0 : StrsAre vs0 xs0) (h1 : StrsAre vs1 xs1) (hne : xs1 ≠ []) (hsz : xs0.length ≤ 100 ∧ xs1.length ≤ 100) (hsm : (xs0.map (·.length)).sum ≤ 1000 ∧ (xs1.map (·.length)).sum ≤ 1000) : Pure w 3 30 210 [.ref r, .ref S] (fun h => h.get? r = some (listOf vs.toArray k)) (fun _ _ v => ∃ t, v = .str (joined xs0 xs1) t) := by
  unfold Pure
  k_fill
  intro mean mg mb dp un fr gd Q E s X T hT hp hdp hun hret
  have hl0 := is_lst hp hT
  have e0 := h0.length
  have e1 := h1.length
  have hlen : vs.length = vs0.length + vs1.length + 2 := by rw [hvs]; simp; omega
  have hz : vs.length ≤ 100000 := by omega
  have hin : 1 ≤ vs1.length := by
    rw [e1]
    cases xs1 with
    | nil => exact absurd rfl hne
    | cons _ _ => simp
  refine' enter (binds := [(Str.ofString "inp", .ref r), (Str.ofString "STAR", .ref S)]) ?k3 ?k5 ?kT ?k6 ?k7 ?k8 ?k9 ?kB ?kk ?c2 ?c3 ?c4 ?c5
  walk_at "mine enter"
  refine entL (by first | assumption | with_unfolding_all passes_own) ?_
  intro A1 e1 Qc Ec hQc hEc
  k_steps
  unfold Stop
  refine join_while (base := 0) vs0.length (jLed1 _ _ vs0 _) (by k_asm) (newsTail (by k_asm)) rfl ?_ (by first | assumption | with_unfolding_all passes_own)
  intro i k1 ti u h tk hi F N
  dsimp only [jPs, jLed1] at F N
  rcases Nat.lt_or_eq_of_le hi with hlt | rfl
  · obtain ⟨x, t, hx, hx0⟩ : ∃ x t, vs[i]? = some (Value.str x t) ∧ vs0[i]? = some (Value.str x t) := by
      have hi : i < xs0.length := by omega
      refine ex1E (h0.get i xs0[i] (List.getElem?_eq_getElem hi)) fun t e => ?_
      exact ⟨_, t, by rw [hvs, List.getElem?_append_left hlt]; exact e, e⟩
    refine while_cut ?_
    intro Kw Kn hKw hKn
    k_steps
    refine' j_next (k' := k1 + 1) ?a1 ?a2 ?a3 hlt ?a4 ?a5 ?a6
    case a1 => k_asm
    case a2 => k_asm
    case a4 => exact rfl
    case a3 =>
      dsimp only [jLed1]
      rw [show vs0.take (i + 1) = vs0.take i ++ [Value.str x t] from by rw [List.take_add_one, hx0]; rfl]
      simp only [List.push_toArray]
    case a5 => exact rfl
    case a6 => exact Out.ends (by walk_at "mine out")
  · have hx : vs[vs0.length]? = some (Value.ref S) := by rw [hvs]; simp
    obtain ⟨y, u, hy, hy0⟩ : ∃ x t, vs[vs0.length + 1]? = some (Value.str x t) ∧ vs1[0]? = some (Value.str x t) := by
      have hi : 0 < xs1.length := by omega
      refine ex1E (h1.get 0 xs1[0] (List.getElem?_eq_getElem hi)) fun t e => ?_
      refine ⟨_, t, ?_, e⟩
      rw [hvs, List.getElem?_append_right (by omega), show vs0.length + 1 - vs0.length = 0 + 1 from by omega, List.getElem?_cons_succ, List.getElem?_append_left (by omega)]
      exact e
    refine while_cut ?_
    intro Kw Kn hKw hKn
    k_steps
    try (any_goals (exfalso; omega))
    unfold Stop
    refine join_while (base := 0 + vs0.length + 1) vs1.length (jLed2 _ _ _ vs1 _ _ _) (by k_asm) (by k_asm) rfl ?_ (by first | assumption | with_unfolding_all passes_own)
    intro i k2 ti u h tk hi2 F N
    dsimp only [jPs, jLed2] at F N
    rcases Nat.lt_or_eq_of_le hi2 with hlt | rfl
    · obtain ⟨z, t, hz2, hz0⟩ : ∃ x t, vs[vs0.length + 1 + i]? = some (Value.str x t) ∧ vs1[i]? = some (Value.str x t) := by
        have hi : i < xs1.length := by omega
        refine ex1E (h1.get i xs1[i] (List.getElem?_eq_getElem hi)) fun t e => ?_
        refine ⟨_, t, ?_, e⟩
        rw [hvs, List.getElem?_append_right (by omega), show vs0.length + 1 + i - vs0.length = i + 1 from by omega, List.getElem?_cons_succ, List.getElem?_append_left (by omega)]
        exact e
      clear hx hy
      refine while_cut ?_
      intro Kw Kn hKw hKn
      k_steps
      refine' j_next (k' := k2 + 1) ?a1 ?a2 ?a3 hlt ?a4 ?a5 ?a6
      case a1 => k_asm
      case a2 => k_asm
      case a4 => exact rfl
      case a3 =>
        dsimp only [jLed2]
        rw [show vs1.take (i + 1) = vs1.take i ++ [Value.str z t] from by rw [List.take_add_one, hz0]; rfl]
        simp only [List.push_toArray]
      case a5 => exact rfl
      case a6 => exact Out.ends (by walk_at "mine out")
    · clear hx hy
      have hx : vs[vs0.length + 1 + vs1.length]? = some (Value.ref S) := by
        rw [hvs, List.getElem?_append_right (by omega), show vs0.length + 1 + vs1.length - vs0.length = vs1.length + 1 from by omega, List.getElem?_cons_succ, List.getElem?_append_right (by omega), Nat.sub_self]; rfl
      have h1s := hsm.2
      have hJ := Nat.le_trans (cat_len _) h1s
      have hJ2 : (cat (xs0 ++ [Str.empty ++ Str.ofString "(?>.*?" ++ cat xs1 ++ Str.ofString ")", Str.ofString ".*"])).length ≤ 2100 := by
        refine Nat.le_trans (cat_len _) ?_
        simp only [List.map_append, List.sum_append, List.map_cons, List.map_nil, List.sum_cons, List.sum_nil, Str.length_append, jl1, jl2, jl3, jl4]; omega
      have hs1 : StrsAre ((vs1.take vs1.length).toArray).toList xs1 := by simpa using h1
      have hs2 : ∀ a b t u, StrsAre (((((vs0.take vs0.length).toArray).push (.str a t)).push (.str b u)).toList) (xs0 ++ [a, b]) := fun a b t u => by simpa using strs_two h0
      refine while_cut ?_
      intro Kw Kn hKw hKn
      k_steps
      try (any_goals (exfalso; omega))
      try dsimp only
      exact leaveP_in (by k_asm) (by k_asm) (by k_mem) (by assumption) fun G T => hret _ _ _ G T ⟨_, rfl⟩
end Mine
end
section
open PySem PySem.W PySem.Spec PySem.Calls PyProof.Rows
set_option maxRecDepth 100000
set_option maxHeartbeats 2000000
namespace Mine
theorem l0_O1 : True := by
  k_with_none
  trivial
section
theorem mro_object : mroOf (.type "object") = pure [.type "object"] := by rw [mroOf_type]; kernel_rfl
theorem lookup_object_new : typeLookup (.type "object") "__new__" = pure (some (.builtin "object.__new__")) := by rw [typeLookup_type, builtinLookup_eq_fast]; kernel_rfl
theorem conv_sub_object : isSubtype (.type "object") (.type "object") = pure true := by rw [isSubtype_type]; kernel_rfl
theorem called_object : TypeCalled "object" "object.__new__" "object.__init__" :=
  ⟨by decide +kernel, by decide +kernel, ⟨_, _, mro_object⟩, madeBy_type mro_object lookup_object_new (by decide +kernel), by decide +kernel, conv_sub_object, F.slot_object_init⟩
theorem typeCall_object : checkTypeCall "object" ⟨[], []⟩ = pure () := by kernel_rfl
theorem newCall_object : checkBuiltinCall "object.__new__" ⟨[.type "object"], []⟩ = pure () := by kernel_rfl
theorem madeHere_object : Bind.madeHere "object.__new__" (.type "object") = pure () := by kernel_rfl
theorem entry_object_new' : entryFor table "object.__new__" = some Builtin.«object.__new__» := entryFor_of_tree (by kernel_rfl)
noncomputable abbrev plainObj : Obj := { cls := .type "object", data := .plain }
theorem object_new_meets : Meets (Builtin.«object.__new__» ⟨[.type "object"], []⟩) (fun _ R s => R (.ok (.ret (.ref s.heap.objs.size))) { s with heap := s.heap.push plainObj }) := by
  refine Meets.of_wp fun prog w A R s hs => ?_
  obtain ⟨hp, g, d, tk, os⟩ := s
  have f2 := madeHere_object
  repeat (any_goals (first | assumption | wp_step))
  all_goals exact ⟨_, rfl, hs⟩
variable {prog : Program} {w : World} {A : Around} {E : Value → Shared → Prop} {s : Shared}
theorem args_object_init_0 (a : Value) : argsOk "object.__init__" ⟨[a], []⟩ := F.args_object_init_1 a
theorem object_init0 {self : Value} : Meets (Builtin.«object.__init__» ⟨[self], []⟩) (fun _ R s => R (.ok (.ret .none)) s) :=
  Meets.of_wp fun prog w A R s hs => wpAny_pure ⟨_, rfl, hs⟩
theorem call_object {Q : Value → Shared → Prop} (h : Q (.ref s.heap.objs.size) { s with heap := s.heap.push plainObj }) : wpAny (model prog w) A (call (.type "object") []) Q E s :=
  callType_meets (Q₁ := fun v s₁ => v = .ref s.heap.objs.size ∧ s₁ = { s with heap := s.heap.push plainObj }) called_object typeCall_object newCall_object entry_object_new' F.entry_object_init object_new_meets ⟨rfl, rfl⟩ fun obj s₁ hq => by
    obtain ⟨rfl, rfl⟩ := hq
    exact ⟨⟨_, Heap.get?_push_size _ rfl, rfl⟩, args_object_init_0 _, _, object_init0, rfl, h⟩
theorem call_objectK {h₀ : Heap} {L : Addr} {m : Str → Option Value} {news : List (Addr × Obj)} {Q : Value → Shared → Prop} (F : Fr h₀ L s.heap m) (N : News h₀ L s.heap news)
    (h : ∀ b h', Fr h₀ L h' m → News h₀ L h' ((b, plainObj) :: news) → (∀ p ∈ news, p.1 < b) → Q (.ref b) { s with heap := h' }) :
    wpAny (model prog w) A (call (.type "object") []) Q E s := by
  refine call_object (h s.heap.objs.size _ (F.keeps fun _ _ e => Heap.get?_push_of_some _ e) (fun p hp => ?_) fun p hp => Heap.lt_size (N p hp).1)
  rcases List.mem_cons.mp hp with rfl | hp
  · exact ⟨Heap.get?_push_size _ rfl, Nat.ne_of_gt F.ns.lt, next_is_new F⟩
  · exact ⟨Heap.get?_push_of_some _ (N p hp).1, (N p hp).2⟩
end
end Mine
end
section
open PySem PySem.W PySem.Spec PySem.Calls PyProof.Rows
set_option maxRecDepth 100000 
set_option maxHeartbeats 2000000 
namespace Mine
theorem lines_C6_0 : True := by
  k_with_none
  k_with "q" => (all_goals first | assumption | with_unfolding_all exact rfl)
  k_with "ar" => with_reducible first | assumption | (apply Ar.rm2; k_extra "q") | (apply Ar.rl0; k_extra "q") | (apply Ar.neg_; k_extra "q")
  k_with "mine enter" => (
      (case k3 => assumption)
      (case k5 => assumption)
      (case kT => assumption)
      (case k6 => k_is)
      (case k7 => k_is)
      (case k8 => (dsimp only [aA]; omega))
      (case k9 => exact BindsTo.of_eq rfl)
      (case c5 => decide)
      (case kB => exact locs rfl)
      (case c2 => exact rfl)
      (case c3 => exact rfl)
      (case c4 => exact rfl)
      (case' kk => skip)
      k_whole
      intro L' h' ps FL NL hps l0 lL gL
      (try dsimp only)
      (try k_fold))
  trivial
theorem parts_split {S : Addr} {xs0 : List Str} {vs : List Value} {r : List (Option Str)} (h : Are (PartIs S) vs (xs0.map some ++ none :: r)) : ∃ vs0 vs1, vs = vs0 ++ Value.ref S :: vs1 ∧ StrsAre vs0 xs0 ∧ Are (PartIs S) vs1 r := by
  induction xs0 generalizing vs with
  | nil =>
    cases h with
    | cons h q => exact ⟨[], _, by rw [show _ = Value.ref S from h]; rfl, .nil, q⟩
  | cons x xs ih =>
    cases h with
    | cons a q =>
      (refine ex1E a fun t e => ?_; try clear a)
      (refine ex2E (ih q) fun vs0 vs1 qq2 => ?_; refine and3E qq2 fun e' a c => ?_; try clear qq2)
      subst e
      exact ⟨_ :: vs0, vs1, by rw [e']; rfl, .cons _ _ a, c⟩
theorem parts_two {S : Addr} {xs0 xs1 : List Str} {vs : List Value} (h : Are (PartIs S) vs (xs0.map some ++ none :: (xs1.map some ++ [none]))) :
    ∃ vs0 vs1, vs = vs0 ++ Value.ref S :: (vs1 ++ [Value.ref S]) ∧ StrsAre vs0 xs0 ∧ StrsAre vs1 xs1 := by
  (refine ex2E (parts_split h) fun vs0 v qq2 => ?_; refine and3E qq2 fun qq20 a q => ?_; try clear qq2; rcases qq20 with rfl)
  (refine ex2E (parts_split q) fun vs1 v' qq2 => ?_; refine and3E qq2 fun qq20 b q' => ?_; try clear qq2; rcases qq20 with rfl)
  cases q'
  exact ⟨vs0, vs1, rfl, a, b⟩
section
variable {w : World} {mean : ExcName → Option Value} {mg mb : Str → Option Value} {A : Around} {Q : Value → Shared → Prop} {E : Value → Shared → Prop} {s : Shared} {h₀ : Heap} {L : Addr} {m : Str → Option Value} {ps : Array Value}
  {x : Str} {t t2 : Tok} {S r : Addr} {toks : List PTok} {xs0 xs1 : List Str} {vs vs0 vs1 : List Value} {k : Nat}
theorem use_trans (hok : ∀ k ∈ toks, k.ok) (hap : apart toks) (hx : x = ⟨(tx toks).toArray⟩) (hparts : toks.map PTok.part = xs0.map some ++ none :: (xs1.map some ++ [none])) (hl : x.length ≤ 100)
    (F : Fr h₀ L s.heap m) (X : (hd.heap_1_1 w.params).In h₀) (N : News h₀ L s.heap [(S, plainObj), (198, tabObj ps)]) (hS : S ≠ 198) (ok : TabOk ps) (T : Top topProg LO mean mg mb h₀)
    (hh : A.handled = none) (hd : A.depth + 6 ≤ recursionLimit) (hu : A.units + 30 ≤ cLine)
    (h : ∀ r vs vs0 vs1 k h' tk' ps', Fr h₀ L h' m → News h₀ L h' [(r, listOf vs.toArray k), (S, plainObj), (198, tabObj ps')] → TabOk ps' → S < r ∨ r ≠ 198 → vs = vs0 ++ Value.ref S :: (vs1 ++ [Value.ref S]) → StrsAre vs0 xs0 → StrsAre vs1 xs1 → r ≠ 198 → Q (.ref r) { s with heap := h', toks := tk' }) :
    wpAny (model PySem.Challenge.rw_ij0107_01.row.prog w) A (call (.ref 203) [.str x t, .ref S, .str (Str.ofString ".") t2]) Q E s := by
  refine use (news := [(S, plainObj)]) (c_trans w x t t2 S toks hok hap hx) F X N (fun q hq => by cases hq with | head => exact hS | tail _ hq => cases hq) ok T hh ⟨hl, _, (N _ (.head _)).1, rfl⟩ hd hu fun v h' tk' ps' F' N' ok' G hv hlt => ?_
  (refine ex3E hv fun r vs k qq3 => ?_; try clear hv; refine and4E qq3 fun qq30 hr hrn hA => ?_; try clear qq3; rcases qq30 with rfl)
  rw [hparts] at hA
  (refine ex2E (parts_two hA) fun vs0 vs1 qq2 => ?_; refine and3E qq2 fun e a b => ?_; try clear qq2)
  have n198 : r ≠ 198 := fun q => by
    subst q
    rw [(N (198, tabObj ps) (.tail _ (.head _))).1] at hrn; cases hrn
  refine h r vs vs0 vs1 k h' tk' ps' F' (fun p hp => ?_) ok' (.inr n198) e a b n198
  rcases List.mem_cons.mp hp with rfl | hp
  · refine ⟨hr, fun q => ?_, ?_⟩
    · (refine ex3E F.ns fun oL a1 a2 qq3 => ?_; refine and2E qq3 fun hL a3 => ?_; try clear qq3)
      subst q
      rw [hL] at hrn; cases hrn
    · cases q : h₀.get? r with
      | none => rfl
      | some o => rw [F.keep _ _ q] at hrn; cases hrn
  · exact N' p hp
theorem use_join (hvs : vs = vs0 ++ Value.ref S :: (vs1 ++ [Value.ref S])) (h0 : StrsAre vs0 xs0) (h1 : StrsAre vs1 xs1) (hne : xs1 ≠ []) (hsz : xs0.length ≤ 100 ∧ xs1.length ≤ 100) (hsm : (xs0.map (·.length)).sum ≤ 1000 ∧ (xs1.map (·.length)).sum ≤ 1000)
    (F : Fr h₀ L s.heap m) (X : (hd.heap_1_1 w.params).In h₀) (N : News h₀ L s.heap [(r, listOf vs.toArray k), (S, plainObj), (198, tabObj ps)]) (hS : S ≠ 198) (hr : r ≠ 198) (ok : TabOk ps) (T : Top topProg LO mean mg mb h₀)
    (hh : A.handled = none) (hd : A.depth + 3 ≤ recursionLimit) (hu : A.units + 30 ≤ cLine)
    (h : ∀ t' h' tk' ps', Fr h₀ L h' m → News h₀ L h' [(r, listOf vs.toArray k), (S, plainObj), (198, tabObj ps')] → TabOk ps' → Q (.str (joined xs0 xs1) t') { s with heap := h', toks := tk' }) :
    wpAny (model PySem.Challenge.rw_ij0107_01.row.prog w) A (call (.ref 210) [.ref r, .ref S]) Q E s := by
  refine use (news := [(r, listOf vs.toArray k), (S, plainObj)]) (c_join w S r vs vs0 vs1 k xs0 xs1 hvs h0 h1 hne hsz hsm) F X N (fun q hq => by
    cases hq with
    | head => exact hr
    | tail _ hq => cases hq with | head => exact hS | tail _ hq => cases hq) ok T hh (N _ (.head _)).1 hd hu fun v h' tk' ps' F' N' ok' G hv hlt => ?_
  (refine ex1E hv fun t' qq1 => ?_; try clear hv; rcases qq1 with rfl)
  exact h t' h' tk' ps' F' N' ok'
end
theorem lines_C6_1 : True := by
  k_with "call type:object" => (
      k_here
      k_dflt (refine' call_objectK ?k1 ?k2 ?_; (case k1 => k_asm); (case k2 => k_asm); k_whole)
      intro b h' F' N' l1
      (try k_lt l1))
  k_with "call ref" => (
      k_here
      k_dflt (first
      | (refine' use_trans hok hap hx hparts hp ?k1 ?k2 ?k3 ?kS ?k5 ?k6 ?k7 ?k9 ?kA ?_; (case k1 => k_asm); (case k2 => k_asm); (case k3 => k_asm); (case kS => k_ne); (case k5 => assumption); (case k6 => k_asm); (case k7 => exact rfl); (case k9 => (dsimp only [aA, Around.deeper]; omega)); (case kA => (dsimp only [aA, Around.deeper]; omega)); k_whole; intro r vs vs0 vs1 k h' tk' ps' F' N' ok' l' hvs h0 h1 n198)
      | (refine' use_join hvs h0 h1 hne hsz hsm ?k1 ?k2 ?k3 ?kS ?kr ?k5 ?k6 ?k7 ?k9 ?kA ?_; (case k1 => k_asm); (case k2 => k_asm); (case k3 => k_asm); (case kS => k_ne); (case kr => assumption); (case k5 => assumption); (case k6 => k_asm); (case k7 => exact rfl); (case k9 => (dsimp only [aA, Around.deeper]; omega)); (case kA => (dsimp only [aA, Around.deeper]; omega)); k_whole; intro t' h' tk' ps' F' N' ok')))
  trivial
theorem c_translate (w : World) (x : Str) (t : Tok) (toks : List PTok) (xs0 xs1 : List Str) (hok : ∀ k ∈ toks, k.ok) (hap : apart toks) (hx : x = ⟨(tx toks).toArray⟩) (hparts : toks.map PTok.part = xs0.map some ++ none :: (xs1.map some ++ [none])) (hne : xs1 ≠ []) (hsz : xs0.length ≤ 100 ∧ xs1.length ≤ 100) (hsm : (xs0.map (·.length)).sum ≤ 1000 ∧ (xs1.map (·.length)).sum ≤ 1000) :
    Pure w 8 50 184 [.str x t] (fun _ => x.length ≤ 100) (fun _ _ v => ∃ t', v = .str (joined xs0 xs1) t') := by
  unfold Pure
  k_fill
  intro mean mg mb dp un fr gd Q E s X T hT hp hdp hun hret
  refine' enter (binds := [(Str.ofString "pat", .str x t)]) ?k3 ?k5 ?kT ?k6 ?k7 ?k8 ?k9 ?kB ?kk ?c2 ?c3 ?c4 ?c5
  walk_at "mine enter"
  k_steps
  exact leaveP_in (by k_asm) (by k_asm) (by k_mem) (by assumption) fun G T => hret _ _ _ G T ⟨_, rfl⟩
end Mine
end
section
open PySem PySem.W PySem.Spec PySem.Calls PyProof.Rows
set_option maxRecDepth 100000 
set_option maxHeartbeats 2000000 
namespace Mine

theorem lines_C7_0 : True := by
  k_with_none
  k_with "q" => (all_goals first | assumption | with_unfolding_all exact rfl)
  k_with "ar" => with_reducible first | assumption | (apply Ar.sz; k_extra "q") | (apply Ar.rl0; k_extra "q") | (apply Ar.pt0; k_extra "q") | (apply Ar.i1; k_extra "q") | (apply Ar.i3; k_extra "q") | (apply Ar.i4; k_extra "q") | (apply Ar.i9; k_extra "q") | (apply Ar.i9q; k_extra "q") | (apply Ar.i10q; k_extra "q") | (apply Ar.i0q; k_extra "q") | (apply Ar.i17; k_extra "q") | (apply Ar.i19; k_extra "q") | (apply Ar.i12; k_extra "q")
  k_with "execs cons Assign" => first
    | (k_here; (fail_if_success (fail_if_success (with_reducible refine sh_bin ?_))); k_dflt (refine asg_bin (by k_asm) (by k_asm) (by rfl) (by rfl) (by rfl) ?_); k_whole; intro t' m1 h' tk F' N'; (try k_sweep))
    | (k_here; (fail_if_success (fail_if_success (with_reducible refine sh_sub ?_))); k_dflt (refine asg_item (by k_asm) (by k_asm) (by rfl) (by rfl) (by rfl) (by intro _ _; with_unfolding_all rfl) (by walk_at "mine at") (by rfl) ?_); k_whole; intro t' m1 h' tk F' N'; (try k_sweep))
    | (k_here; (fail_if_success (fail_if_success (with_reducible refine sh_asg ?_))); k_dflt (refine asg_int (by k_asm) (by k_asm) (by rfl) (by rfl) (by rfl) (by rfl) ?_); k_whole; intro t' m1 h' tk F' N'; (try k_sweep))
    | (k_here; (fail_if_success (fail_if_success (with_reducible refine sh_lit ?_))); k_dflt (refine asg_int (by k_asm) (by k_asm) (by rfl) (by rfl) (by rfl) (by rfl) ?_); k_whole; intro t' m1 h' tk F' N'; (try k_sweep))
  k_with "execs cons AugAssign" => (k_here; (fail_if_success (fail_if_success (with_reducible refine sh_aug ?_))); k_dflt (refine aug_int (by k_asm) (by k_asm) (by rfl) (by rfl) (by rfl) (by rfl) ?_); k_whole; intro t' m1 h' tk F' N'; (try k_sweep))
  k_with "isTrue Compare Name" => first
    | (k_here; (fail_if_success (fail_if_success (with_reducible refine sh_test ?_))); k_dflt (refine test_t (by k_asm) (by rfl) (by rfl) (by rfl) (by walk_at "mine yes") ?_); k_whole; intro tk)
    | (k_here; (fail_if_success (fail_if_success (with_reducible refine sh_test ?_))); k_dflt (refine test_f (by k_asm) (by rfl) (by rfl) (by rfl) (by walk_at "mine no") ?_); k_whole; intro tk)
  k_with "isTrue Compare Subscript" => first
    | (k_here; (fail_if_success (fail_if_success (with_reducible refine sh_item ?_))); k_dflt (refine item_t (by k_asm) (by rfl) (by rfl) (by rfl) (by intro _ _; with_unfolding_all rfl) (by walk_at "mine at") (by rfl) (by walk_at "mine yes") ?_); k_whole; intro tk)
    | (k_here; (fail_if_success (fail_if_success (with_reducible refine sh_item ?_))); k_dflt (refine item_f (by k_asm) (by rfl) (by rfl) (by rfl) (by intro _ _; with_unfolding_all rfl) (by walk_at "mine at") (by rfl) (by walk_at "mine no") ?_); k_whole; intro tk)
  k_with "mine at" => first
    | exact At.of (k := 0) (by assumption) rfl (by omega) (by omega)
    | exact At.of (k := 1) (by assumption) rfl (by omega) (by omega)
    | exact At.of (k := 2) (by assumption) rfl (by omega) (by omega)
    | exact At.of (k := 3) (by assumption) rfl (by omega) (by omega)
  k_with "mine yes" => first
    | exact decide_eq_true (by omega)
    | exact int_yes (by omega)
    | exact int_ney (by omega)
    | exact str_ney (by walk_at "mine sgn")
    | decide +kernel
  k_with "mine no" => first
    | exact decide_eq_false (by omega)
    | exact int_no (by omega)
    | exact int_nen (by omega)
    | exact (by walk_at "mine sgn")
    | decide +kernel
  k_with "mine sgn" => first
    | exact one_ne (d := 46) (by decide +kernel) (by assumption)
    | exact one_ne (d := 42) (by decide +kernel) (by assumption)
    | exact one_ne (d := 91) (by decide +kernel) (by assumption)
    | exact one_ne (d := 92) (by decide +kernel) (by assumption)
    | exact one_ne (d := 94) (by decide +kernel) (by assumption)
  k_with "mine out" => (repeat (first | exact Out.kst rfl | exact Out.base | exact (fun _ _ => rfl) | refine Out.upd rfl ?_))
  k_with "storeName" => (
      k_here
      k_dflt (refine storeL (by k_asm) (by k_asm) ?_ (by rfl) (by rfl))
      k_whole
      intro m1 h' tk F' N'
      (try k_sweep))
  k_with "ite" => first | with_reducible refine ite_tt ?_ | with_reducible refine ite_ff ?_
  k_with "execs cons" => first | (with_reducible refine seqT1 ?_; intro tk) | (with_reducible refine seqT ?_; intro Kc tk hKc) | (with_reducible refine blkT ?_; intro Qd tk hQd)
  k_with "Nxt" => (k_dflt (dsimp only [Nxt]))
  k_with "Kont" => first | (k_dflt (refine hKc _ _ ?_; try clear hKc)) | (k_dflt (refine hQd _ _ ?_; try clear hQd)) | (k_dflt (refine hQc _ _ ?_; try clear hQc)) | (k_dflt (refine kont_app (by assumption) ?_))
  k_with "mine enter" => (
      (case k3 => assumption)
      (case k5 => assumption)
      (case kT => assumption)
      (case k6 => k_is)
      (case k7 => k_is)
      (case k8 => (dsimp only [aA]; omega))
      (case k9 => exact BindsTo.of_eq rfl)
      (case c5 => decide)
      (case kB => exact locs rfl)
      (case c2 => exact rfl)
      (case c3 => exact rfl)
      (case c4 => exact rfl)
      (case' kk => skip)
      k_whole
      intro L' h' ps FL NL hps l0 lL gL
      (try dsimp only)
      (try k_fold))
  trivial
inductive StepAt : List Nat → Nat → Bool → List Nat → Nat → Prop
  | any (rest : List Nat) : StepAt (46 :: 42 :: rest) 1 true [] 1
  | plain (c d : Nat) (rest : List Nat) (h1 : c ≠ 46) (h2 : c ≠ 91) (h3 : c ≠ 92) (h4 : d ≠ 42) : StepAt (c :: d :: rest) 0 false [c] 1
  | esc (c d : Nat) (rest : List Nat) (h4 : d ≠ 42) : StepAt (92 :: c :: d :: rest) 0 false [c] 2
  | set (c d : Nat) (rest : List Nat) (h1 : c ≠ 94) (h3 : c ≠ 92) (h4 : d ≠ 42) : StepAt (91 :: c :: 93 :: d :: rest) 0 false [c] 3
  | sq (d : Nat) (rest : List Nat) (h4 : d ≠ 42) : StepAt (91 :: 92 :: 91 :: 93 :: d :: rest) 0 false [91] 4
  | not (d : Nat) (rest : List Nat) (h4 : d ≠ 42) : StepAt (91 :: 94 :: 47 :: 93 :: d :: rest) 0 true [47] 4
section
variable {prog : Program} {w : World} {A : Around} {E : Value → Shared → Prop} {s : Shared} {x : Str} {t : Tok} {Q : Value → Shared → Prop} {h₀ : Heap} {L : Addr} {m : Str → Option Value} {news : List (Addr × Obj)}
theorem item_atL {value slice : Expr} {n k : Nat} {i : Int} {l : List Nat} {c : Nat} (hd : x.cps.toList.drop n = l) (hl : l[k]? = some c) (hi : i = (n : Int) + (k : Int)) (hsz : x.length ≤ 5000) (hq : ∀ t', Q (.str ⟨#[c]⟩ t') { s with toks := s.toks + 1 })
    (hs : subscripted slice false (.str x t) (.int i u) = operate [.str x t, .int i u] (getItem (.str x t) (.int i u)) := by with_unfolding_all rfl)
    (ht : ∀ r, letTemporaryGo value (.str x t) r = pure () := by intro _; with_unfolding_all rfl) :
    wpAny (model prog w) A (subscriptTail value slice (.str x t) (.int i u)) Q E s := by
  have h2 : x.cps.toList[n + k]? = some c := by rw [← List.getElem?_drop, hd]; exact hl
  have h3 : n + k < x.length := by
    have := (List.getElem?_eq_some_iff.mp h2).1
    simpa [Str.length] using this
  have e : Txt.item x i = ⟨#[c]⟩ := by
    subst hi
    unfold Txt.item Txt.charAt
    rw [seqIndex_of (by omega) (by omega)]
    have : (((n : Int) + (k : Int)).toNat) = n + k := by omega
    rw [this]
    show (⟨#[(x.cps[n + k]?).getD 0]⟩ : Str) = _
    rw [show x.cps[n + k]? = some c by simpa using h2]; rfl
  refine item_str ?_ (by omega) (by omega) (fun _ => by rw [e]; exact hq _) hs ht
  unfold fitsSsize
  simp
  omega
theorem slice_one {value slice : Expr} {i j : Int} {ui uj : Tok} {n c : Nat} (k : Nat) {l : List Nat} (F : Fr h₀ L s.heap m) (N : News h₀ L s.heap news) (hd : x.cps.toList.drop n = l) (hi : i = (n : Int) + (k : Int)) (hj : j = i + 1) (hz : x.length ≤ 5000) (hr : l[k]? = some c)
    (h : ∀ h' t' tk, Fr h₀ L h' m → News h₀ L h' news → Q (.str ⟨#[c]⟩ t') { s with heap := h', toks := tk })
    (hs : subscripted slice false (.str x t) (.ref s.heap.objs.size) = operate [.ref s.heap.objs.size, .str x t] (getItem (.str x t) (.ref s.heap.objs.size)) := by with_unfolding_all rfl)
    (ht : ∀ r, letTemporaryGo value (.str x t) r = pure () := by intro _; with_unfolding_all rfl) :
    wpAny (model prog w) A (subscriptTail value slice (.str x t) (.ref s.heap.objs.size)) Q E { s with heap := s.heap.push { cls := .type "slice", data := .fields #[.int i ui, .int j uj, .none] } } := by
  have h2 : x.cps.toList[n + k]? = some c := by rw [← List.getElem?_drop, hd]; exact hr
  have h3 : n + k < x.length := by
    have := (List.getElem?_eq_some_iff.mp h2).1
    simpa [Str.length] using this
  refine slice_strN_ss F N (fun h' t' tk F' N' => ?_) hs ht (by have := sizeLine_eq; omega)
  have e := eq_of_beq (slice_closesL (x := x) (i := i) (j := j) (by omega) (by omega) (by omega))
  rw [e]
  have e1 : i.toNat = n + k := by omega
  have e2 : (j - i).toNat = 1 := by omega
  rw [e1, e2, ← List.drop_drop, hd]
  have e3 : ((l.drop k).take 1).toArray = #[c] := by
    rw [List.take_one, List.head?_drop, hr]; rfl
  rw [e3]
  exact h h' t' tk F' N'
end
theorem lines_C7_1 : True := by
  k_with "subscriptTail Name Name str int" => (
      k_here
      with_reducible show wpAny _ _ (subscriptTail _ _ (Value.str _ _) (Value.int _ _)) _ _ _
      k_dflt (
        first
        | refine item_atL (k := 0) (by assumption) rfl (by omega) (by omega) ?_
        | refine item_atL (k := 1) (by assumption) rfl (by omega) (by omega) ?_
        | refine item_atL (k := 2) (by assumption) rfl (by omega) (by omega) ?_
        | refine item_atL (k := 3) (by assumption) rfl (by omega) (by omega) ?_)
      intro t')
  k_with "compareOp Eq str str" => (
      k_here
      k_dflt (
        first
        | (refine eq_no (one_ne (d := 46) (by decide +kernel) (by assumption)) ?_)
        | (refine eq_no (one_ne (d := 42) (by decide +kernel) (by assumption)) ?_)
        | (refine eq_no (one_ne (d := 91) (by decide +kernel) (by assumption)) ?_)
        | (refine eq_no (one_ne (d := 92) (by decide +kernel) (by assumption)) ?_)
        | (refine eq_no (one_ne (d := 94) (by decide +kernel) (by assumption)) ?_)
        | (refine eq_no (by decide +kernel) ?_)
        | (refine eq_yes (by decide +kernel) ?_)))
  k_with "subscriptTail Name Slice str ref" => (
      k_here
      k_dflt (
        first
        | (refine' slice_one 0 ?k1 ?k2 ?k3 ?k4 ?k5 ?k6 ?k8 ?_ ?k9 ?kA; (case k1 => k_asm); (case k2 => k_asm); (case k3 => assumption); (case k4 => omega); (case k5 => omega); (case k6 => omega); (case k8 => exact rfl); (case k9 => with_unfolding_all rfl); (case kA => (intro _; with_unfolding_all rfl)); k_whole)
        | (refine' slice_one 1 ?k1 ?k2 ?k3 ?k4 ?k5 ?k6 ?k8 ?_ ?k9 ?kA; (case k1 => k_asm); (case k2 => k_asm); (case k3 => assumption); (case k4 => omega); (case k5 => omega); (case k6 => omega); (case k8 => exact rfl); (case k9 => with_unfolding_all rfl); (case kA => (intro _; with_unfolding_all rfl)); k_whole)
        | (refine' slice_one 2 ?k1 ?k2 ?k3 ?k4 ?k5 ?k6 ?k8 ?_ ?k9 ?kA; (case k1 => k_asm); (case k2 => k_asm); (case k3 => assumption); (case k4 => omega); (case k5 => omega); (case k6 => omega); (case k8 => exact rfl); (case k9 => with_unfolding_all rfl); (case kA => (intro _; with_unfolding_all rfl)); k_whole)
        | (refine' slice_one 3 ?k1 ?k2 ?k3 ?k4 ?k5 ?k6 ?k8 ?_ ?k9 ?kA; (case k1 => k_asm); (case k2 => k_asm); (case k3 => assumption); (case k4 => omega); (case k5 => omega); (case k6 => omega); (case k8 => exact rfl); (case k9 => with_unfolding_all rfl); (case kA => (intro _; with_unfolding_all rfl)); k_whole)
        | (refine' slice_one 4 ?k1 ?k2 ?k3 ?k4 ?k5 ?k6 ?k8 ?_ ?k9 ?kA; (case k1 => k_asm); (case k2 => k_asm); (case k3 => assumption); (case k4 => omega); (case k5 => omega); (case k6 => omega); (case k8 => exact rfl); (case k9 => with_unfolding_all rfl); (case kA => (intro _; with_unfolding_all rfl)); k_whole))
      intro h' t' tk' F' N')
  trivial
noncomputable abbrev tupO (xs : Array Value) : Obj := { cls := .type "tuple", data := .seq xs }
noncomputable def StepPost (many : Nat) (barred : Bool) (sign : List Nat) (a : Nat) (h h' : Heap) (v : Value) : Prop :=
  ∃ r r1 ta tm tz, v = .ref r ∧ h'.get? r = some (tupO #[.ref r1, .int (a : Int) ta]) ∧ h'.get? r1 = some (tupO #[.int (many : Int) tm, .bool barred, .str ⟨sign.toArray⟩ tz]) ∧ h.get? r = none ∧ h.get? r1 = none ∧ @Ne Nat r r1 ∧ @Ne Nat r 198 ∧ @Ne Nat r1 198
theorem step_end {h h' : Heap} {L : Addr} {news : List (Addr × Obj)} {r r1 : Addr} {a b : Int} {ta tm tz : Tok} {many n : Nat} {barred : Bool} {sign : List Nat} {z : Str} (N : News (gh h) L h' news)
    (hr : (r, tupO #[.ref r1, .int a ta]) ∈ news) (hr1 : (r1, tupO #[.int b tm, .bool barred, .str z tz]) ∈ news) (hlt : @LT.lt Nat _ r1 r) (h198 : @LT.lt Nat _ 198 r1) (ha : a = (n : Int)) (hb : b = (many : Int)) (hz : z = ⟨sign.toArray⟩) : StepPost many barred sign n h h' (.ref r) := by
  subst ha; subst hb; subst hz
  exact ⟨r, r1, ta, tm, tz, rfl, (N _ hr).1, (N _ hr1).1, gh_none (N _ hr).2.2 (fun q => by cases q; exact absurd (Nat.lt_trans h198 hlt) (Nat.lt_irrefl _)), gh_none (N _ hr1).2.2 (fun q => by cases q; exact absurd h198 (Nat.lt_irrefl _)), Nat.ne_of_gt hlt, Nat.ne_of_gt (Nat.lt_trans h198 hlt), Nat.ne_of_gt h198⟩
theorem step_tail {l : List Nat} {many : Nat} {barred : Bool} {sign : List Nat} {n : Nat} (h : StepAt l many barred sign n) : ∃ d r, l.drop n = d :: r ∧ ((d = 42 ∧ many = 1) ∨ (d ≠ 42 ∧ many = 0)) := by
  induction h with
  | any r => exact ⟨_, _, rfl, .inl ⟨rfl, rfl⟩⟩
  | plain c d r h1 h2 h3 h4 => exact ⟨_, _, rfl, .inr ⟨h4, rfl⟩⟩
  | esc c d r h4 => exact ⟨_, _, rfl, .inr ⟨h4, rfl⟩⟩
  | set c d r h1 h3 h4 => exact ⟨_, _, rfl, .inr ⟨h4, rfl⟩⟩
  | sq d r h4 => exact ⟨_, _, rfl, .inr ⟨h4, rfl⟩⟩
  | not d r h4 => exact ⟨_, _, rfl, .inr ⟨h4, rfl⟩⟩
theorem c_step (w : World) (body : Str) (t u : Tok) (i : Nat) (l : List Nat) (many : Nat) (barred : Bool) (sign : List Nat) (n : Nat) (hd : body.cps.toList.drop i = l) (hS : StepAt l many barred sign n) :
    Pure w 3 20 217 [.str body t, .int (i : Int) u] (fun _ => body.length ≤ 5000) (StepPost many barred sign (i + n + many)) := by
  unfold Pure
  k_fill
  intro mean mg mb dp un fr gd Q E s X T hT hp hdp hun hret
  refine' enter (binds := [(Str.ofString "body", .str body t), (Str.ofString "at", .int (i : Int) u)]) ?k3 ?k5 ?kT ?k6 ?k7 ?k8 ?k9 ?kB ?kk ?c2 ?c3 ?c4 ?c5
  walk_at "mine enter"
  refine entL (by first | assumption | with_unfolding_all passes_own) ?_
  intro A1 e1 Qc Ec hQc hEc
  have hp : body.length ≤ 5000 := hp
  refine seq_mid (X := Tok × Tok) (h₀ := gh s.heap) (L := L') (gens := s.gens) (drawn := s.drawn) (os := s.os) (fun x => [(Str.ofString "sign", .str ⟨sign.toArray⟩ x.1), (Str.ofString "at", .int ((i + n : Nat) : Int) x.2), (Str.ofString "barred", .bool barred), (Str.ofString "body", .str body t)]) [(198, tabObj ps)] ?first ?second
  case first =>
    clear hret hQc hdp hun
    revert hd
    induction hS
    all_goals (
      intro hd
      k_steps
      exact MidP.of (_, _) (by k_asm) (by k_asm) (allC rfl (allC rfl (allC rfl (allC rfl fun _ h => (nomatch h))))) (allC (by k_mem) fun _ h => (nomatch h)))
  case second =>
    (intro qr0 h1 tk1 m1 F1 N1; obtain ⟨t1, t2⟩ := qr0)
    (refine ex2E (step_tail hS) fun d rest qq2 => ?_; refine and2E qq2 fun e0 hd9 => ?_; try clear qq2)
    have hd0 : body.cps.toList.drop (i + n) = d :: rest := by rw [← List.drop_drop, hd, e0]
    rcases hd9 with ⟨rfl, em⟩ | ⟨d42, em⟩
    all_goals (
      k_steps
      try dsimp only
      refine leaveP_in (by k_asm) (by k_asm) (by k_mem) (by assumption) fun G T => hret _ _ _ G T ?_
      refine' step_end ?a1 ?a2 ?a3 ?a4 ?a5 ?a6 ?a7 ?a8
      case a1 => k_asm
      case a2 => k_mem
      case a3 => k_mem
      case a4 => omega
      case a5 => omega
      case a6 => omega
      case a7 => first | rfl | omega
      case a8 => first | rfl | decide +kernel)
end Mine
end
section
open PySem PySem.W PySem.Spec PySem.Calls PyProof.Rows
set_option maxRecDepth 100000
set_option maxHeartbeats 2000000
namespace Mine
theorem l0_D8 : True := by
  k_with_none
  k_with "q" => (all_goals first | assumption | with_unfolding_all exact rfl)
  k_with "ar" => with_reducible first | assumption | (apply Ar.i6q; k_extra "q")
  trivial
theorem rl1 : (Str.ofString "(?s:").length = 4 := by decide +kernel
theorem rl2 : (Str.ofString ")\\Z").length = 3 := by decide +kernel
theorem rl3 : Str.empty.length = 0 := by decide +kernel
theorem slice_mid (body : Str) : Txt.slice (Str.empty ++ Str.ofString "(?s:" ++ body ++ Str.ofString ")\\Z") (some 4) (some (-3)) = body := by
  rw [Str.empty_append]
  have hlen : (Str.ofString "(?s:" ++ body ++ Str.ofString ")\\Z").length = body.length + 7 := by
    rw [Str.length_append, Str.length_append, rl1, rl2]; omega
  have e : ∀ x : Str, x.length = body.length + 7 → Txt.slice x (some 4) (some (-3)) = Txt.slice x (some 4) (some ((body.length : Int) + 4)) := by
    intro x hx
    have q : Builtin.Str.strSliceIndices (some 4) (some (-3)) 1 x.length = Builtin.Str.strSliceIndices (some 4) (some ((body.length : Int) + 4)) 1 x.length := by
      rw [hx]
      unfold Builtin.Str.strSliceIndices
      dsimp only
      have a1 : ((if (-3 : Int) < 0 then -3 + ((body.length + 7 : Nat) : Int) else -3)) = (body.length : Int) + 4 := by rw [if_pos (by decide)]; omega
      have a2 : (if (body.length : Int) + 4 < 0 then (body.length : Int) + 4 + ((body.length + 7 : Nat) : Int) else (body.length : Int) + 4) = (body.length : Int) + 4 := if_neg (by omega)
      rw [a1, a2]
    unfold Txt.slice
    rw [q]
  rw [e _ hlen]
  have c := eq_of_beq (slice_closesL (x := Str.ofString "(?s:" ++ body ++ Str.ofString ")\\Z") (i := 4) (j := (body.length : Int) + 4) (by omega) (by omega) (by rw [hlen]; omega))
  rw [c]
  have e1 : (4 : Int).toNat = (Str.ofString "(?s:").cps.toList.length := by decide +kernel
  have e2 : ((body.length : Int) + 4 - 4).toNat = body.cps.toList.length := by
    have : body.cps.toList.length = body.length := by simp [Str.length]
    omega
  rw [e1, e2]
  simp only [Str.cps_append, Array.toList_append, List.append_assoc, List.drop_left', List.take_left']
theorem read_same (body : Str) : ((Str.empty ++ Str.ofString "(?s:" ++ body ++ Str.ofString ")\\Z") == (Str.ofString "(?s:" ++ body ++ Str.ofString ")\\Z")) = true := by
  rw [Str.empty_append]; exact beq_self_eq_true _
end Mine
end
section
open PySem PySem.W PySem.Spec PySem.Calls PyProof.Rows
set_option maxRecDepth 100000
set_option maxHeartbeats 2000000
namespace Mine
theorem l0_D9 : True := by
  k_with_none
  trivial
structure Sg where
  many : Nat
  barred : Bool
  sign : List Nat
inductive Stp
  | one (g : Sg)
  | grp (b : List Sg)
inductive RTok
  | one (cs : List Nat) (g : Sg) (n : Nat)
  | opn
  | cls
noncomputable def RTok.text : RTok → List Nat
  | .one cs _ _ => cs
  | .opn => [40, 63, 62, 46, 42, 63]
  | .cls => [41]
noncomputable def rtx (l : List RTok) : List Nat := l.flatMap RTok.text
noncomputable def Good : List RTok → Prop
  | [] => True
  | .one cs g n :: r => (StepAt (cs ++ rtx r) g.many g.barred g.sign n ∧ cs.length = n + g.many ∧ ∃ c l, cs = c :: l ∧ c ≠ 40 ∧ c ≠ 41) ∧ Good r
  | _ :: r => Good r
noncomputable def fin : List RTok → List Stp → Option (List Sg) → Option (List Stp)
  | [], a, none => some a
  | .one _ g _ :: r, a, none => fin r (a ++ [.one g]) none
  | .one _ g _ :: r, a, some b => fin r a (some (b ++ [g]))
  | .opn :: r, a, none => fin r a (some [])
  | .cls :: r, a, some b => fin r (a ++ [.grp b]) none
  | _, _, _ => none
noncomputable def TupIn (objs : List (Addr × Obj)) (g : Sg) (v : Value) : Prop := ∃ r tm tz, v = .ref r ∧ (r, tupO #[.int (g.many : Int) tm, .bool g.barred, .str ⟨g.sign.toArray⟩ tz]) ∈ objs
noncomputable def StepIn (objs : List (Addr × Obj)) : Stp → Value → Prop
  | .one g, v => TupIn objs g v
  | .grp b, v => ∃ r t Lr vs k, v = .ref r ∧ (r, tupO #[.int 2 t, .bool false, .ref Lr]) ∈ objs ∧ (Lr, listOf vs.toArray k) ∈ objs ∧ Are (TupIn objs) vs b
theorem Are.mono {β : Type} {R R' : β → Value → Prop} (h : ∀ b v, R b v → R' b v) {vs : List Value} {bs : List β} (q : Are R vs bs) : Are R' vs bs := by
  induction q with
  | nil => exact .nil
  | cons a _ ih => exact .cons (h _ _ a) ih
theorem TupIn.mono {o o' : List (Addr × Obj)} (h : ∀ p ∈ o, p ∈ o') {g : Sg} {v : Value} (q : TupIn o g v) : TupIn o' g v := by
  (refine ex3E q fun r tm tz qq3 => ?_; try clear q; refine and2E qq3 fun e m => ?_; try clear qq3)
  exact ⟨r, tm, tz, e, h _ m⟩
theorem StepIn.mono {o o' : List (Addr × Obj)} (h : ∀ p ∈ o, p ∈ o') {g : Stp} {v : Value} (q : StepIn o g v) : StepIn o' g v := by
  cases g with
  | one g => exact TupIn.mono h q
  | grp b =>
    (refine ex5E q fun r t Lr vs k qq5 => ?_; try clear q; refine and4E qq5 fun e m n a => ?_; try clear qq5)
    exact ⟨r, t, Lr, vs, k, e, h _ m, h _ n, a.mono fun _ _ q => TupIn.mono h q⟩
structure RG where
  L1 : Addr
  vs : List Value
  k : Nat
  acc : List Sg
structure RS where
  i : Nat
  todo : List RTok
  acc : List Stp
  vs : List Value
  k : Nat
  kR : Nat
  g : Option RG
  objs : List (Addr × Obj)
  ps : Array Value
  ti : Tok
noncomputable def rLed (R L0 : Addr) (c : RS) : List (Addr × Obj) :=
  match c.g with
  | none => (R, listOf #[.ref L0] c.kR) :: (L0, listOf c.vs.toArray c.k) :: (198, tabObj c.ps) :: c.objs
  | some g => (R, listOf #[.ref L0, .ref g.L1] c.kR) :: (g.L1, listOf g.vs.toArray g.k) :: (L0, listOf c.vs.toArray c.k) :: (198, tabObj c.ps) :: c.objs
structure RP (R L0 : Addr) (body : Str) (res : List Stp) (c : RS) : Prop where
  text : body.cps.toList.drop c.i = rtx c.todo
  good : Good c.todo
  fin : fin c.todo c.acc (c.g.map RG.acc) = some res
  are : Are (StepIn c.objs) c.vs c.acc
  areG : ∀ g, c.g = some g → Are (TupIn c.objs) g.vs g.acc
  size : c.vs.length + c.todo.length ≤ 500
  sizeG : ∀ g, c.g = some g → g.vs.length + c.todo.length ≤ 500
  tab : TabOk c.ps
  at_ : c.i ≤ body.length
  n198 : ∀ p ∈ c.objs, @Ne Nat p.1 198
  nG : ∀ g, c.g = some g → @Ne Nat g.L1 198
  ap : ∀ p ∈ c.objs, @Ne Nat p.1 R ∧ @Ne Nat p.1 L0
  apG : ∀ g, c.g = some g → (∀ p ∈ c.objs, @Ne Nat p.1 g.L1) ∧ @Ne Nat g.L1 R ∧ @Ne Nat g.L1 L0
noncomputable abbrev rPs (c : RS) : List (Str × Value) := [(Str.ofString "at", .int (c.i : Int) c.ti)]
noncomputable def rStored : List Str := [Str.ofString "at", Str.ofString "step", Str.ofString "held"]
noncomputable abbrev rMu (c : RS) : Nat := c.todo.length
section
variable {prog : Program} {w : World} {A : Around} {E : Value → Shared → Prop} {Q : Flow → Shared → Prop} {s : Shared} {env : Env} {h₀ : Heap} {L : Addr}
noncomputable abbrev RPost (h₀ : Heap) (L : Addr) (s : Shared) (R L0 : Addr) (body : Str) (res : List Stp) (m₀ : Str → Option Value) (Q : Flow → Shared → Prop) (c : RS) : Flow → Shared → Prop :=
  KswPost h₀ L s (rLed R L0) rPs (fun _ => True) rStored m₀ (RP R L0 body res) rMu Q c
theorem read_while {test : Expr} {bd : List Stmt} {pos : Pos} {m₀ : Str → Option Value} {R L0 D : Addr} {oD : Obj} {ps : Array Value} {t : Tok} {body : Str} {res : List Stp} {toks : List RTok} {k kR : Nat}
    (F : Fr h₀ L s.heap m₀) (N : News h₀ L s.heap [(D, oD), (R, listOf #[.ref L0] kR), (L0, listOf #[] k), (198, tabObj ps)]) (hi : m₀ (Str.ofString "at") = some (.int 0 t)) (hps : TabOk ps)
    (hb : body = ⟨(rtx toks).toArray⟩) (hg : Good toks) (hf : fin toks [] none = some res) (hz : toks.length ≤ 500)
    (turn : ∀ (c : RS) (u : Str → Option Value) h tk, RP R L0 body res c → Fr h₀ L h (kstB (fun z => if rStored.contains z then u z else m₀ z) (rPs c)) → News h₀ L h (rLed R L0 c) →
      wpAny (model prog w) A (isTrue test env (eval test env)) (fun bb s₂ =>
        if bb = true then wpAny (model prog w) A (execs bd env) (RPost h₀ L s R L0 body res m₀ Q c) E s₂ else Q .next s₂) E { s with heap := h, toks := tk })
    (hE : PassesOwn (model prog w) A env E := by passes_own) :
    wpAny (model prog w) A (exec (.While test bd [] pos) env) Q E s := by
  refine ksw_while (rLed R L0) rPs (fun _ => True) rStored (RP R L0 body res) rMu ⟨0, toks, [], [], k, kR, none, [], ps, t⟩ F (fun p hp => N p (List.mem_cons_of_mem _ hp)) trivial ?_
    ⟨by subst hb; rfl, hg, hf, .nil, fun _ h => (by cases h), by simpa using hz, fun _ h => (by cases h), hps, Nat.zero_le _, fun _ h => (by cases h), fun _ h => (by cases h), fun _ h => (by cases h), fun _ h => (by cases h)⟩ (fun c u h tk _ hp F N => turn c u h tk hp F N) hE
  intro p hp
  cases hp with
  | head => exact hi
  | tail _ hp => cases hp
end
end Mine
end
section
open PySem PySem.W PySem.Spec PySem.Calls PyProof.Rows
set_option maxRecDepth 100000
set_option maxHeartbeats 2000000
namespace Mine
theorem l0_D10 : True := by
  k_with_none
  k_with "q" => (all_goals first | assumption | with_unfolding_all exact rfl)
  k_with "ar" => with_reducible first | assumption | (apply Ar.sz; k_extra "q") | (apply Ar.i8; k_extra "q") | (apply Ar.i6; k_extra "q") | (apply Ar.i26; k_extra "q")
  trivial
theorem slice_clip {x : Str} {i c : Nat} (hi : i ≤ x.length) : Txt.slice x (some (i : Int)) (some ((i : Int) + (c : Int))) = ⟨((x.cps.toList.drop i).take c).toArray⟩ := by
  have hlen : x.cps.toList.length = x.length := by simp [Str.length]
  by_cases h : i + c ≤ x.length
  · have e := eq_of_beq (slice_closesL (x := x) (i := (i : Int)) (j := (i : Int) + (c : Int)) (by omega) (by omega) (by omega))
    rw [e]
    have e1 : ((i : Int)).toNat = i := by omega
    have e2 : ((i : Int) + (c : Int) - (i : Int)).toNat = c := by omega
    rw [e1, e2]
  · have q : Builtin.Str.strSliceIndices (some (i : Int)) (some ((i : Int) + (c : Int))) 1 x.length = Builtin.Str.strSliceIndices (some (i : Int)) (some (x.length : Int)) 1 x.length := by
      unfold Builtin.Str.strSliceIndices
      dsimp only
      have a1 : (if (i : Int) + (c : Int) < 0 then (i : Int) + (c : Int) + (x.length : Int) else (i : Int) + (c : Int)) = (i : Int) + (c : Int) := if_neg (by omega)
      have a2 : (if (x.length : Int) < 0 then (x.length : Int) + (x.length : Int) else (x.length : Int)) = (x.length : Int) := if_neg (by omega)
      have a3 : min ((i : Int) + (c : Int)) (x.length : Int) = min (x.length : Int) (x.length : Int) := by omega
      rw [a1, a2, a3]
      simp only [show ((1 : Int) > 0) from by decide, if_true]
    have q' : Txt.slice x (some (i : Int)) (some ((i : Int) + (c : Int))) = Txt.slice x (some (i : Int)) (some (x.length : Int)) := by
      unfold Txt.slice
      rw [q]
    rw [q']
    have e := eq_of_beq (slice_closesL (x := x) (i := (i : Int)) (j := (x.length : Int)) (by omega) (by omega) (by omega))
    rw [e]
    have e1 : ((i : Int)).toNat = i := by omega
    rw [e1, List.take_of_length_le (by rw [List.length_drop]; omega), List.take_of_length_le (by rw [List.length_drop]; omega)]
theorem six_no {c : Nat} {l : List Nat} (h : c ≠ 40) : ((⟨((c :: l).take 6).toArray⟩ : Str) == Str.ofString "(?>.*?") = false := by
  rw [beq_eq_false_iff_ne]
  intro q
  have e : Str.ofString "(?>.*?" = ⟨#[40, 63, 62, 46, 42, 63]⟩ := by decide +kernel
  rw [e] at q
  injection q with q
  have := congrArg Array.toList q
  simp at this
  exact h this.1
theorem six_yes {l : List Nat} : ((⟨((40 :: 63 :: 62 :: 46 :: 42 :: 63 :: l).take 6).toArray⟩ : Str) == Str.ofString "(?>.*?") = true := by
  show ((⟨#[40, 63, 62, 46, 42, 63]⟩ : Str) == Str.ofString "(?>.*?") = true
  decide +kernel
section
variable {prog : Program} {w : World} {A : Around} {E : Value → Shared → Prop} {s : Shared} {x : Str} {t : Tok} {Q : Value → Shared → Prop} {h₀ : Heap} {L : Addr} {m : Str → Option Value} {news : List (Addr × Obj)}
theorem slice_six {value slice : Expr} {i j : Int} {ui uj : Tok} {n : Nat} {l : List Nat} (F : Fr h₀ L s.heap m) (N : News h₀ L s.heap news) (hd : x.cps.toList.drop n = l) (hi : i = (n : Int)) (hj : j = i + 6) (hn : n ≤ x.length) (hz : x.length ≤ 5000)
    (h : ∀ h' t' tk, Fr h₀ L h' m → News h₀ L h' news → Q (.str ⟨(l.take 6).toArray⟩ t') { s with heap := h', toks := tk })
    (hs : subscripted slice false (.str x t) (.ref s.heap.objs.size) = operate [.ref s.heap.objs.size, .str x t] (getItem (.str x t) (.ref s.heap.objs.size)) := by with_unfolding_all rfl)
    (ht : ∀ r, letTemporaryGo value (.str x t) r = pure () := by intro _; with_unfolding_all rfl) :
    wpAny (model prog w) A (subscriptTail value slice (.str x t) (.ref s.heap.objs.size)) Q E { s with heap := s.heap.push { cls := .type "slice", data := .fields #[.int i ui, .int j uj, .none] } } := by
  subst hi; subst hj; subst hd
  refine slice_strN_ss F N (fun h' t' tk F' N' => ?_) hs ht (by have := sizeLine_eq; omega)
  have e := slice_clip (x := x) (i := n) (c := 6) hn
  rw [show ((n : Int) + ((6 : Nat) : Int)) = (n : Int) + 6 from rfl] at e
  rw [e]
  exact h h' t' tk F' N'
end
section
variable {w : World} {mean : ExcName → Option Value} {mg mb : Str → Option Value} {A : Around} {Q : Value → Shared → Prop} {E : Value → Shared → Prop} {s : Shared} {h₀ : Heap} {L : Addr} {m : Str → Option Value} {ps : Array Value}
  {body : Str} {t u : Tok} {i : Nat} {l : List Nat} {many : Nat} {barred : Bool} {sign : List Nat} {n : Nat}
theorem use_step (front objs : List (Addr × Obj)) (hd0 : body.cps.toList.drop i = l) (hS : StepAt l many barred sign n) (hl : body.length ≤ 5000)
    (F : Fr h₀ L s.heap m) (X : (hd.heap_1_1 w.params).In h₀) (N : News h₀ L s.heap (front ++ (198, tabObj ps) :: objs)) (h1 : ∀ q ∈ front, q.1 ≠ 198) (h2 : ∀ q ∈ objs, q.1 ≠ 198) (ok : TabOk ps) (T : Top topProg LO mean mg mb h₀)
    (hh : A.handled = none) (hd : A.depth + 3 ≤ recursionLimit) (hu : A.units + 20 ≤ cLine)
    (h : ∀ r r1 ta tm tz h' tk' ps', Fr h₀ L h' m → News h₀ L h' ((r, tupO #[.ref r1, .int ((i + n + many : Nat) : Int) ta]) :: (r1, tupO #[.int (many : Int) tm, .bool barred, .str ⟨sign.toArray⟩ tz]) :: (front ++ (198, tabObj ps') :: objs)) → TabOk ps' →
      @Ne Nat r r1 → @Ne Nat r 198 → @Ne Nat r1 198 → (∀ p ∈ front ++ objs, @Ne Nat p.1 r ∧ @Ne Nat p.1 r1) → Q (.ref r) { s with heap := h', toks := tk' }) :
    wpAny (model PySem.Challenge.rw_ij0107_01.row.prog w) A (call (.ref 217) [.str body t, .int (i : Int) u]) Q E s := by
  refine use (news := front ++ objs) (c_step w body t u i l many barred sign n hd0 hS) F X (fun p hp => N p ?_) (fun q hq => ?_) ok T hh hl hd hu fun v h' tk' ps' F' N' ok' G hv hlt => ?_
  · simp only [List.mem_append, List.mem_cons, List.not_mem_nil, or_false] at hp ⊢
    rcases hp with (hp | hp) | hp
    · exact .inl hp
    · exact .inr (.inr hp)
    · exact .inr (.inl hp)
  · rcases List.mem_append.mp hq with hq | hq
    · exact h1 q hq
    · exact h2 q hq
  (refine ex5E hv fun r r1 ta tm tz qq5 => ?_; try clear hv; refine and8E qq5 fun qq50 e1 e2 n1 n2 a b c => ?_; try clear qq5; rcases qq50 with rfl)
  have fresh : ∀ {z : Addr}, s.heap.get? z = none → @Ne Nat z L ∧ h₀.get? z = none := by
    intro z hz
    refine ⟨fun q => ?_, ?_⟩
    · (refine ex3E F.ns fun oL a1 a2 qq3 => ?_; refine and2E qq3 fun hL a3 => ?_; try clear qq3)
      rw [show z = L from q, hL] at hz; cases hz
    · cases q : h₀.get? z with
      | none => rfl
      | some o => rw [F.keep _ _ q] at hz; cases hz
  refine h r r1 ta tm tz h' tk' ps' F' (fun p hp => ?_) ok' a b c (fun p hp => ?_)
  · rcases List.mem_cons.mp hp with rfl | hp
    · exact ⟨e1, fresh n1⟩
    rcases List.mem_cons.mp hp with rfl | hp
    · exact ⟨e2, fresh n2⟩
    refine N' p ?_
    simp only [List.mem_append, List.mem_cons, List.not_mem_nil, or_false] at hp ⊢
    rcases hp with hp | hp | hp
    · exact .inl (.inl hp)
    · exact .inr hp
    · exact .inl (.inr hp)
  · have hp' : p ∈ front ++ (198, tabObj ps) :: objs := by
      rcases List.mem_append.mp hp with hp | hp
      · exact List.mem_append_left _ hp
      · exact List.mem_append_right _ (.tail _ hp)
    have e := (N p hp').1
    refine ⟨fun q => ?_, fun q => ?_⟩
    · rw [show p.1 = r from q, n1] at e; cases e
    · rw [show p.1 = r1 from q, n2] at e; cases e
end
end Mine
end
section
open PySem PySem.W PySem.Spec PySem.Calls PyProof.Rows
set_option maxRecDepth 100000
set_option maxHeartbeats 2000000
namespace Mine
theorem l0_D11 : True := by
  k_with_none
  k_with "q" => (all_goals first | assumption | with_unfolding_all exact rfl)
  k_with "ar" => with_reducible first | assumption | (apply Ar.n12; k_extra "q") | (apply Ar.ru2; k_extra "q")
  trivial
section
variable {prog : Program} {w : World} {A : Around} {E : Value → Shared → Prop} {Q : Flow → Shared → Prop} {s : Shared} {h₀ : Heap} {L R L0 : Addr} {body : Str} {res : List Stp} {m₀ m' : Str → Option Value}
theorem drop_more {body : Str} {i a : Nat} {cs l : List Nat} (h : body.cps.toList.drop i = cs ++ l) (hc : cs.length = a) (hi : i ≤ body.length) : body.cps.toList.drop (i + a) = l ∧ i + a ≤ body.length := by
  refine ⟨?_, ?_⟩
  · rw [← List.drop_drop, h, ← hc]; simp
  · have := congrArg List.length h
    rw [List.length_drop, show body.cps.toList.length = body.length from by simp [Str.length], List.length_append] at this
    omega
theorem allLt_ne {d : Nat} {l : List (Addr × Obj)} (h : AllLt d l) : ∀ p ∈ l, @Ne Nat p.1 d := by
  induction l with
  | nil => intro p hp; cases hp
  | cons a l ih =>
    intro p hp
    rcases List.mem_cons.mp hp with e | hp
    · rw [e]; exact Nat.ne_of_lt h.1
    · exact ih h.2 p hp
theorem allLt_ne4 {a b c : Prop} {d : Nat} {l : List (Addr × Obj)} (h : a ∧ b ∧ c ∧ AllLt d l) : ∀ p ∈ l, @Ne Nat p.1 d := allLt_ne h.2.2.2
theorem rd_one {i k kR n : Nat} {cs : List Nat} {sg : Sg} {rest : List RTok} {acc : List Stp} {vs : List Value} {objs : List (Addr × Obj)} {ps ps' : Array Value} {ti ti' tm tz : Tok} {h' : Heap} {tk : Nat} {r1 : Addr} {news : List (Addr × Obj)}
    (F : Fr h₀ L h' m') (N : News h₀ L h' news) (hP : RP R L0 body res ⟨i, .one cs sg n :: rest, acc, vs, k, kR, none, objs, ps, ti⟩)
    (hsub : ∀ p ∈ (R, listOf #[.ref L0] kR) :: (L0, listOf (vs.toArray.push (.ref r1)) (k + 1)) :: (198, tabObj ps') :: (r1, tupO #[.int (sg.many : Int) tm, .bool sg.barred, .str ⟨sg.sign.toArray⟩ tz]) :: objs, p ∈ news)
    (hm : m' (Str.ofString "at") = some (.int ((i + n + sg.many : Nat) : Int) ti')) (hs : ∀ z, (∀ p ∈ [(Str.ofString "at", Value.none)], z ≠ p.1) → rStored.contains z = false → m' z = m₀ z)
    (ok : TabOk ps') (h8 : @Ne Nat r1 198) (hR : @Ne Nat r1 R) (h0 : @Ne Nat r1 L0) :
    RPost h₀ L s R L0 body res m₀ Q ⟨i, .one cs sg n :: rest, acc, vs, k, kR, none, objs, ps, ti⟩ .next { s with heap := h', toks := tk } := by
  obtain ⟨h1, ⟨⟨_, hcl, _⟩, hg⟩, h3, h4, h5, h6, h7, _, h9, h10, h11, hap, hapG⟩ := hP
  dsimp only at h1 hcl hg h3 h4 h6 h9 h10 hap
  refine and2E (drop_more (cs := cs) (l := rtx rest) h1 hcl h9) fun d1 d2 => ?_
  refine ksw_end ⟨i + n + sg.many, rest, acc ++ [.one sg], vs ++ [.ref r1], k + 1, kR, none, (r1, tupO #[.int (sg.many : Int) tm, .bool sg.barred, .str ⟨sg.sign.toArray⟩ tz]) :: objs, ps', ti'⟩ F N (fun p hp => hsub p ?_) trivial (fun p hp => ?_) (fun z hz hc => hs z (fun p hp => ?_) hc) ?_ (Nat.lt_succ_self _)
  · rw [List.push_toArray]; exact hp
  · cases hp with
    | head => exact hm
    | tail _ hp => cases hp
  · cases hp with
    | head => exact hz (Str.ofString "at", .int ((i + n + sg.many : Nat) : Int) ti') (.head _)
    | tail _ hp => cases hp
  · refine ⟨by rw [Nat.add_assoc]; exact d1, hg, h3, ?_, fun _ h => (by cases h), ?_, fun _ h => (by cases h), ok, by rw [Nat.add_assoc]; exact d2, ?_, fun _ h => (by cases h), ?_, fun _ h => (by cases h)⟩
    · exact (h4.mono fun _ _ q => StepIn.mono (fun _ hp => .tail _ hp) q).append (.cons ⟨r1, tm, tz, rfl, .head _⟩ .nil)
    · simp only [List.length_append, List.length_cons, List.length_nil] at h6 ⊢; omega
    · intro p hp
      rcases List.mem_cons.mp hp with rfl | hp
      · exact h8
      · exact h10 p hp
    · intro p hp
      rcases List.mem_cons.mp hp with rfl | hp
      · exact ⟨hR, h0⟩
      · exact hap p hp
theorem rd_oneG {i k kR n k1 : Nat} {cs : List Nat} {sg : Sg} {rest : List RTok} {acc : List Stp} {gacc : List Sg} {vs gvs : List Value} {objs : List (Addr × Obj)} {ps ps' : Array Value} {ti ti' tm tz : Tok} {h' : Heap} {tk : Nat} {r1 L1 : Addr} {news : List (Addr × Obj)}
    (F : Fr h₀ L h' m') (N : News h₀ L h' news) (hP : RP R L0 body res ⟨i, .one cs sg n :: rest, acc, vs, k, kR, some ⟨L1, gvs, k1, gacc⟩, objs, ps, ti⟩)
    (hsub : ∀ p ∈ (R, listOf #[.ref L0, .ref L1] kR) :: (L1, listOf (gvs.toArray.push (.ref r1)) (k1 + 1)) :: (L0, listOf vs.toArray k) :: (198, tabObj ps') :: (r1, tupO #[.int (sg.many : Int) tm, .bool sg.barred, .str ⟨sg.sign.toArray⟩ tz]) :: objs, p ∈ news)
    (hm : m' (Str.ofString "at") = some (.int ((i + n + sg.many : Nat) : Int) ti')) (hs : ∀ z, (∀ p ∈ [(Str.ofString "at", Value.none)], z ≠ p.1) → rStored.contains z = false → m' z = m₀ z)
    (ok : TabOk ps') (h8 : @Ne Nat r1 198) (hR : @Ne Nat r1 R) (h0 : @Ne Nat r1 L0) (hL : @Ne Nat r1 L1) :
    RPost h₀ L s R L0 body res m₀ Q ⟨i, .one cs sg n :: rest, acc, vs, k, kR, some ⟨L1, gvs, k1, gacc⟩, objs, ps, ti⟩ .next { s with heap := h', toks := tk } := by
  obtain ⟨h1, ⟨⟨_, hcl, _⟩, hg⟩, h3, h4, h5, h6, h7, _, h9, h10, h11, hap, hapG⟩ := hP
  dsimp only at h1 hcl hg h3 h4 h6 h9 h10 hap
  refine and2E (drop_more (cs := cs) (l := rtx rest) h1 hcl h9) fun d1 d2 => ?_
  refine ksw_end ⟨i + n + sg.many, rest, acc, vs, k, kR, some ⟨L1, gvs ++ [.ref r1], k1 + 1, gacc ++ [sg]⟩, (r1, tupO #[.int (sg.many : Int) tm, .bool sg.barred, .str ⟨sg.sign.toArray⟩ tz]) :: objs, ps', ti'⟩ F N (fun p hp => hsub p ?_) trivial (fun p hp => ?_) (fun z hz hc => hs z (fun p hp => ?_) hc) ?_ (Nat.lt_succ_self _)
  · rw [List.push_toArray]; exact hp
  · cases hp with
    | head => exact hm
    | tail _ hp => cases hp
  · cases hp with
    | head => exact hz (Str.ofString "at", .int ((i + n + sg.many : Nat) : Int) ti') (.head _)
    | tail _ hp => cases hp
  · refine and3E (hapG _ rfl) fun p1 p2 p3 => ?_
    have q5 := h5 _ rfl
    have q7 := h7 _ rfl
    have q11 := h11 _ rfl
    dsimp only at p1 p2 p3 q5 q7 q11
    simp only [List.length_cons] at h6 q7
    refine ⟨by rw [Nat.add_assoc]; exact d1, hg, h3, h4.mono fun _ _ q => StepIn.mono (fun _ hp => .tail _ hp) q, ?_, ?_, ?_, ok, by rw [Nat.add_assoc]; exact d2, ?_, ?_, ?_, ?_⟩
    · intro g hg'; cases hg'
      exact (q5.mono fun _ _ q => TupIn.mono (fun _ hp => .tail _ hp) q).append (.cons ⟨r1, tm, tz, rfl, .head _⟩ .nil)
    · show vs.length + rest.length ≤ 500; omega
    · intro g hg'; cases hg'; show (gvs ++ [Value.ref r1]).length + rest.length ≤ 500; rw [List.length_append, List.length_singleton]; omega
    · intro p hp
      rcases List.mem_cons.mp hp with rfl | hp
      · exact h8
      · exact h10 p hp
    · intro g hg'; cases hg'; exact q11
    · intro p hp
      rcases List.mem_cons.mp hp with rfl | hp
      · exact ⟨hR, h0⟩
      · exact hap p hp
    · intro g hg'; cases hg'
      refine ⟨fun p hp => ?_, p2, p3⟩
      rcases List.mem_cons.mp hp with rfl | hp
      · exact hL
      · exact p1 p hp
theorem rd_opn {i k kR k1 : Nat} {rest : List RTok} {acc : List Stp} {vs : List Value} {objs : List (Addr × Obj)} {ps : Array Value} {ti ti' : Tok} {j : Int} {h' : Heap} {tk : Nat} {L1 : Addr} {news : List (Addr × Obj)}
    (F : Fr h₀ L h' m') (N : News h₀ L h' news) (hP : RP R L0 body res ⟨i, .opn :: rest, acc, vs, k, kR, none, objs, ps, ti⟩)
    (hsub : ∀ p ∈ (R, listOf #[.ref L0, .ref L1] (kR + 1)) :: (L1, listOf #[] k1) :: (L0, listOf vs.toArray k) :: (198, tabObj ps) :: objs, p ∈ news)
    (hm : m' (Str.ofString "at") = some (.int j ti')) (hj : j = ((i + 6 : Nat) : Int)) (hs : ∀ z, (∀ p ∈ [(Str.ofString "at", Value.none)], z ≠ p.1) → rStored.contains z = false → m' z = m₀ z)
    (h8 : @Ne Nat L1 198) (hR : @Ne Nat L1 R) (h0 : @Ne Nat L1 L0) (ho : ∀ p ∈ objs, @Ne Nat p.1 L1) :
    RPost h₀ L s R L0 body res m₀ Q ⟨i, .opn :: rest, acc, vs, k, kR, none, objs, ps, ti⟩ .next { s with heap := h', toks := tk } := by
  subst hj
  obtain ⟨h1, hg, h3, h4, h5, h6, h7, ok, h9, h10, h11, hap, hapG⟩ := hP
  dsimp only at h1 hg h3 h4 h6 h9 h10 hap ok
  refine and2E (drop_more (a := 6) (cs := [40, 63, 62, 46, 42, 63]) (l := rtx rest) h1 rfl h9) fun d1 d2 => ?_
  refine ksw_end ⟨i + 6, rest, acc, vs, k, kR + 1, some ⟨L1, [], k1, []⟩, objs, ps, ti'⟩ F N (fun p hp => hsub p hp) trivial (fun p hp => ?_) (fun z hz hc => hs z (fun p hp => ?_) hc) ?_ (Nat.lt_succ_self _)
  · cases hp with
    | head => exact hm
    | tail _ hp => cases hp
  · cases hp with
    | head => exact hz (Str.ofString "at", .int ((i + 6 : Nat) : Int) ti') (.head _)
    | tail _ hp => cases hp
  · simp only [List.length_cons] at h6
    refine ⟨d1, hg, h3, h4, ?_, ?_, ?_, ok, d2, h10, ?_, hap, ?_⟩
    · intro g hg'; cases hg'; exact .nil
    · show vs.length + rest.length ≤ 500; omega
    · intro g hg'; cases hg'; show 0 + rest.length ≤ 500; omega
    · intro g hg'; cases hg'; exact h8
    · intro g hg'; cases hg'; exact ⟨ho, hR, h0⟩
theorem rd_cls {i k kR kR' k1 : Nat} {rest : List RTok} {acc : List Stp} {gacc : List Sg} {vs gvs : List Value} {objs : List (Addr × Obj)} {ps : Array Value} {ti ti' t2 : Tok} {j : Int} {h' : Heap} {tk : Nat} {r L1 : Addr} {news : List (Addr × Obj)}
    (F : Fr h₀ L h' m') (N : News h₀ L h' news) (hP : RP R L0 body res ⟨i, .cls :: rest, acc, vs, k, kR, some ⟨L1, gvs, k1, gacc⟩, objs, ps, ti⟩)
    (hsub : ∀ p ∈ (R, listOf #[.ref L0] kR') :: (L0, listOf (vs.toArray.push (.ref r)) (k + 1)) :: (198, tabObj ps) :: (r, tupO #[.int 2 t2, .bool false, .ref L1]) :: (L1, listOf gvs.toArray k1) :: objs, p ∈ news)
    (hm : m' (Str.ofString "at") = some (.int j ti')) (hj : j = ((i + 1 : Nat) : Int)) (hs : ∀ z, (∀ p ∈ [(Str.ofString "at", Value.none)], z ≠ p.1) → rStored.contains z = false → m' z = m₀ z)
    (h8 : @Ne Nat r 198) (hR : @Ne Nat r R) (h0 : @Ne Nat r L0) :
    RPost h₀ L s R L0 body res m₀ Q ⟨i, .cls :: rest, acc, vs, k, kR, some ⟨L1, gvs, k1, gacc⟩, objs, ps, ti⟩ .next { s with heap := h', toks := tk } := by
  subst hj
  obtain ⟨h1, hg, h3, h4, h5, h6, h7, ok, h9, h10, h11, hap, hapG⟩ := hP
  dsimp only at h1 hg h3 h4 h6 h9 h10 hap ok
  refine and2E (drop_more (a := 1) (cs := [41]) (l := rtx rest) h1 rfl h9) fun d1 d2 => ?_
  refine ksw_end ⟨i + 1, rest, acc ++ [.grp gacc], vs ++ [.ref r], k + 1, kR', none, (r, tupO #[.int 2 t2, .bool false, .ref L1]) :: (L1, listOf gvs.toArray k1) :: objs, ps, ti'⟩ F N (fun p hp => hsub p ?_) trivial (fun p hp => ?_) (fun z hz hc => hs z (fun p hp => ?_) hc) ?_ (Nat.lt_succ_self _)
  · rw [List.push_toArray]; exact hp
  · cases hp with
    | head => exact hm
    | tail _ hp => cases hp
  · cases hp with
    | head => exact hz (Str.ofString "at", .int ((i + 1 : Nat) : Int) ti') (.head _)
    | tail _ hp => cases hp
  · refine and3E (hapG _ rfl) fun p1 p2 p3 => ?_
    have q5 := h5 _ rfl
    have q11 := h11 _ rfl
    dsimp only at p1 p2 p3 q5 q11
    simp only [List.length_cons] at h6
    refine ⟨d1, hg, h3, ?_, fun _ h => (by cases h), ?_, fun _ h => (by cases h), ok, d2, ?_, fun _ h => (by cases h), ?_, fun _ h => (by cases h)⟩
    · exact (h4.mono fun _ _ q => StepIn.mono (fun _ hp => .tail _ (.tail _ hp)) q).append (.cons ⟨r, t2, L1, gvs, k1, rfl, .head _, .tail _ (.head _), q5.mono fun _ _ q => TupIn.mono (fun _ hp => .tail _ (.tail _ hp)) q⟩ .nil)
    · show (vs ++ [Value.ref r]).length + rest.length ≤ 500; rw [List.length_append, List.length_singleton]; omega
    · intro p hp
      rcases List.mem_cons.mp hp with rfl | hp
      · exact h8
      rcases List.mem_cons.mp hp with rfl | hp
      · exact q11
      · exact h10 p hp
    · intro p hp
      rcases List.mem_cons.mp hp with rfl | hp
      · exact ⟨hR, h0⟩
      rcases List.mem_cons.mp hp with rfl | hp
      · exact ⟨p2, p3⟩
      · exact hap p hp
end
end Mine
end
section
open PySem PySem.W PySem.Spec PySem.Calls PyProof.Rows
set_option maxRecDepth 100000 
set_option maxHeartbeats 2000000 
namespace Mine

theorem lines_C8_0 : True := by
  k_with_none
  k_with "q" => (all_goals first | assumption | with_unfolding_all exact rfl)
  k_with "ar" => with_reducible first | assumption | (apply Ar.le0; k_extra "q") | (apply Ar.rm2; k_extra "q") | (apply Ar.sz; k_extra "q") | (apply Ar.sn; k_extra "q") | (apply Ar.snp; k_extra "q") | (apply Ar.rl0; k_extra "q") | (apply Ar.subL; k_extra "q") | (apply Ar.nel; k_extra "q") | (apply Ar.neg_; k_extra "q") | (apply Ar.nes; k_extra "q") | (apply Ar.pm0; k_extra "q") | (apply Ar.pl0; k_extra "q") | (apply Ar.pg0; k_extra "q") | (apply Ar.pg1; k_extra "q") | (apply Ar.pm1e; k_extra "q") | (apply Ar.pl1e; k_extra "q") | (apply Ar.pg1e; k_extra "q") | (apply Ar.pg2; k_extra "q") | (apply Ar.pg3; k_extra "q") | (apply Ar.subE; k_extra "q")
  k_with "execs cons Assign" => first
    | (k_here; (fail_if_success (fail_if_success (with_reducible refine sh_bin ?_))); k_dflt (refine asg_bin (by k_asm) (by k_asm) (by rfl) (by rfl) (by rfl) ?_); k_whole; intro t' m1 h' tk F' N'; (try k_sweep))
    | (k_here; (fail_if_success (fail_if_success (with_reducible refine sh_sub ?_))); k_dflt (refine asg_item (by k_asm) (by k_asm) (by rfl) (by rfl) (by rfl) (by intro _ _; with_unfolding_all rfl) (by walk_at "mine at") (by rfl) ?_); k_whole; intro t' m1 h' tk F' N'; (try k_sweep))
    | (k_here; (fail_if_success (fail_if_success (with_reducible refine sh_asg ?_))); k_dflt (refine asg_int (by k_asm) (by k_asm) (by rfl) (by rfl) (by rfl) (by rfl) ?_); k_whole; intro t' m1 h' tk F' N'; (try k_sweep))
    | (k_here; (fail_if_success (fail_if_success (with_reducible refine sh_lit ?_))); k_dflt (refine asg_int (by k_asm) (by k_asm) (by rfl) (by rfl) (by rfl) (by rfl) ?_); k_whole; intro t' m1 h' tk F' N'; (try k_sweep))
  k_with "execs cons AugAssign" => (k_here; (fail_if_success (fail_if_success (with_reducible refine sh_aug ?_))); k_dflt (refine aug_int (by k_asm) (by k_asm) (by rfl) (by rfl) (by rfl) (by rfl) ?_); k_whole; intro t' m1 h' tk F' N'; (try k_sweep))
  k_with "isTrue Compare Name" => first
    | (k_here; (fail_if_success (fail_if_success (with_reducible refine sh_test ?_))); k_dflt (refine test_t (by k_asm) (by rfl) (by rfl) (by rfl) (by walk_at "mine yes") ?_); k_whole; intro tk)
    | (k_here; (fail_if_success (fail_if_success (with_reducible refine sh_test ?_))); k_dflt (refine test_f (by k_asm) (by rfl) (by rfl) (by rfl) (by walk_at "mine no") ?_); k_whole; intro tk)
  k_with "isTrue Compare Subscript" => first
    | (k_here; (fail_if_success (fail_if_success (with_reducible refine sh_item ?_))); k_dflt (refine item_t (by k_asm) (by rfl) (by rfl) (by rfl) (by intro _ _; with_unfolding_all rfl) (by walk_at "mine at") (by rfl) (by walk_at "mine yes") ?_); k_whole; intro tk)
    | (k_here; (fail_if_success (fail_if_success (with_reducible refine sh_item ?_))); k_dflt (refine item_f (by k_asm) (by rfl) (by rfl) (by rfl) (by intro _ _; with_unfolding_all rfl) (by walk_at "mine at") (by rfl) (by walk_at "mine no") ?_); k_whole; intro tk)
  k_with "mine at" => first
    | exact At.of (k := 0) (by assumption) rfl (by omega) (by omega)
    | exact At.of (k := 1) (by assumption) rfl (by omega) (by omega)
    | exact At.of (k := 2) (by assumption) rfl (by omega) (by omega)
    | exact At.of (k := 3) (by assumption) rfl (by omega) (by omega)
  k_with "mine yes" => first
    | exact decide_eq_true (by omega)
    | exact int_yes (by omega)
    | exact int_ney (by omega)
    | exact str_ney (by walk_at "mine sgn")
    | decide +kernel
  k_with "mine no" => first
    | exact decide_eq_false (by omega)
    | exact int_no (by omega)
    | exact int_nen (by omega)
    | exact (by walk_at "mine sgn")
    | decide +kernel
  k_with "mine sgn" => first
    | exact one_ne (d := 41) (by decide +kernel) (by assumption)
    | exact one_ne (d := 40) (by decide +kernel) (by assumption)
    | exact one_ne (d := 46) (by decide +kernel) (by assumption)
  k_with "mine out" => (repeat (first | exact Out.kst rfl | exact Out.base | exact (fun _ _ => rfl) | refine Out.upd rfl ?_))
  k_with "storeName" => (
      k_here
      k_dflt (refine storeL (by k_asm) (by k_asm) ?_ (by rfl) (by rfl))
      k_whole
      intro m1 h' tk F' N'
      (try k_sweep))
  k_with "ite" => first | with_reducible refine ite_tt ?_ | with_reducible refine ite_ff ?_
  k_with "execs cons" => first | (with_reducible refine seqT1 ?_; intro tk) | (with_reducible refine seqT ?_; intro Kc tk hKc) | (with_reducible refine blkT ?_; intro Qd tk hQd)
  k_with "Nxt" => (k_dflt (dsimp only [Nxt]))
  k_with "Kont" => first | (k_dflt (refine hKc _ _ ?_; try clear hKc)) | (k_dflt (refine hQd _ _ ?_; try clear hQd)) | (k_dflt (refine hQc _ _ ?_; try clear hQc)) | (k_dflt (refine kont_app (by assumption) ?_))
  k_with "mine enter" => (
      (case k3 => assumption)
      (case k5 => assumption)
      (case kT => assumption)
      (case k6 => k_is)
      (case k7 => k_is)
      (case k8 => (dsimp only [aA]; omega))
      (case k9 => exact BindsTo.of_eq rfl)
      (case c5 => decide)
      (case kB => exact locs rfl)
      (case c2 => exact rfl)
      (case c3 => exact rfl)
      (case c4 => exact rfl)
      (case' kk => skip)
      k_whole
      intro L' h' ps FL NL hps l0 lL gL
      (try dsimp only)
      (try k_fold))
  trivial
section
variable {prog : Program} {w : World} {A : Around} {E : Value → Shared → Prop} {s : Shared} {x body : Str} {t u : Tok} {Q : Value → Shared → Prop} {h₀ : Heap} {L : Addr} {m : Str → Option Value} {news : List (Addr × Obj)}
theorem slice_body {value slice : Expr} {ui uj : Tok} (F : Fr h₀ L s.heap m) (N : News h₀ L s.heap news) (hx : x = Str.empty ++ Str.ofString "(?s:" ++ body ++ Str.ofString ")\\Z") (hz : x.length ≤ 5000)
    (h : ∀ h' t' tk, Fr h₀ L h' m → News h₀ L h' news → Q (.str body t') { s with heap := h', toks := tk })
    (hs : subscripted slice false (.str x t) (.ref s.heap.objs.size) = operate [.ref s.heap.objs.size, .str x t] (getItem (.str x t) (.ref s.heap.objs.size)) := by with_unfolding_all rfl)
    (ht : ∀ r, letTemporaryGo value (.str x t) r = pure () := by intro _; with_unfolding_all rfl) :
    wpAny (model prog w) A (subscriptTail value slice (.str x t) (.ref s.heap.objs.size)) Q E { s with heap := s.heap.push { cls := .type "slice", data := .fields #[.int 4 ui, .int (-3) uj, .none] } } := by
  refine slice_strN_ss F N (fun h' t' tk F' N' => ?_) hs ht (by have := sizeLine_eq; omega)
  have e : Txt.slice x (some 4) (some (-3)) = body := by rw [hx]; exact slice_mid body
  rw [e]
  exact h h' t' tk F' N'
theorem ne_body (hx : x = Str.empty ++ Str.ofString "(?s:" ++ body ++ Str.ofString ")\\Z") (hq : Q (.bool false) s) :
    wpAny (model prog w) A (compareOp .NotEq (.str x t) (.str (Str.ofString "(?s:" ++ body ++ Str.ofString ")\\Z") u)) Q E s := ne_no (by rw [hx]; exact read_same body) hq
end
theorem lines_C8_1 : True := by
  k_with "subscriptTail Name Slice str ref" => (
      k_here
      k_dflt (first
      | (refine' slice_body ?k1 ?k2 ?k3 ?k4 ?_ ?k9 ?kA; (case k1 => k_asm); (case k2 => k_asm); (case k3 => assumption); (case k4 => omega); (case k9 => with_unfolding_all rfl); (case kA => (intro _; with_unfolding_all rfl)); k_whole)
      | (refine' slice_six ?k1 ?k2 hdrop ?k4 ?k5 ?k6 ?k7 ?_ ?k9 ?kA; (case k1 => k_asm); (case k2 => k_asm); (case k4 => omega); (case k5 => omega); (case k6 => omega); (case k7 => omega); (case k9 => with_unfolding_all rfl); (case kA => (intro _; with_unfolding_all rfl)); k_whole))
      intro h' t' tk' F' N')
  k_with "compareOp Eq str str" => (
      k_here
      k_dflt (first
      | (refine eq_no (six_no (by assumption)) ?_)
      | (refine eq_yes six_yes ?_)
      | (refine eq_no (one_ne (d := 41) (by decide +kernel) (by assumption)) ?_)
      | (refine eq_yes (by decide +kernel) ?_)))
  k_with "subscriptTail Name Name str int" => (
      k_here
      with_reducible show wpAny _ _ (subscriptTail _ _ (Value.str _ _) (Value.int _ _)) _ _ _
      k_dflt (refine item_atL (k := 0) (by assumption) rfl (by omega) (by omega) ?_)
      intro t')
  k_with "compareOp NotEq str str" => (
      k_here
      k_dflt (refine ne_body (by assumption) ?_))
  k_with "exec While Compare cons nil" => (refine stop_intro ?_)
  trivial
noncomputable def ReadPost (res : List Stp) (h h' : Heap) (v : Value) : Prop := ∃ L0 vs k objs, v = .ref L0 ∧ h'.get? L0 = some (listOf vs.toArray k) ∧ h.get? L0 = none ∧ Are (StepIn objs) vs res ∧ (∀ p ∈ objs, h'.get? p.1 = some p.2 ∧ h.get? p.1 = none)
theorem lines_C8_2 : True := by
  k_with "call ref" => (
      k_here
      k_dflt (first
      | (refine' use_step [_, _] objs hdrop hst ?kl ?k1 ?k2 ?k3 ?kS ?kT ?k5 ?k6 ?k7 ?k9 ?kA ?_; (case kl => omega); (case k1 => k_asm); (case k2 => k_asm); (case k3 => k_asm); (case kS => k_all); (case kT => assumption); (case k5 => assumption); (case k6 => k_asm); (case k7 => exact rfl); (case k9 => (dsimp +zetaDelta only [aA, Around.deeper]; omega)); (case kA => (dsimp +zetaDelta only [aA, Around.deeper]; omega)); k_whole; intro r r1 ta tm tz h' tk' ps' F' N' ok' hrr hr8 hr18 hne; have q1 := hne _ (.head _); have q2 := hne _ (.tail _ (.head _)); have q3 := hap; simp only [List.cons_append, List.nil_append] at N')
      | (refine' use_step [_, _, _] objs hdrop hst ?kl ?k1 ?k2 ?k3 ?kS ?kT ?k5 ?k6 ?k7 ?k9 ?kA ?_; (case kl => omega); (case k1 => k_asm); (case k2 => k_asm); (case k3 => k_asm); (case kS => k_all); (case kT => assumption); (case k5 => assumption); (case k6 => k_asm); (case k7 => exact rfl); (case k9 => (dsimp +zetaDelta only [aA, Around.deeper]; omega)); (case kA => (dsimp +zetaDelta only [aA, Around.deeper]; omega)); k_whole; intro r r1 ta tm tz h' tk' ps' F' N' ok' hrr hr8 hr18 hne; have q1 := hne _ (.head _); have q2 := hne _ (.tail _ (.head _)); have q3 := hap; simp only [List.cons_append, List.nil_append] at N')))
  trivial
theorem lx_C8_0 : True := by
  k_with "k_all" => (
      intro p hp
      rcases List.mem_cons.mp hp with rfl | hp
      · k_ne
      · first | exact (hap p hp).2 | exact (hap p hp).1 | exact hap1 p hp)
  trivial
theorem c_read (w : World) (x body : Str) (t : Tok) (hx : x = Str.empty ++ Str.ofString "(?s:" ++ body ++ Str.ofString ")\\Z") (hl : body.length ≤ 3000) (toks : List RTok) (res : List Stp) (hb : body = ⟨(rtx toks).toArray⟩) (hg : Good toks) (hf : fin toks [] none = some res) (hz : toks.length ≤ 500) : Pure w 6 40 224 [.str x t] (fun _ => True) (ReadPost res) := by
  unfold Pure
  k_fill
  intro mean mg mb dp un fr gd Q E s X T hT hp hdp hun hret
  have hxl : x.length = body.length + 7 := by
    rw [hx, Str.length_append, Str.length_append, Str.length_append, rl1, rl2, rl3]; omega
  have r1 := rl1
  have r2 := rl2
  refine' enter (binds := [(Str.ofString "text", .str x t)]) ?k3 ?k5 ?kT ?k6 ?k7 ?k8 ?k9 ?kB ?kk ?c2 ?c3 ?c4 ?c5
  walk_at "mine enter"
  refine entL (by first | assumption | with_unfolding_all passes_own) ?_
  intro A1 e1 Qc Ec hQc hEc
  k_steps
  unfold Stop
  refine read_while (res := res) (toks := toks) (by k_asm) (by k_asm) rfl (by assumption) hb hg hf hz ?_ (by first | assumption | with_unfolding_all passes_own)
  (intro qr0 u h tk hP F N; obtain ⟨i, todo, acc, vs, k, kR, g, objs, ps, ti⟩ := qr0)
  have hP0 := hP
  obtain ⟨h1, h2, h3, h4, h5, h6, h7, h8, h9, h10, h11, hap, hapG⟩ := hP
  dsimp only [rPs] at h1 h2 h3 h4 h5 h6 h7 h8 h9 h10 h11 hap hapG F
  have hdrop := h1
  cases todo with
  | nil =>
    cases g with
    | some g => cases (show (none : Option (List Stp)) = some _ from h3)
    | none =>
      dsimp only [rLed] at N
      have hi : i = body.length := by
        have := congrArg List.length h1
        rw [List.length_drop, show body.cps.toList.length = body.length from by simp [Str.length]] at this
        simp [rtx] at this
        omega
      have hres : acc = res := Option.some.inj h3
      refine while_cut ?_
      intro Kw Kn hKw hKn
      k_steps
      try dsimp only
      refine leaveP_in (by k_asm) N (by k_mem) h8 fun G T => hret _ _ _ G T ⟨_, vs, k, objs, rfl, (N (_, listOf vs.toArray k) (.tail _ (.head _))).1, gh_none (N (_, listOf vs.toArray k) (.tail _ (.head _))).2.2 (by k_ne), hres ▸ h4, fun p hp => ?_⟩
      have q := N p (.tail _ (.tail _ (.tail _ hp)))
      exact ⟨q.1, gh_none q.2.2 (h10 p hp)⟩
  | cons tok rest =>
    cases tok with
    | one cs sg n =>
      (refine and2E h2 fun qq0 h2' => ?_; try clear h2; refine and3E qq0 fun hst hcl qq02 => ?_; try clear qq0; refine ex2E qq02 fun c cl qq022 => ?_; try clear qq02; refine and3E qq022 fun qq0220 hc40 hc41 => ?_; try clear qq022; rcases qq0220 with rfl)
      rw [show rtx (RTok.one (c :: cl) sg n :: rest) = c :: (cl ++ rtx rest) from rfl] at hdrop
      have hlt : i < body.length := by
        have := congrArg List.length hdrop
        rw [List.length_drop, show body.cps.toList.length = body.length from by simp [Str.length]] at this
        simp only [List.length_cons] at this
        omega
      cases g with
      | none =>
        dsimp only [rLed] at N
        refine while_cut ?_
        intro Kw Kn hKw hKn
        k_steps
        refine' rd_one ?a1 ?a2 hP0 ?a3 ?a4 ?a5 ?a6 ?a7 ?a8 ?a9
        case a1 => k_asm
        case a2 => k_asm
        case a3 =>
          repeat (refine sub_cons (by k_mem) ?_)
          intro p hp
          repeat (first | exact hp | apply List.Mem.tail)
        case a4 => exact rfl
        case a5 => exact Out.ends (by walk_at "mine out")
        case a6 => assumption
        case a7 => exact hr18
        case a8 => exact fun e => q1.2 e.symm
        case a9 => exact fun e => q2.2 e.symm
      | some g =>
        obtain ⟨L1, gvs, k1, gacc⟩ := g
        refine and3E (hapG _ rfl) fun hap1 hap2 hap3 => ?_
        have n198 := h11 _ rfl
        have h7' := h7 _ rfl
        dsimp only at hap1 hap2 hap3 n198 h7'
        simp only [List.length_cons] at h7'
        dsimp only [rLed] at N
        refine while_cut ?_
        intro Kw Kn hKw hKn
        k_steps
        have q4 := hne _ (.tail _ (.tail _ (.head _)))
        refine' rd_oneG ?a1 ?a2 hP0 ?a3 ?a4 ?a5 ?a6 ?a7 ?a8 ?a9 ?aL
        case a1 => k_asm
        case a2 => k_asm
        case a3 =>
          repeat (refine sub_cons (by k_mem) ?_)
          intro p hp
          repeat (first | exact hp | apply List.Mem.tail)
        case a4 => exact rfl
        case a5 => exact Out.ends (by walk_at "mine out")
        case a6 => assumption
        case a7 => exact hr18
        case a8 => exact fun e => q1.2 e.symm
        case a9 => exact fun e => q4.2 e.symm
        case aL => exact fun e => q2.2 e.symm
    | opn =>
      rw [show rtx (RTok.opn :: rest) = 40 :: 63 :: 62 :: 46 :: 42 :: 63 :: rtx rest from rfl] at hdrop
      have hlt : i < body.length := by
        have := congrArg List.length hdrop
        rw [List.length_drop, show body.cps.toList.length = body.length from by simp [Str.length]] at this
        simp only [List.length_cons] at this
        omega
      cases g with
      | none =>
        dsimp only [rLed] at N
        refine while_cut ?_
        intro Kw Kn hKw hKn
        k_steps
        refine' rd_opn ?a1 ?a2 hP0 ?a3 ?a4 ?a5 ?a6 ?a7 ?a8 ?a9 ?aA
        case a1 => k_asm
        case a2 => k_asm
        case a3 =>
          repeat (refine sub_cons (by k_mem) ?_)
          intro p hp
          repeat (first | exact hp | apply List.Mem.tail)
        case a4 => exact rfl
        case a5 => first | rfl | omega
        case a6 => exact Out.ends (by walk_at "mine out")
        case a7 => omega
        case a8 => omega
        case a9 => omega
        case aA => (refine' allLt_ne4 ?q; case q => assumption)
      | some g => cases (show (none : Option (List Stp)) = some _ from h3)
    | cls =>
      rw [show rtx (RTok.cls :: rest) = 41 :: rtx rest from rfl] at hdrop
      have hlt : i < body.length := by
        have := congrArg List.length hdrop
        rw [List.length_drop, show body.cps.toList.length = body.length from by simp [Str.length]] at this
        simp only [List.length_cons] at this
        omega
      have h4140 : (41 : Nat) ≠ 40 := by decide
      cases g with
      | none => cases (show (none : Option (List Stp)) = some _ from h3)
      | some g =>
        obtain ⟨L1, gvs, k1, gacc⟩ := g
        refine and3E (hapG _ rfl) fun hap1 hap2 hap3 => ?_
        have n198 := h11 _ rfl
        have h7' := h7 _ rfl
        dsimp only at hap1 hap2 hap3 n198 h7'
        simp only [List.length_cons] at h7'
        dsimp only [rLed] at N
        refine while_cut ?_
        intro Kw Kn hKw hKn
        k_steps
        refine' rd_cls ?a1 ?a2 hP0 ?a3 ?a4 ?a5 ?a6 ?a7 ?a8 ?a9
        case a1 => k_asm
        case a2 => k_asm
        case a3 =>
          repeat (refine sub_cons (by k_mem) ?_)
          intro p hp
          repeat (first | exact hp | apply List.Mem.tail)
        case a4 => exact rfl
        case a5 => first | rfl | omega
        case a6 => exact Out.ends (by walk_at "mine out")
        case a7 => omega
        case a8 => omega
        case a9 => omega
end Mine
end
section
open PySem PySem.W PySem.Spec PySem.Calls PyProof.Rows
set_option maxRecDepth 100000
namespace Mine
theorem l0_S1 : True := by
  k_with_none
  k_with "q" => (all_goals first | assumption | with_unfolding_all exact rfl)
  k_with "ar" => with_reducible first | assumption | (apply Ar.le5; k_extra "q") | (apply Ar.le6; k_extra "q") | (apply Ar.ltS; k_extra "q") | (apply Ar.n6; k_extra "q") | (apply Ar.s2; k_extra "q")
  trivial
noncomputable abbrev IsN (n : Nat) (v : Value) : Prop := ∃ t, v = .int (n : Int) t
noncomputable def hit (t : List Nat) (g : Sg) (p : Nat) : Bool := g.barred != decide ([t.getD p 0] = g.sign)
noncomputable def sgF0 (t : List Nat) (g : Sg) (ps : List Nat) : List Nat := (ps.filter fun p => decide (p < t.length) && hit t g p).map (· + 1)
noncomputable def mvF (t : List Nat) (g : Sg) (ps mv : List Nat) (p : Nat) : List Nat := if ps.contains p || (mv.getLast?.any (fun q => q + 1 == p) && hit t g (p - 1)) then mv ++ [p] else mv
noncomputable def sgF1 (t : List Nat) (g : Sg) (ps : List Nat) : List Nat := (List.range (t.length + 1)).foldl (mvF t g ps) []
noncomputable def sgF (t : List Nat) (g : Sg) (ps : List Nat) : List Nat := if g.many = 0 then sgF0 t g ps else sgF1 t g ps
noncomputable def endsG (t : List Nat) (gs : List Sg) (ps : List Nat) : List Nat := gs.foldl (fun a g => sgF t g a) ps
noncomputable def firstF (t : List Nat) (gs : List Sg) (p : Nat) : List Nat := ((List.range' p (t.length + 1 - p)).findSome? fun q => (endsG t gs [q]).head?).toList
noncomputable def stF (t : List Nat) : Stp → List Nat → List Nat
  | .one g, ps => sgF t g ps
  | .grp b, ps => ps.flatMap (firstF t b)
noncomputable def endsF (t : List Nat) (steps : List Stp) (ps : List Nat) : List Nat := steps.foldl (fun a s => stF t s a) ps
theorem mv_nil (t : List Nat) (g : Sg) (l : List Nat) : l.foldl (mvF t g []) [] = [] := by
  induction l with
  | nil => rfl
  | cons p l ih => simpa [mvF] using ih
theorem stF_nil (t : List Nat) (st : Stp) : stF t st [] = [] := by
  cases st with
  | grp b => rfl
  | one g =>
    show sgF t g [] = []
    unfold sgF
    split
    · rfl
    · exact mv_nil _ _ _
theorem endsF_nil (t : List Nat) (steps : List Stp) : endsF t steps [] = [] := by
  induction steps with
  | nil => rfl
  | cons st r ih => show endsF t r (stF t st []) = []; rw [stF_nil]; exact ih
theorem endsF_one (t : List Nat) (gs : List Sg) : ∀ ps, endsF t (gs.map .one) ps = endsG t gs ps := by
  induction gs with
  | nil => intro _; rfl
  | cons g r ih => intro ps; exact ih (sgF t g ps)
noncomputable def Within (t : List Nat) (ps : List Nat) : Prop := ps.length ≤ t.length + 1 ∧ ∀ p ∈ ps, p ≤ t.length
theorem mv_within {t : List Nat} {g : Sg} {ps : List Nat} : ∀ (n : Nat), ∀ p ∈ (List.range n).foldl (mvF t g ps) [], p < n := by
  intro n
  induction n with
  | zero => intro p hp; simp at hp
  | succ n ih =>
    intro p hp
    rw [List.range_succ, List.foldl_append] at hp
    simp only [List.foldl_cons, List.foldl_nil] at hp
    generalize (List.range n).foldl (mvF t g ps) [] = mv at ih hp
    unfold mvF at hp
    split at hp
    · rcases List.mem_append.mp hp with hp | hp
      · exact Nat.lt_succ_of_lt (ih p hp)
      · simp at hp; omega
    · exact Nat.lt_succ_of_lt (ih p hp)
theorem mv_len {t : List Nat} {g : Sg} {ps : List Nat} (n : Nat) : ((List.range n).foldl (mvF t g ps) []).length ≤ n := by
  induction n with
  | zero => simp
  | succ n ih =>
    rw [List.range_succ, List.foldl_append]
    simp only [List.foldl_cons, List.foldl_nil]
    generalize (List.range n).foldl (mvF t g ps) [] = mv at ih ⊢
    unfold mvF
    split
    · rw [List.length_append, List.length_singleton]; omega
    · omega
theorem sg_within {t : List Nat} {g : Sg} {ps : List Nat} (h : Within t ps) : Within t (sgF t g ps) := by
  unfold sgF
  split
  · refine ⟨?_, fun p hp => ?_⟩
    · unfold sgF0
      rw [List.length_map]
      exact Nat.le_trans (List.length_filter_le _ _) h.1
    · unfold sgF0 at hp
      rw [List.mem_map] at hp
      (refine ex1E hp fun q qq1 => ?_; try clear hp; refine and2E qq1 fun hq qq11 => ?_; try clear qq1; rcases qq11 with rfl)
      rw [List.mem_filter] at hq
      simp only [Bool.and_eq_true, decide_eq_true_eq] at hq
      omega
  · refine ⟨?_, fun p hp => ?_⟩
    · exact mv_len _
    · have := mv_within _ p hp; omega
theorem ends_within {t : List Nat} : ∀ {gs : List Sg} {ps : List Nat}, Within t ps → Within t (endsG t gs ps)
  | [], _, h => h
  | g :: r, _, h => ends_within (gs := r) (sg_within h)
theorem first_one {t : List Nat} {gs : List Sg} {p : Nat} : (firstF t gs p).length ≤ 1 := by
  unfold firstF
  cases (List.range' p (t.length + 1 - p)).findSome? fun q => (endsG t gs [q]).head? <;> simp
theorem first_within {t : List Nat} {gs : List Sg} {p : Nat} : ∀ e ∈ firstF t gs p, e ≤ t.length := by
  intro e he
  unfold firstF at he
  cases hq : (List.range' p (t.length + 1 - p)).findSome? fun q => (endsG t gs [q]).head? with
  | none => rw [hq] at he; simp at he
  | some x =>
    rw [hq] at he
    simp only [Option.toList_some, List.mem_singleton] at he
    subst he
    (refine ex1E (List.exists_of_findSome?_eq_some hq) fun q qq1 => ?_; refine and2E qq1 fun hq1 hq2 => ?_; try clear qq1)
    have h1 : q ≤ t.length := by
      rw [List.mem_range'_1] at hq1; omega
    have w : Within t [q] := ⟨by simp, fun p hp => by simp at hp; omega⟩
    exact (ends_within (gs := gs) w).2 e (List.mem_of_mem_head? hq2)
theorem st_within {t : List Nat} {st : Stp} {ps : List Nat} (h : Within t ps) : Within t (stF t st ps) := by
  cases st with
  | one g => exact sg_within h
  | grp b =>
    refine ⟨?_, fun p hp => ?_⟩
    · refine Nat.le_trans ?_ h.1
      show (ps.flatMap (firstF t b)).length ≤ ps.length
      clear h
      induction ps with
      | nil => simp
      | cons q r ih =>
        have := first_one (t := t) (gs := b) (p := q)
        rw [List.flatMap_cons, List.length_append, List.length_cons]; omega
    · (refine ex1E (List.mem_flatMap.mp hp) fun q qq1 => ?_; refine and2E qq1 fun ux hq => ?_; try clear qq1)
      exact first_within _ hq
end Mine
end
section
open PySem PySem.W PySem.Spec PySem.Calls PyProof.Rows PyProof.Rows.LCg PyProof.Rows.LCt
set_option maxRecDepth 100000
set_option maxHeartbeats 2000000
namespace Mine
theorem l0_G1 : True := by
  k_with_none
  k_with "q" => (all_goals first | assumption | with_unfolding_all exact rfl)
  k_with "ar" => with_reducible first | assumption | (apply Ar.dec0; k_extra "q")
  trivial
section
variable {prog : Program} {w : World} {A : Around} {E : Value → Shared → Prop} {s : Shared} {h₀ : Heap} {L : Addr} {env : Env} {Q : Flow → Shared → Prop} {target iter : Expr} {body : List Stmt}
inductive ForGo (h₀ : Heap) (L : Addr) (gens : Array GenState) (drawn : Drawn) (os : OsState) (I : Addr) (oI : Obj) (J : (Str → Option Value) → List (Addr × Obj) → Prop) : Shared → Prop
  | mk (h : Heap) (tk : Nat) (m : Str → Option Value) (news : List (Addr × Obj)) (F : Fr h₀ L h m) (N : News h₀ L h ((I, oI) :: news)) (off : ∀ p ∈ news, @Ne Nat p.1 I) (hj : J m news) : ForGo h₀ L gens drawn os I oI J ⟨h, gens, drawn, tk, os⟩
noncomputable def ForPost (h₀ : Heap) (L : Addr) (s : Shared) (I : Addr) (oI : Obj) (J : (Str → Option Value) → List (Addr × Obj) → Prop) (Q : Flow → Shared → Prop) (f : Flow) (s₃ : Shared) : Prop :=
  match f with
  | .ret v => Q (.ret v) s₃
  | .brk => Q .next s₃
  | _ => ForGo h₀ L s.gens s.drawn s.os I oI J s₃
theorem forPost_next {I : Addr} {oI : Obj} {J : (Str → Option Value) → List (Addr × Obj) → Prop} {m : Str → Option Value} {news all : List (Addr × Obj)} {h : Heap} {tk : Nat} (F : Fr h₀ L h m) (N : News h₀ L h all) (hs : ∀ p ∈ (I, oI) :: news, p ∈ all) (off : ∀ p ∈ news, @Ne Nat p.1 I) (hJ : J m news) :
    ForPost h₀ L s I oI J Q .next { s with heap := h, toks := tk } := .mk h tk m news F (fun p hp => N p (hs p hp)) off hJ
inductive ForAt (prog : Program) (w : World) (A : Around) (E : Value → Shared → Prop) (h₀ : Heap) (L : Addr) (env : Env) (target : Expr) (body : List Stmt) (Q : Flow → Shared → Prop) : Value → Shared → Prop
  | mk {s₂ : Shared} (I : Addr) (fp : List Addr) (n : Nat) (P : Nat → Value → Prop) (St : Nat → Heap → Prop) (J : Nat → (Str → Option Value) → List (Addr × Obj) → Prop) (m : Str → Option Value) (news : List (Addr × Obj)) (W : Walks prog w A I fp [I] n P St) (hIo : ∀ i h, St i h → ∃ o, h.get? I = some o)
    (hSt : ∀ i h h' o m' nw, St i h → h.get? I = some o → h'.get? I = some o → (∀ b o, h₀.get? b = some o → h'.get? b = some o) → News h₀ L h' nw → J i m' nw → St i h')
    (hgo : ∀ i v (s : Shared) (Q : Unit → Shared → Prop) (E : Value → Shared → Prop), P i v → St (i + 1) s.heap → Q () s → wpAny (model prog w) A (letOwnedTupleGo target (.ref I) v) Q E s)
    (st : St 0 s₂.heap) (F : Fr h₀ L s₂.heap m) (N : News h₀ L s₂.heap news) (hLI : L ≠ I) (hI₀ : h₀.get? I = none) (off : ∀ p ∈ news, @Ne Nat p.1 I) (hj : J 0 m news)
    (turn : ∀ i v oI m news h tk, i < n → P i v → J i m news → Fr h₀ L h m → News h₀ L h ((I, oI) :: news) → (∀ p ∈ news, @Ne Nat p.1 I) →
      wpAny (model prog w) A (assign target env v) (fun _ s₃ => wpAny (model prog w) A (execs body env) (ForPost h₀ L s₂ I oI (J (i + 1)) Q) E s₃) E { s₂ with heap := h, toks := tk })
    (done : ∀ m news h tk, J n m news → Fr h₀ L h m → News h₀ L h news → Q .next { s₂ with heap := h, toks := tk }) : ForAt prog w A E h₀ L env target body Q (.ref I) s₂
inductive ForSt (h₀ : Heap) (L I : Addr) (n : Nat) (St : Nat → Heap → Prop) (J : Nat → (Str → Option Value) → List (Addr × Obj) → Prop) (s₂ : Shared) : Nat → Shared → Prop
  | mk (i : Nat) (m : Str → Option Value) (news : List (Addr × Obj)) (h : Heap) (tk : Nat) (hi : i ≤ n) (st : St i h) (F : Fr h₀ L h m) (N : News h₀ L h news) (off : ∀ p ∈ news, @Ne Nat p.1 I) (hj : J i m news) : ForSt h₀ L I n St J s₂ (n - i) { s₂ with heap := h, toks := tk }
theorem for_walks {pos : Pos}
    (h : wpAny (model prog w) A (eval iter env) (fun xv s₁ => wpAny (model prog w) A (pyIter xv) (ForAt prog w A E h₀ L env target body Q) E s₁) E s)
    (hs : ∀ x, foldedSetIterable iter env x = pure x := by intro _; rfl) (hE : PassesOwn (model prog w) A env E := by passes_own) :
    wpAny (model prog w) A (exec (.For target iter body [] pos) env) Q E s := by
  refine wpAny_For (wpAny_mono h (fun xv s₁ h₁ => wpAny_mono h₁ (fun it s₂ h₂ => ?_) fun _ _ z => z) fun _ _ z => z) hs
  obtain ⟨I, fp, n, P, St, J, m, news, W, hIo, hSt, hgo, st, F, N, hLI, hI₀, off, hj, turn, done⟩ := h₂
  refine codeAny_forLoop_any (R := fun r s' => match r with | .ok f => Q f s' | .error e => cameBackBy (model prog w) A env E e s')
    (ForSt h₀ L I n St J s₂) ?_ n (.mk 0 m news s₂.heap s₂.toks (Nat.zero_le _) st F N off hj)
  (intro k s' qr2; obtain ⟨i, m, news, h, tk, hi, st, F, N, off, hj⟩ := qr2)
  have keepF : ∀ {h' : Heap}, (∀ b o, b ∉ [I] → h.get? b = some o → h'.get? b = some o) → Fr h₀ L h' m := by
    intro h' hk
    refine ⟨?_, fun b o e => hk b o (fun q => ?_) (F.keep b o e), F.above⟩
    · (refine ex3E F.ns fun oL a1 a2 qq3 => ?_; refine and2E qq3 fun hL a3 => ?_; try clear qq3)
      exact ⟨oL, a1, a2, hk L oL (fun q => hLI (List.mem_singleton.mp q)) hL, a3⟩
    · rw [List.mem_singleton.mp q, hI₀] at e; cases e
  have keepN : ∀ {h' : Heap}, (∀ b o, b ∉ [I] → h.get? b = some o → h'.get? b = some o) → News h₀ L h' news := by
    intro h' hk p hp
    exact ⟨hk _ _ (fun q => off p hp (List.mem_singleton.mp q)) (N p hp).1, (N p hp).2⟩
  rcases Nat.lt_or_eq_of_le hi with hlt | rfl
  · refine wpAny_passesOwn hE (W.item i _ _ _ hlt st fun v h' tk' hP st' hk => ?_)
    refine wpAny_passesOwn hE (hgo i v _ _ _ hP st' ?_)
    refine ex1E (hIo _ _ st') fun oI ho => ?_
    have F' := keepF hk
    have N' : News h₀ L h' ((I, oI) :: news) := fun p hp => by
      rcases List.mem_cons.mp hp with rfl | hp
      · exact ⟨ho, fun q => hLI q.symm, hI₀⟩
      · exact keepN hk p hp
    refine wpAny_passesOwn hE (wpAny_mono (turn i v oI m news h' tk' hlt hP hj F' N' off) (fun _ s₃ h₃ => ?_) fun _ _ z => z)
    refine wpAny_passesOwn hE (wpAny_mono h₃ (fun f s₄ h₄ => ?_) fun _ _ z => z)
    have go : ForGo h₀ L s₂.gens s₂.drawn s₂.os I oI (J (i + 1)) s₄ → ∃ k, k < n - i ∧ ForSt h₀ L I n St J s₂ k s₄ := by
      (intro qr0; obtain ⟨h₅, tk₅, m₅, nw₅, F₅, N₅, off₅, hj₅⟩ := qr0)
      exact ⟨n - (i + 1), by omega, .mk (i + 1) m₅ nw₅ h₅ tk₅ hlt (hSt _ _ _ oI _ _ st' ho (N₅ _ (.head _)).1 F₅.keep (fun p hp => N₅ p (.tail _ hp)) hj₅) F₅ (fun p hp => N₅ p (.tail _ hp)) off₅ hj₅⟩
    cases f with
    | next => exact go h₄
    | cont => exact go h₄
    | brk => exact h₄
    | ret v => exact h₄
  · refine wpAny_passesOwn hE (W.done _ _ _ st fun h' tk' hk => ?_)
    exact wpAny_execs_nil (done m news h' tk' hj (keepF hk) (keepN hk))

theorem for_list {pos : Pos} {l : Addr} {vs : List Value} {m : Str → Option Value} {news : List (Addr × Obj)} (J : Nat → (Str → Option Value) → List (Addr × Obj) → Prop)
    (hh : A.handled = none) (F : Fr h₀ L s.heap m) (N : News h₀ L s.heap news) (hj : J 0 m news)
    (hev : ∀ (Q' : Value → Shared → Prop), Q' (.ref l) s → wpAny (model prog w) A (eval iter env) Q' E s)
    (hl : ∀ h nw, (∀ b o, h₀.get? b = some o → h.get? b = some o) → News h₀ L h nw → (∃ i m, J i m nw) → h.IsList l vs.toArray)
    (hgo : (∃ x p, target = .Name x p) ∨ ((∃ a b c, target = .Tuple a b c) ∧ ∀ v ∈ vs, ∃ r, v = .ref r))
    (turn : ∀ i v I oI m news h tk, vs[i]? = some v → J i m news → Fr h₀ L h m → News h₀ L h ((I, oI) :: news) → (∀ p ∈ news, @Ne Nat p.1 I) →
      wpAny (model prog w) A (assign target env v) (fun _ s₃ => wpAny (model prog w) A (execs body env) (ForPost h₀ L s I oI (J (i + 1)) Q) E s₃) E { s with heap := h, toks := tk })
    (done : ∀ m news h tk, J vs.length m news → Fr h₀ L h m → News h₀ L h news → Q .next { s with heap := h, toks := tk })
    (hs : ∀ x, foldedSetIterable iter env x = pure x := by intro _; rfl) (hE : PassesOwn (model prog w) A env E := by passes_own) :
    wpAny (model prog w) A (exec (.For target iter body [] pos) env) Q E s := by
  refine for_walks (h₀ := h₀) (L := L) (hev _ ?_) hs hE
  have hls := hl s.heap news F.keep N ⟨0, m, hj⟩
  (refine ex1E (id hls) fun ol qq1 => ?_; refine and2E qq1 fun hol ux => ?_; try clear qq1)
  have hlt : l < s.heap.objs.size := Heap.lt_size hol
  have hne : l ≠ s.heap.objs.size := Nat.ne_of_lt hlt
  refine wpAny_pyIter_list hls ?_
  have up : ∀ b o, s.heap.get? b = some o → (s.heap.push { cls := .type "list_iterator", data := .fields #[.ref l, .int 0 0] }).get? b = some o := fun b o e => Heap.get?_push_of_some _ e
  refine ⟨_, _, vs.toArray.size, fun i v => vs.toArray[i]? = some v, fun i h => h.IsListIter s.heap.objs.size l i ∧ h.IsList l vs.toArray, J, m, news, Walks.list (prog := prog) (w := w) hh s.heap.objs.size l hne vs.toArray, fun i h st => ?_, ?_, ?_, ⟨⟨_, Heap.get?_push_size _ rfl, rfl, rfl⟩, hls.at fun o e => up _ _ e⟩,
    F.keeps up, N.grown up, Nat.ne_of_lt F.ns.lt, next_is_new F, fun p hp => Nat.ne_of_lt (Heap.lt_size (N p hp).1), hj, ?_, ?_⟩
  · (refine ex1E st.1 fun o qq1 => ?_; refine and2E qq1 fun e ux => ?_; try clear qq1); exact ⟨o, e⟩
  · intro i h h' o m' nw st e e' hk N' hj'
    (refine and2E st fun qq0 ux => ?_; try clear st; refine ex1E qq0 fun o' qq01 => ?_; try clear qq0; refine and2E qq01 fun q r => ?_; try clear qq01)
    rw [e] at q; cases q
    exact ⟨⟨o, e', r⟩, hl h' nw hk N' ⟨_, _, hj'⟩⟩
  · intro i v s' Q' E' hP st hq
    rcases hgo with ⟨x, p, rfl⟩ | ⟨⟨a, b, c, rfl⟩, hr⟩
    · exact wpAny_of_eq (rfl : letOwnedTupleGo (.Name x p) _ v = pure ()) hq
    · have hP : vs.toArray[i]? = some v := hP
      (refine ex1E (hr v (List.mem_of_getElem? (by simpa using hP))) fun r qq1 => ?_; rcases qq1 with rfl)
      exact wpAny_letOwnedTupleGo_listiter st.1 hq
  · intro i v oI m' nw h tk _ hP hj' F' N' off
    exact turn i v _ oI m' nw h tk (by simpa using hP) hj' F' N' off
  · exact fun m' nw h tk hj' F' N' => done m' nw h tk hj' F' N'
theorem forAt_range {r : Addr} {a b : Int} {t u v : Tok} {n : Nat} {m : Str → Option Value} {news : List (Addr × Obj)} {x : Str} {px : Pos} (J : Nat → (Str → Option Value) → List (Addr × Obj) → Prop)
    (hh : A.handled = none) (F : Fr h₀ L s.heap m) (N : News h₀ L s.heap news) (hr : IsRange s.heap r a b 1 t u v) (hsm : Builtin.Range.small a b 1 = true) (hn : Builtin.Range.rangeSize a b 1 = ((n : Nat) : Int)) (hj : J 0 m news)
    (turn : ∀ i t' I oI m nw h tk, i < n → J i m nw → Fr h₀ L h m → News h₀ L h ((I, oI) :: nw) → (∀ p ∈ nw, @Ne Nat p.1 I) →
      wpAny (model prog w) A (assign (.Name x px) env (.int (a + (i : Int)) t')) (fun _ s₃ => wpAny (model prog w) A (execs body env) (ForPost h₀ L s I oI (J (i + 1)) Q) E s₃) E { s with heap := h, toks := tk })
    (done : ∀ m nw h tk, J n m nw → Fr h₀ L h m → News h₀ L h nw → Q .next { s with heap := h, toks := tk }) :
    wpAny (model prog w) A (pyIter (.ref r)) (ForAt prog w A E h₀ L env (.Name x px) body Q) E s := by
  refine wpAny_pyIter_range hr hsm ?_
  refine ⟨_, _, n, (fun i v => ∃ t, v = .int (a + (i : Int)) t), _, J, m, news, range_walks hh a n, (fun i h st => ⟨_, st⟩), ?_, ?_, (by show IsRangeIter _ _ _ _ _; rw [hn]; simpa using Heap.get?_push_size _ rfl),
    F.keeps fun _ _ e => Heap.get?_push_of_some _ e, N.grown fun _ _ e => Heap.get?_push_of_some _ e, Nat.ne_of_lt F.ns.lt, next_is_new F, fun p hp => Nat.ne_of_lt (Heap.lt_size (N p hp).1), hj, ?_, ?_⟩
  · intro i h h' o m' nw st e e' hk N' _
    exact range_st (h₀ := h₀) (L := L) i h h' o nw st e e' hk N' trivial
  · intro i v s' Q' E' hP st hq
    exact wpAny_of_eq (rfl : letOwnedTupleGo (.Name x px) _ v = pure ()) hq
  · (intro i v oI m' nw h tk hi qr8 hj' F' N' off; (refine ex1E qr8 fun t' qq1 => ?_; try clear qr8; rcases qq1 with rfl))
    exact turn i t' _ oI m' nw h tk hi hj' F' N' off
  · exact fun m' nw h tk hj' F' N' => done m' nw h tk hj' F' N'
end
end Mine
end
section
open PySem PySem.W PySem.Spec PySem.Calls PyProof.Rows
set_option maxRecDepth 100000
set_option maxHeartbeats 2000000
namespace Mine
theorem l0_G2 : True := by
  k_with_none
  trivial
section
variable {w : World} {mean : ExcName → Option Value} {mg mb : Str → Option Value} {A : Around} {Q : Value → Shared → Prop} {E : Value → Shared → Prop} {s : Shared}
  {name qual : Str} {params : Arguments} {body : List Stmt} {scope : Scope} {dV kV doc pm cdv ct oc : Value} {an od : Option Addr} {osl : Array (Option Value)} {f : Addr} {args : List Value} {binds : List (Str × Value)}
theorem enterC (X : (hd.heap_1_1 w.params).In (gh s.heap)) (T : Top topProg LO mean mg mb (gh s.heap)) (hT : Tab s.heap)
    (ho : (hd.heap_1_1 w.params).lookup f = some ⟨oc, od, .func (fnOf name qual params body scope dV kV doc pm an cdv ct), osl⟩) (hcd : codeIn (hd.heap_1_1 w.params) cdv qual = true) (hroom : A.depth < recursionLimit)
    (hbind : BindsTo s (fnOf name qual params body scope dV kV doc pm an cdv ct) ⟨args, []⟩ binds)
    (hkind : ∀ n, ∀ x ∈ binds, scope.names.lookup x.1 = some .local ∨ (scope.names.lookup x.1 = some .cell ∧ ((cellsFrom n scope.names []).lookup x.1).isSome = true))
    (hnd : ((cellsFrom 0 scope.names []).map (·.1)).Nodup)
    (h : ∀ L' h₁ tk cells ps, Fr (gh s.heap) L' h₁ (bindL (envOfC qual scope L' f cdv).kindOf binds fun _ => none) → News (gh s.heap) L' h₁ (cells ++ [(198, tabObj ps)]) →
      CellsAre (bindC (envOfC qual scope L' f cdv).kindOf binds fun _ => none) (cellsFrom (L' + 1) scope.names []) cells → TabOk ps → 198 < L' → s.heap.objs.size = L' →
      (∀ b o, s.heap.get? b = some o → h₁.get? b = some o) →
      wpAny (model PySem.Challenge.rw_ij0107_01.row.prog w) (A.deeper (envOfC qual scope L' f cdv)) (execs body (envOfC qual scope L' f cdv))
        (fun fl s' => LeaveP (gh s.heap) s.heap Q (match fl with | .ret v => v | _ => .none) s')
        (fun e s' => wpAny (model PySem.Challenge.rw_ij0107_01.row.prog w) (A.deeper (envOfC qual scope L' f cdv)) (leaving (envOfC qual scope L' f cdv) e) (fun _ s'' => E e s'') (fun e' s'' => E e' s'') s')
        { s with heap := h₁, toks := tk })
    (hco : scope.isCoroutine = false) (hgen : scope.isGenerator = false) (hk : scope.kind = .function) : wpAny (model PySem.Challenge.rw_ij0107_01.row.prog w) A (call (.ref f) args) Q E s := by
  have kp : ∀ b o, (gh s.heap).get? b = some o → s.heap.get? b = some o := fun b o e => gh_of e
  have X' : (hd.heap_1_1 w.params).In s.heap := X.keeps kp
  (refine ex1E hT fun ps qq1 => ?_; try clear hT; refine and2E qq1 fun hps ok => ?_; try clear qq1)
  have hlt : 198 < s.heap.objs.size := Heap.lt_size hps
  refine wpAny_call (codeAny_call_function (fd := fnOf name qual params body scope dV kV doc pm an cdv ct) hroom (X' _ _ ho) rfl hco hgen rfl (codeRec_of X' hcd) (hbind _ _ _ _ ?_))
  refine wpAny_newFunctionEnv_cells hk (hkind _) fun env' he s' x => ?_
  subst he
  refine ⟨(T.nolimit.keeps kp).keeps x.toInCall.keep, codeAny_func ?_⟩
  (refine ex2E x.done fun h₁ tk qq2 => ?_; refine and2E qq2 fun qq20 ux => ?_; try clear qq2; rcases qq20 with rfl)
  have hk₁ := x.toInCall.keep
  (refine ex1E (Cl.news (h₀ := s.heap) (Nat.le_refl _) fun n c hm => ⟨x.cell n c (lookup_of_mem_nodup (cellsFrom_names scope.names 0 (s.heap.objs.size + 1) [] [] rfl ▸ hnd) hm), x.above n c hm⟩) fun cells qq1 => ?_; refine and2E qq1 fun NC Y => ?_; try clear qq1)
  refine wpAny_mono (h s.heap.objs.size h₁ tk cells ps ⟨x.toInCall.ns, fun b o e => hk₁ b o (gh_of e), Nat.le_of_eq (gh_size _)⟩ (fun p hp => ?_) Y ok hlt rfl hk₁) (fun fl s' hl => leaveP_go hl) fun _ _ y => y
  rcases List.mem_append.mp hp with hp | hp
  · refine ⟨(NC p hp).1, (NC p hp).2.1, ?_⟩
    cases q : (gh s.heap).get? p.1 with
    | none => rfl
    | some o => have := gh_of q; rw [(NC p hp).2.2] at this; cases this
  · cases hp with
    | head => exact ⟨hk₁ _ _ hps, Nat.ne_of_lt hlt, gh_198 _⟩
    | tail _ hp => cases hp
end
section
variable {w : World} {mean : ExcName → Option Value} {mg mb : Str → Option Value} {A : Around} {Q : Value → Shared → Prop} {E : Value → Shared → Prop} {s : Shared} {d u : Nat} {f : Addr} {vs : List Value} {pre : Heap → Prop} {post : Heap → Heap → Value → Prop}
  {h₀ : Heap} {L : Addr} {m : Str → Option Value} {ps : Array Value}
theorem use2 (front back : List (Addr × Obj)) (C : Pure w d u f vs pre post) (F : Fr h₀ L s.heap m) (X : (hd.heap_1_1 w.params).In h₀) (N : News h₀ L s.heap (front ++ (198, tabObj ps) :: back)) (h1 : ∀ q ∈ front, q.1 ≠ 198) (h2 : ∀ q ∈ back, q.1 ≠ 198) (ok : TabOk ps)
    (T : Top topProg LO mean mg mb h₀) (hh : A.handled = none) (hp : pre s.heap) (hd : A.depth + d ≤ recursionLimit) (hu : A.units + u ≤ cLine)
    (h : ∀ v h' tk' ps', Fr h₀ L h' m → News h₀ L h' (front ++ (198, tabObj ps') :: back) → TabOk ps' → Grow s.heap h' → post s.heap h' v → (∀ r, s.heap.get? r = none → @Ne Nat r L ∧ h₀.get? r = none) → Q v { s with heap := h', toks := tk' }) :
    wpAny (model PySem.Challenge.rw_ij0107_01.row.prog w) A (call (.ref f) vs) Q E s := by
  refine use (news := front ++ back) C F X (fun p hp => N p ?_) (fun q hq => ?_) ok T hh hp hd hu fun v h' tk' ps' F' N' ok' G hv _ => h v h' tk' ps' F' (fun p hp => N' p ?_) ok' G hv (fun r hr => ?_)
  · simp only [List.mem_append, List.mem_cons, List.not_mem_nil, or_false] at hp ⊢
    rcases hp with (hp | hp) | hp
    · exact .inl hp
    · exact .inr (.inr hp)
    · exact .inr (.inl hp)
  · rcases List.mem_append.mp hq with hq | hq
    · exact h1 q hq
    · exact h2 q hq
  · simp only [List.mem_append, List.mem_cons, List.not_mem_nil, or_false] at hp ⊢
    rcases hp with hp | hp | hp
    · exact .inl (.inl hp)
    · exact .inr hp
    · exact .inl (.inr hp)
  · refine ⟨fun q => ?_, ?_⟩
    · (refine ex3E F.ns fun oL a1 a2 qq3 => ?_; refine and2E qq3 fun hL a3 => ?_; try clear qq3)
      rw [show r = L from q, hL] at hr; cases hr
    · cases q : h₀.get? r with
      | none => rfl
      | some o => rw [F.keep _ _ q] at hr; cases hr
theorem news_add {r : Addr} {o : Obj} {h' : Heap} {news : List (Addr × Obj)} (hn : @Ne Nat r L ∧ h₀.get? r = none) (hr : h'.get? r = some o) (N : News h₀ L h' news) : News h₀ L h' ((r, o) :: news) := fun p hp => by
  rcases List.mem_cons.mp hp with rfl | hp
  · exact ⟨hr, hn.1, hn.2⟩
  · exact N p hp
theorem new_ne {r a : Addr} {o : Obj} {h : Heap} (hr : h.get? r = none) (ha : h.get? a = some o) : @Ne Nat r a := fun q => by
  rw [show r = a from q, ha] at hr; cases hr
theorem new_off {r : Addr} (F : Fr h₀ L s.heap m) (hr : s.heap.get? r = none) : @Ne Nat r L ∧ h₀.get? r = none := by
  refine ⟨fun q => ?_, ?_⟩
  · (refine ex3E F.ns fun oL a1 a2 qq3 => ?_; refine and2E qq3 fun hL a3 => ?_; try clear qq3)
    rw [show r = L from q, hL] at hr; cases hr
  · cases q : h₀.get? r with
    | none => rfl
    | some o => rw [F.keep _ _ q] at hr; cases hr
end
theorem gh_keep {h : Heap} {b : Addr} {o : Obj} (hT : Tab h) (e : h.get? b = some o) (hc : o.cls ≠ .none) : (gh h).get? b = some o := by
  refine gh_ne e fun q => ?_
  subst q
  (refine ex1E hT fun ps qq1 => ?_; try clear hT; refine and2E qq1 fun hps ux => ?_; try clear qq1)
  rw [hps] at e
  cases e
  exact hc rfl
theorem news_more {h₀ h h' : Heap} {L : Addr} {news objs : List (Addr × Obj)} (hn : ∀ r, h.get? r = none → @Ne Nat r L ∧ h₀.get? r = none) (ho : ∀ p ∈ objs, h'.get? p.1 = some p.2 ∧ h.get? p.1 = none) (N : News h₀ L h' news) : News h₀ L h' (news ++ objs) := fun p hp => by
  rcases List.mem_append.mp hp with hp | hp
  · exact N p hp
  · exact ⟨(ho p hp).1, hn _ (ho p hp).2⟩
end Mine
end
section
open PySem PySem.W PySem.Spec PySem.Calls PyProof.Rows PyProof.Rows.LCg PyProof.Rows.LCt
set_option maxRecDepth 100000
set_option maxHeartbeats 2000000
namespace Mine
theorem l0_G3 : True := by
  k_with_none
  k_with "q" => (all_goals first | assumption | with_unfolding_all exact rfl)
  k_with "ar" => with_reducible first | assumption | (apply Ar.le0; k_extra "q") | (apply Ar.n52; k_extra "q") | (apply Ar.dec1; k_extra "q") | (apply Ar.dec0; k_extra "q") | (apply Ar.addL; k_extra "q") | (apply Ar.eq2; k_extra "q") | (apply Ar.subS; k_extra "q") | (apply Ar.subP; k_extra "q") | (apply Ar.addL'; k_extra "q")
  trivial
noncomputable abbrev two (elt : Expr) (x y : Str) (px py : Pos) (i0 i1 : Expr) (ifs : List Expr) (scope : Scope) (pos : Pos) : Expr := .ListComp elt [⟨.Name x px, i0, ifs, 0⟩, ⟨.Name y py, i1, [], 0⟩] scope pos
noncomputable abbrev testsOf (ifs : List Expr) (env : Env) : Sem Bool := forIn ifs true fun c r => if r = true then do let ok ← isTrue c env (eval c env); pure (ForInStep.yield ok) else pure (ForInStep.yield r)
theorem turn_two0 (elt : Expr) (x y : Str) (px py : Pos) (i0 i1 : Expr) (ifs : List Expr) (scope : Scope) (pos : Pos) (it acc : Value) (env : Env) :
    compTurn (two elt x y px py i0 i1 ifs scope pos) 0 it acc env = (do
      standAt i0.pos
      match ← pyNext it with
      | none => pure (.done .next)
      | some v =>
        letOwnedTupleGo (.Name x px) it v
        assign (.Name x px) env v
        let mut ok := true
        for c in ifs do
          if ok then ok ← isTrue c env (eval c env)
        if ok then
          let z ← eval i1 env
          standAt i1.pos
          let z ← foldedSetIterable i1 env z
          let _ ← runOwn (.compStart (two elt x y px py i0 i1 ifs scope pos) 1 (← holding [z] (pyIter z)) acc env) env
        again (.compLoop (two elt x y px py i0 i1 ifs scope pos) 0 it acc env)) := by rfl
theorem turn_two1 (elt : Expr) (x y : Str) (px py : Pos) (i0 i1 : Expr) (ifs : List Expr) (scope : Scope) (pos : Pos) (it acc : Value) (env : Env) :
    compTurn (two elt x y px py i0 i1 ifs scope pos) 1 it acc env = (standAt i1.pos >>= fun _ => pyNext it >>= fun r => match r with
      | none => pure (.done .next)
      | some v => letOwnedTupleGo (.Name y py) it v >>= fun _ => assign (.Name y py) env v >>= fun _ =>
          (eval elt env >>= fun z => call (.builtin "list.append") [acc, z] >>= fun _ => pure ()) >>= fun _ => again (.compLoop (two elt x y px py i0 i1 ifs scope pos) 1 it acc env)) := by rfl
section
variable {prog : Program} {w : World} {A : Around} {R : Result → Shared → Prop} {s : Shared} {elt i0 i1 : Expr} {ifs : List Expr} {x y : Str} {px py pos : Pos} {scope : Scope} {it acc : Value} {env : Env}
theorem loop_two1 (I : Nat → Shared → Prop)
    (turn : ∀ n s, I n s → wpAny (model prog w) A (pyNext it) (fun r s₁ => match r with
      | none => R (.ok .next) s₁
      | some v => wpAny (model prog w) A (assign (.Name y py) env v) (fun _ s₂ => wpAny (model prog w) A (eval elt env) (fun x s₃ =>
          wpAny (model prog w) A (call (.builtin "list.append") [acc, x]) (fun _ s₄ => ∃ m, m < n ∧ I m s₄) (notedBy (model prog w) A env fun e s' => R (.error e) s') s₃)
          (notedBy (model prog w) A env fun e s' => R (.error e) s') s₂) (notedBy (model prog w) A env fun e s' => R (.error e) s') s₁) (notedBy (model prog w) A env fun e s' => R (.error e) s') s)
    (n : Nat) (h : I n s) : codeAny (model prog w) A (.compLoop (two elt x y px py i0 i1 ifs scope pos) 1 it acc env) R s := by
  refine codeAny_loop rfl I (fun n s hI => ?_) n h
  show wpAny _ _ ((compTurn (two elt x y px py i0 i1 ifs scope pos) 1 it acc env).onRaise (fun x => do noteFrame x env; theTreesLotGoes x)) _ _ s
  refine wpAny_noted ?_
  rw [turn_two1]
  refine wpAny_bind (wpAny_standAt (wpAny_bind (wpAny_mono (turn n s hI) (fun r s₁ h₁ => ?_) fun _ _ h' => h')))
  cases r with
  | none => exact wpAny_pure h₁
  | some v =>
    refine wpAny_bind (wpAny_of_eq (rfl : letOwnedTupleGo (.Name y py) it v = pure ()) ?_)
    exact wpAny_bind (wpAny_mono h₁ (fun _ s₂ h₂ => wpAny_bind (wpAny_bind (wpAny_mono h₂ (fun x s₃ h₃ => wpAny_bind (wpAny_mono h₃
      (fun _ s₄ h₄ => wpAny_pure (wpAny_pure ⟨rfl, h₄⟩)) fun _ _ h' => h')) fun _ _ h' => h'))) fun _ _ h' => h')
theorem loop_two0 (I : Nat → Shared → Prop)
    (turn : ∀ n s, I n s → ∀ E', wpAny (model prog w) A (pyNext it) (fun r s₁ => match r with
      | none => R (.ok .next) s₁
      | some v => wpAny (model prog w) A (assign (.Name x px) env v) (fun _ s₂ => wpAny (model prog w) A (testsOf ifs env) (fun ok s₃ =>
          if ok = true then wpAny (model prog w) A (eval i1 env) (fun z s₄ => wpAny (model prog w) A (pyIter z) (fun it' s₅ =>
            codeAny (model prog w) A (.compStart (two elt x y px py i0 i1 ifs scope pos) 1 it' acc env) (fun r s₆ => ∃ f, r = .ok f ∧ ∃ m, m < n ∧ I m s₆) s₅) E' s₄) E' s₃
          else ∃ m, m < n ∧ I m s₃) E' s₂) E' s₁) E' s)
    (n : Nat) (h : I n s) (hs : ∀ x, foldedSetIterable i1 env x = pure x := by intro _; rfl) : codeAny (model prog w) A (.compLoop (two elt x y px py i0 i1 ifs scope pos) 0 it acc env) R s := by
  refine codeAny_loop rfl I (fun n s hI => ?_) n h
  show wpAny _ _ ((compTurn (two elt x y px py i0 i1 ifs scope pos) 0 it acc env).onRaise (fun x => do noteFrame x env; theTreesLotGoes x)) _ _ s
  refine wpAny_noted ?_
  rw [turn_two0]
  refine wpAny_bind (wpAny_standAt (wpAny_bind (wpAny_mono (turn n s hI _) (fun r s₁ h₁ => ?_) fun _ _ h' => h')))
  cases r with
  | none => exact wpAny_pure h₁
  | some v =>
    refine wpAny_bind (wpAny_of_eq (rfl : letOwnedTupleGo (.Name x px) it v = pure ()) ?_)
    refine wpAny_bind (wpAny_mono h₁ (fun _ s₂ h₂ => wpAny_bind (wpAny_mono h₂ (fun ok s₃ h₃ => ?_) fun _ _ h' => h')) fun _ _ h' => h')
    cases ok with
    | false => exact wpAny_pure ⟨rfl, h₃⟩
    | true =>
      refine wpAny_bind (wpAny_mono h₃ (fun z s₄ h₄ => wpAny_bind (wpAny_standAt (wpAny_bind (wpAny_of_eq (hs z) (wpAny_bind (wpAny_holding (wpAny_mono h₄ (fun it' s₅ h₅ => ?_) fun _ _ h' => h'))))))) fun _ _ h' => h')
      refine wpAny_bind (wpAny_runOwn (codeAny_mono h₅ fun r s₆ hr => ?_))
      (refine ex1E hr fun f qq1 => ?_; try clear hr; refine and2E qq1 fun qq10 hr => ?_; try clear qq1; rcases qq10 with rfl)
      exact wpAny_pure ⟨rfl, hr⟩
theorem start_two0
    (h0 : codeAny (model prog w) A (.compLoop (two elt x y px py i0 i1 ifs scope pos) 0 it acc env) R s)
    (h : ∀ E', wpAny (model prog w) A (pyIter it) (fun it' s' => codeAny (model prog w) A (.compLoop (two elt x y px py i0 i1 ifs scope pos) 0 it' acc env) R s') E' s) :
    codeAny (model prog w) A (.compStart (two elt x y px py i0 i1 ifs scope pos) 0 it acc env) R s := codeAny_compStart_list h0 (h _)
theorem start_two1
    (h0 : codeAny (model prog w) A (.compLoop (two elt x y px py i0 i1 ifs scope pos) 1 it acc env) R s)
    (h : ∀ E', wpAny (model prog w) A (pyIter it) (fun it' s' => codeAny (model prog w) A (.compLoop (two elt x y px py i0 i1 ifs scope pos) 1 it' acc env) R s') E' s) :
    codeAny (model prog w) A (.compStart (two elt x y px py i0 i1 ifs scope pos) 1 it acc env) R s := by
  refine codeAny_of_tree ?_
  show wpAny _ _ ((compStart (two elt x y px py i0 i1 ifs scope pos) 1 it acc env).onRaise (fun x => do noteFrame x env; standAt theWindowsPlace)) _ _ s
  refine wpAny_notedAt ?_
  unfold compStart
  show wpAny _ _ (ask >>= _) _ _ s
  refine wpAny_bind (wpAny_askSetting (wpAny_ite ?_))
  split
  · first
      | exact wpAny_bind (wpAny_pure (wpAny_pure (And.intro rfl h0)))
      | exact wpAny_pure (And.intro rfl h0)
  · refine wpAny_bind (wpAny_rule ?_)
    show wpAny _ _ (standAt i1.pos >>= _) _ _ s
    exact wpAny_bind (wpAny_standAt (wpAny_bind (wpAny_mono (h _) (fun it' s' h' => wpAny_pure (And.intro rfl h')) fun _ _ x => x)))
end
inductive Two1 (h₀ : Heap) (L : Addr) (m : Str → Option Value) (I : Addr) (oI : Obj) (C D : Addr) (ys : List Value) (drawn : Drawn) (os : OsState) (Gn : Array GenState → Prop) (S : List (Addr × Obj) → Prop) (R : List Value → List (Addr × Obj) → Prop) : Result → Shared → Prop
  | mk (f : Flow) (h' : Heap) (tk' : Nat) (gs' : Array GenState) (oC' : Obj) (m₂' : Str → Option Value) (zs : List Value) (news' : List (Addr × Obj)) (hg : Gn gs') (F : Fr h₀ L h' m) (N : News h₀ L h' ((I, oI) :: (C, oC') :: (D, lst (ys ++ zs)) :: news')) (hC : NsObj oC' m₂') (off : Off3 I C D news') (hS : S news') (hR : R zs news') :
    Two1 h₀ L m I oI C D ys drawn os Gn S R (.ok f) ⟨h', gs', drawn, tk', os⟩
inductive Two0 (h₀ : Heap) (L : Addr) (m : Str → Option Value) (I : Addr) (oI : Obj) (C : Addr) (oC : Obj) (D : Addr) (ys : List Value) (drawn : Drawn) (os : OsState) (Gn : Array GenState → Prop) (S : List (Addr × Obj) → Prop) (R : List (Addr × Obj) → Prop) : Shared → Prop
  | mk (h' : Heap) (tk' : Nat) (gs' : Array GenState) (news' : List (Addr × Obj)) (hg : Gn gs') (F : Fr h₀ L h' m) (N : News h₀ L h' ((I, oI) :: (C, oC) :: (D, lst ys) :: news')) (off : Off3 I C D news') (hS : S news') (hR : R news') :
    Two0 h₀ L m I oI C oC D ys drawn os Gn S R ⟨h', gs', drawn, tk', os⟩
inductive TwoSt (h₀ : Heap) (L : Addr) (m : Str → Option Value) (I C D : Addr) (drawn : Drawn) (os : OsState) (Gn : Array GenState → Prop) (St : Nat → Heap → Prop) (S : List (Addr × Obj) → Prop) (n : Nat) (R : Nat → Nat → List Value → List (Addr × Obj) → Prop) : Nat → Shared → Prop
  | mk (h' : Heap) (tk : Nat) (gs : Array GenState) (i : Nat) (ys : List Value) (m' : Str → Option Value) (news' : List (Addr × Obj)) (hg : Gn gs) (hi : i ≤ n) (st : St i h') (F : Fr h₀ L h' m) (hn : h'.Ns C m') (N : News h₀ L h' ((D, lst ys) :: news')) (off : Off3 I C D news') (hS : S news') (hR : R (n - i) i ys news') :
    TwoSt h₀ L m I C D drawn os Gn St S n R (n + 1 - i) ⟨h', gs, drawn, tk, os⟩
noncomputable def Comp2 (prog : Program) (w : World) (A : Around) (h₀ : Heap) (L : Addr) (m : Str → Option Value) (env : Env) (elt : Expr) (x y : Str) (px py : Pos) (i0 i1 : Expr) (ifs : List Expr) (scope : Scope) (pos : Pos) (cl : List (Str × Addr)) (s : Shared) (S : List (Addr × Obj) → Prop)
    (P : Nat → Value → Prop) (Gn : Array GenState → Prop) (Fin : List Value → List (Addr × Obj) → Prop) : Nat → Nat → List Value → List (Addr × Obj) → Prop
  | 0, _, ys, news => Fin ys news
  | k + 1, i, ys, news => ∀ v I oI C oC D m₂ h tk gs (E' : Value → Shared → Prop), P i v → NsObj oC m₂ → m₂ x = some v → Fr h₀ L h m → News h₀ L h ((I, oI) :: (C, oC) :: (D, lst ys) :: news) → Off3 I C D news → ((@Ne Nat I C) ∧ (@Ne Nat I D) ∧ (@Ne Nat C D)) → Gn gs →
      wpAny (model prog w) A (testsOf ifs (compEnvC scope cl C env)) (fun ok s₃ => if ok = true then
        wpAny (model prog w) A (eval i1 (compEnvC scope cl C env)) (fun z s₄ => wpAny (model prog w) A (pyIter z) (fun it s₅ =>
          codeAny (model prog w) A (.compStart (two elt x y px py i0 i1 ifs scope pos) 1 it (.ref D) (compEnvC scope cl C env)) (Two1 h₀ L m I oI C D ys s.drawn s.os Gn S
            (fun zs news' => Comp2 prog w A h₀ L m env elt x y px py i0 i1 ifs scope pos cl s S P Gn Fin k (i + 1) (ys ++ zs) news')) s₅) E' s₄) E' s₃
        else Two0 h₀ L m I oI C oC D ys s.drawn s.os Gn S (fun news' => Comp2 prog w A h₀ L m env elt x y px py i0 i1 ifs scope pos cl s S P Gn Fin k (i + 1) ys news') s₃) E' { s with heap := h, toks := tk, gens := gs }
section
variable {prog : Program} {w : World} {A : Around} {E : Value → Shared → Prop} {s : Shared} {h₀ : Heap} {L : Addr} {m : Str → Option Value} {env : Env} {elt i0 i1 : Expr} {ifs : List Expr} {x y : Str} {px py pos : Pos} {scope : Scope} {cl : List (Str × Addr)} {Gn : Array GenState → Prop}
theorem block_two {s₂ : Shared} {I : Addr} {fp : List Addr} {n : Nat} {P : Nat → Value → Prop} {St : Nat → Heap → Prop} {S : List (Addr × Obj) → Prop} {news : List (Addr × Obj)}
    {Fin : List Value → List (Addr × Obj) → Prop} {RR : Value → Addr → Result → Shared → Prop}
    (W : Walks prog w A I fp [I] n P St) (hIo : ∀ i h, St i h → ∃ o, h.get? I = some o)
    (hSt : ∀ i h h' o nw, St i h → h.get? I = some o → h'.get? I = some o → (∀ b o, h₀.get? b = some o → h'.get? b = some o) → News h₀ L h' nw → S nw → St i h')
    (hcell : ∀ y ∈ scope.names, y.2 ≠ .cell) (hkind : scope.kind = .function) (hx : scope.names.lookup x = some .local) (hst : St 0 s₂.heap) (hfp : ∀ b ∈ fp, b < s₂.heap.objs.size)
    (F : Fr h₀ L s₂.heap m) (N : News h₀ L s₂.heap news) (hIL : L ≠ I) (hI₀ : h₀.get? I = none) (off : ∀ p ∈ news, p.1 ≠ I) (hS : S news) (hG : Gn s₂.gens)
    (R : Comp2 prog w A h₀ L m env elt x y px py i0 i1 ifs scope pos cl s₂ S P Gn Fin n 0 [] news)
    (hRR : ∀ D C h tk gs m' ys news', Gn gs → Fr h₀ L h m → News h₀ L h ((D, lst ys) :: news') → Off1 D news' → h.Ns C m' → h₀.get? C = none → h₀.get? D = none → C ≠ L → D ≠ L → C ≠ D → (∀ p ∈ news', p.1 ≠ C) → Fin ys news' → RR (.ref D) C (.ok .next) { s₂ with heap := h, toks := tk, gens := gs })
    (hs : ∀ env x, foldedSetIterable i1 env x = pure x := by intro _ _; rfl) :
    wpAny (model prog w) A (newList []) (fun acc s₃ => wpAny (model prog w) A (newFunctionEnv scope env.globals cl [] env.qual none .none (some env)) (fun cenv s₄ =>
      codeAny (model prog w) A (.compStart (two elt x y px py i0 i1 ifs scope pos) 0 (.ref I) acc { cenv with scope := relabel scope env }) (RR acc cenv.locals) s₄) E s₃) E s₂ := by
  refine wpAny_newObj_type (wpAny_newFunctionEnv hcell (by intro y hy; simp at hy) (fun h₁ hns₁ hsb₁ => ?_) hkind)
  dsimp only at hns₁ hsb₁ ⊢
  generalize hH2 : s₂.heap.push { cls := .type "list", dict := none, data := .seq ([] : List Value).toArray } = H2 at hns₁ hsb₁ ⊢
  have hC : H2.objs.size = s₂.heap.objs.size + 1 := by rw [← hH2, Heap.size_push]
  have hDC : s₂.heap.objs.size ≠ H2.objs.size := by rw [hC]; exact Nat.ne_of_lt (Nat.lt_succ_self _)
  have below : ∀ b, b < s₂.heap.objs.size → b ≠ H2.objs.size ∧ b ≠ s₂.heap.objs.size := fun b hb => ⟨by rw [hC]; exact Nat.ne_of_lt (Nat.lt_succ_of_lt hb), Nat.ne_of_lt hb⟩
  have hDf : s₂.heap.objs.size ∉ fp := fun hm => Nat.lt_irrefl _ (hfp _ hm)
  have hCf : H2.objs.size ∉ fp := fun hm => by have := hfp _ hm; rw [hC] at this; exact Nat.lt_irrefl _ (Nat.lt_of_succ_lt this)
  have hIf : I ∈ fp := W.sub I (List.mem_singleton.mpr rfl)
  have hIlt : I < s₂.heap.objs.size := hfp I hIf
  have old : ∀ b o, s₂.heap.get? b = some o → h₁.get? b = some o := fun b o e => hsb₁.extBut b o (below b (Heap.lt_size e)).1 (Heap.get?_push_of_some _ (hH2 ▸ Heap.get?_push_of_some _ e))
  have hacc : h₁.get? s₂.heap.objs.size = some (lst []) := hsb₁.extBut _ _ hDC (Heap.get?_push_of_some _ (hH2 ▸ Heap.get?_push_size _ rfl))
  have hst₁ : St 0 h₁ := W.frame _ _ _ hst fun b _ o e => old b o e
  have fresh : ∀ a, s₂.heap.objs.size ≤ a → s₂.heap.get? a = none := fun a ha => by
    cases e : s₂.heap.get? a with
    | none => rfl
    | some o' => exact absurd (Heap.lt_size e) (Nat.not_lt.mpr ha)
  have fresh₀ : ∀ a, s₂.heap.objs.size ≤ a → h₀.get? a = none := fun a ha => by
    cases e : h₀.get? a with
    | none => rfl
    | some o' => have := F.keep a o' e; rw [fresh a ha] at this; cases this
  have hD₀ : h₀.get? s₂.heap.objs.size = none := fresh₀ _ (Nat.le_refl _)
  have hC₀ : h₀.get? H2.objs.size = none := fresh₀ _ (by rw [hC]; exact Nat.le_succ _)
  have hLlt : L < s₂.heap.objs.size := F.ns.lt
  have hDL : s₂.heap.objs.size ≠ L := Ne.symm (below L hLlt).2
  have hCL : H2.objs.size ≠ L := Ne.symm (below L hLlt).1
  have hCI : I ≠ H2.objs.size := (below I hIlt).1
  have hDI : I ≠ s₂.heap.objs.size := (below I hIlt).2
  have off₀ : Off3 I H2.objs.size s₂.heap.objs.size news := Off3.of fun p hp => ⟨off p hp, (below _ (Heap.lt_size (N p hp).1)).1, (below _ (Heap.lt_size (N p hp).1)).2⟩
  have loop : ∀ s₃ : Shared, s₃ = { s₂ with heap := h₁, toks := s₂.toks + ([] : List (Str × Value)).length } →
      codeAny (model prog w) A (.compLoop (two elt x y px py i0 i1 ifs scope pos) 0 (.ref I) (.ref s₂.heap.objs.size) (compEnvC scope cl H2.objs.size env))
        (RR (.ref s₂.heap.objs.size) H2.objs.size) s₃ := by
    (intro s₃ qr1; rcases qr1 with rfl)
    refine loop_two0
      (TwoSt h₀ L m I H2.objs.size s₂.heap.objs.size s₂.drawn s₂.os Gn St S n (Comp2 prog w A h₀ L m env elt x y px py i0 i1 ifs scope pos cl s₂ S P Gn Fin)) ?_ (n + 1)
      (.mk h₁ _ s₂.gens 0 [] _ news hG (Nat.zero_le _) hst₁ (F.keeps old) hns₁ (newsC hacc ⟨hDL, hD₀⟩ (N.grown old)) off₀ hS R) (hs _)
    · (intro k s' qr2 E'; obtain ⟨h', tk, gs, i, ys, m', news', hg, hi, hst', F', hn', N', off', hS', R'⟩ := qr2)
      by_cases hlt : i < n
      · obtain ⟨j, hj⟩ : ∃ j, n - i = j + 1 := ⟨n - i - 1, by omega⟩
        rw [hj] at R'
        refine W.item i _ _ _ hlt hst' fun v h₂ tk₂ hPv hst₂ hk₂ => ?_
        refine wpAny_assign_Name (wpAny_storeName_local (lookup_relabel_local hx) (hn'.at' fun o e => hk₂ _ o (by simpa using Ne.symm hCI) e) (fun h₃ hn₃ hs₃ => ?_) (by simp [compEnvC, relabel, hkind]))
        have hst₃ : St (i + 1) h₃ := W.frame _ _ _ hst₂ fun b hb o e => hs₃.extBut b o (fun q => hCf (by have q' : b = H2.objs.size := q; rw [← q']; exact hb)) e
        refine ex1E (hIo _ _ hst₃) fun oI heI => ?_
        (refine ex1E (ns_obj hn₃) fun oC qq1 => ?_; refine and2E qq1 fun heC hoC => ?_; try clear qq1)
        have F₃ : Fr h₀ L h₃ m := (fr_but F' hk₂ hIL hI₀).change hs₃ hCL hC₀
        have off3 := off'.mem
        have N₂ : News h₀ L h₂ ((s₂.heap.objs.size, lst ys) :: news') := news_but N' hk₂ (allC (Ne.symm hDI) fun p hp => (off3 p hp).1)
        have off4 : ∀ p ∈ (s₂.heap.objs.size, lst ys) :: news', p.1 ≠ H2.objs.size := allC hDC fun p hp => (off3 p hp).2.1
        have N₃ : News h₀ L h₃ ((I, oI) :: (H2.objs.size, oC) :: (s₂.heap.objs.size, lst ys) :: news') := newsC heI ⟨Ne.symm hIL, hI₀⟩ (newsC heC ⟨hCL, hC₀⟩ fun p hp => ⟨hs₃.extBut _ _ (off4 p hp) (N₂ p hp).1, (N₂ p hp).2⟩)
        refine wpAny_mono (R' v I oI H2.objs.size oC s₂.heap.objs.size _ h₃ _ gs E' hPv hoC (by simp) F₃ N₃ off' ⟨hCI, hDI, Ne.symm hDC⟩ hg) (fun ok s₄ h₄ => ?_) fun _ _ e => e
        cases ok with
        | true =>
          simp only [if_true] at h₄ ⊢
          refine wpAny_mono h₄ (fun z s₅ h₅ => wpAny_mono h₅ (fun it' s₆ h₆ => codeAny_mono h₆ fun r s₇ hr => ?_) fun _ _ e => e) fun _ _ e => e
          obtain ⟨f, h₄, tk₄, gs₄, oC', m₂', zs, news₄, hg₄, F₄, N₄, hoC', off₄, hS₄, R₄⟩ := hr
          refine ⟨f, rfl, n + 1 - (i + 1), by omega, .mk h₄ tk₄ gs₄ (i + 1) (ys ++ zs) _ news₄ hg₄ hlt (hSt _ _ _ _ _ hst₃ heI (N₄ _ List.mem_cons_self).1 F₄.keep (fun p hp => N₄ p (List.mem_cons_of_mem _ (List.mem_cons_of_mem _ (List.mem_cons_of_mem _ hp)))) hS₄)
            F₄ (hoC'.ns (N₄ _ (List.mem_cons_of_mem _ List.mem_cons_self)).1) (fun p hp => N₄ p (List.mem_cons_of_mem _ (List.mem_cons_of_mem _ hp))) off₄ hS₄ ?_⟩
          rw [show n - (i + 1) = j by omega]
          exact R₄
        | false =>
          simp only [Bool.false_eq_true, if_false] at h₄ ⊢
          obtain ⟨h₄, tk₄, gs₄, news₄, hg₄, F₄, N₄, off₄, hS₄, R₄⟩ := h₄
          refine ⟨n + 1 - (i + 1), by omega, .mk h₄ tk₄ gs₄ (i + 1) ys _ news₄ hg₄ hlt (hSt _ _ _ _ _ hst₃ heI (N₄ _ List.mem_cons_self).1 F₄.keep (fun p hp => N₄ p (List.mem_cons_of_mem _ (List.mem_cons_of_mem _ (List.mem_cons_of_mem _ hp)))) hS₄)
            F₄ (hoC.ns (N₄ _ (List.mem_cons_of_mem _ List.mem_cons_self)).1) (fun p hp => N₄ p (List.mem_cons_of_mem _ (List.mem_cons_of_mem _ hp))) off₄ hS₄ ?_⟩
          rw [show n - (i + 1) = j by omega]
          exact R₄
      · have ei : i = n := Nat.le_antisymm hi (Nat.not_lt.mp hlt)
        rw [ei, Nat.sub_self] at R'
        rw [ei] at hst'
        refine W.done _ _ _ hst' fun h₂ tk₂ hk₂ => ?_
        have off3 := off'.mem
        exact hRR _ _ h₂ tk₂ gs _ ys news' hg (fr_but F' hk₂ hIL hI₀) (news_but N' hk₂ (allC (Ne.symm hDI) fun p hp => (off3 p hp).1)) off'.one (hn'.at' fun o e => hk₂ _ o (by simpa using Ne.symm hCI) e) hC₀ hD₀ hCL hDL (Ne.symm hDC) (fun p hp => (off3 p hp).2.1) R'
  exact start_two0 (loop _ rfl) fun _ => W.self 0 _ _ _ hst₁ (loop _ rfl)
noncomputable def Fin2 (h₀ : Heap) (L : Addr) (m : Str → Option Value) (s : Shared) (Gn : Array GenState → Prop) (y : Str) (Q : Flow → Shared → Prop) (ys : List Value) (news : List (Addr × Obj)) : Prop :=
  ∀ D h tk gs, Gn gs → Fr h₀ L h (fun z => if z = y then some (.ref D) else m z) → News h₀ L h ((D, lst ys) :: news) → Off1 D news → Q .next { s with heap := h, toks := tk, gens := gs }
theorem Assign_two {y₀ : Str} {py₀ spos : Pos} {Q : Flow → Shared → Prop} (_F₀ : Fr h₀ L s.heap m) (hh : A.handled = none) (hLe : env.locals = L)
    (hsw : swapsWith (two elt x y px py i0 i1 ifs scope pos) (some (.Name y₀ py₀)) spos.line env = pure true)
    (hclos : closureFor scope env = pure cl) (hcell : ∀ z ∈ scope.names, z.2 ≠ .cell) (hkind : scope.kind = .function)
    (hnames : ∀ z ∈ scope.names, z.2 = .local → scope.names.lookup z.1 = some .local) (hx : scope.names.lookup x = some .local)
    (hy : env.kindOf y₀ = some .local) (hp : (env.scope.kind == .class || (env.scope.kind == .module && env.locals != env.globals)) = false)
    (h : wpAny (model prog w) A (eval i0 env) (fun xv s₁ => ∃ ax its news, xv = .ref ax ∧ Fr h₀ L s₁.heap m ∧ News h₀ L s₁.heap news ∧ SrcAt h₀ ax its news ∧ Gn s₁.gens ∧
      ∀ s₂ : Shared, (∃ h, s₂ = { s₁ with heap := h }) → Comp2 prog w A h₀ L m env elt x y px py i0 i1 ifs scope pos cl s₂ (SrcAt h₀ ax its) (fun i v => its[i]? = some v) Gn (Fin2 h₀ L m s₂ Gn y₀ Q) its.size 0 [] news) E s)
    (hs : ∀ x, foldedSetIterable i0 env x = pure x := by intro _; rfl) (hs1 : ∀ env x, foldedSetIterable i1 env x = pure x := by intro _ _; rfl) :
    wpAny (model prog w) A (exec (.Assign [.Name y₀ py₀] (two elt x y px py i0 i1 ifs scope pos) spos) env) Q E s := by
  subst hLe
  rw [exec_Assign_Name_used _ _ _ _ hsw]
  refine wpAny_bind (wpAny_standAt (wpAny_bind ?_))
  show wpAny _ A (do let _ ← comprehension (two elt x y px py i0 i1 ifs scope pos) scope env _ (newList []) false (eval i0 env) (some (assign (.Name y₀ py₀) env))) _ _ s
  refine wpAny_bind (wpAny_mono (wpAny_comprehension_free (use := some (assign (.Name y₀ py₀) env)) (Q := fun _ s' => Q .next s') rfl hs hclos hkind hnames
    (wpAny_mono h (fun xv s₁ h₁ => ?_) fun _ _ e => e)) (fun _ s' hq => wpAny_pure (wpAny_pure hq)) fun _ _ e => e)
  (refine ex3E h₁ fun ax its news qq3 => ?_; try clear h₁; refine and6E qq3 fun qq30 F N S hg R => ?_; try clear qq3; rcases qq30 with rfl)
  have hl := S.list F.keep N
  have hlt : ax < s₁.heap.objs.size := by (refine ex1E hl fun ux qq1 => ?_; try clear hl; refine and2E qq1 fun e ux => ?_; try clear qq1); exact Heap.lt_size e
  refine wpAny_pyIter_list hl ?_
  have up : ∀ b o, s₁.heap.get? b = some o → (s₁.heap.push { cls := .type "list_iterator", data := .fields #[.ref ax, .int 0 0] }).get? b = some o := fun b o e => Heap.get?_push_of_some _ e
  refine block_two (Gn := Gn) (Walks.list hh s₁.heap.objs.size ax (Nat.ne_of_lt hlt) its) (fun i h st => by (refine ex1E st.1 fun o qq1 => ?_; refine and2E qq1 fun e ux => ?_; try clear qq1); exact ⟨o, e⟩) list_st hcell hkind hx ⟨⟨_, Heap.get?_push_size _ rfl, rfl, rfl⟩, hl.push _⟩ (fun b hb => ?_)
    (F.keeps up) (N.grown up) (Nat.ne_of_lt F.ns.lt) (next_is_new F) (fun p hp => Nat.ne_of_lt (Heap.lt_size (N p hp).1)) S hg (R _ ⟨_, rfl⟩) ?_ hs1
  · show b < (s₁.heap.push _).objs.size
    rw [Heap.size_push]
    rcases List.mem_cons.mp hb with rfl | hb
    · exact Nat.lt_succ_self _
    · rw [List.mem_singleton.mp hb]; exact Nat.lt_succ_of_lt hlt
  · intro D C h' tk gs m' ys news' hg' F' N' o1 hn hC₀ hD₀ hCL hDL hCD offC fin
    show wpAny _ A (assign (.Name y₀ py₀) env (.ref D)) _ _ _
    refine wpAny_assign_Name (wpAny_storeName_local hy F'.ns (fun h₂ hn₂ hs₂ => ?_) hp)
    have hL₀ : h₀.get? env.locals = none := Heap.get?_none_of_le F'.above
    have F₂ : Fr h₀ env.locals h₂ (fun z => if z = y₀ then some (.ref D) else m z) := ⟨hn₂, fun b o e => hs₂.extBut b o (fun q => by rw [q, hL₀] at e; cases e) (F'.keep b o e), F'.above⟩
    have offD : ∀ p ∈ (D, lst ys) :: news', p.1 ≠ C := allC (Ne.symm hCD) offC
    exact ⟨m', hn.sameBut hs₂ hCL, fun h'' hs'' => fin D h'' _ gs hg' (F₂.change hs'' hCL hC₀) (fun p hp => ⟨hs''.extBut _ _ (offD p hp) (hs₂.extBut _ _ (N' p hp).2.1 (N' p hp).1), (N' p hp).2⟩) o1⟩
end
inductive InEnd (h₀ : Heap) (L : Addr) (m : Str → Option Value) (led : Obj → List (Addr × Obj)) (gens : Array GenState) (drawn : Drawn) (os : OsState) : Result → Shared → Prop
  | mk (f : Flow) (h' : Heap) (tk' : Nat) (oC' : Obj) (m₂' : Str → Option Value) (F : Fr h₀ L h' m) (N : News h₀ L h' (led oC')) (hC : NsObj oC' m₂') : InEnd h₀ L m led gens drawn os (.ok f) ⟨h', gens, drawn, tk', os⟩
inductive InSt (s : Shared) (I2 l C D : Addr) (ys zs : List Value) : Nat → Shared → Prop
  | mk (h' : Heap) (tk i : Nat) (m' : Str → Option Value) (hi : i ≤ zs.length) (hit : h'.IsListIter I2 l i) (hn : h'.Ns C m') (hD : h'.get? D = some (lst (ys ++ zs.take i))) (hk : ∀ b o, b ≠ C → b ≠ D → b ≠ I2 → s.heap.get? b = some o → h'.get? b = some o) :
    InSt s I2 l C D ys zs (zs.length - i) ⟨h', s.gens, s.drawn, tk, s.os⟩
section
variable {prog : Program} {w : World} {A : Around} {E : Value → Shared → Prop} {s : Shared} {h₀ : Heap} {L : Addr} {m : Str → Option Value} {env : Env} {i0 i1 : Expr} {ifs : List Expr} {x y : Str} {px py pe pos : Pos} {scope : Scope} {cl : List (Str × Addr)}
theorem inner_names {I C D l : Addr} {oI oC : Obj} {ys zs : List Value} {news : List (Addr × Obj)} {m₂ : Str → Option Value} (hh : A.handled = none) (F : Fr h₀ L s.heap m) (N : News h₀ L s.heap ((I, oI) :: (C, oC) :: (D, lst ys) :: news)) (hoC : NsObj oC m₂)
    (off : Off3 I C D news) (ne : (@Ne Nat I C) ∧ (@Ne Nat I D) ∧ (@Ne Nat C D)) (hl : s.heap.IsList l zs.toArray) (hlC : @Ne Nat l C) (hlD : @Ne Nat l D)
    (hy : scope.names.lookup y = some .local) (hkind : scope.kind = .function) (hd : (y == ("__debug__" : Str)) = false) (hsz : ys.length + zs.length ≤ sizeLine) :
    wpAny (model prog w) A (pyIter (.ref l)) (fun it s₅ => codeAny (model prog w) A (.compStart (two (.Name y pe) x y px py i0 i1 ifs scope pos) 1 it (.ref D) (compEnvC scope cl C env))
      (InEnd h₀ L m (fun oC' => (I, oI) :: (C, oC') :: (D, lst (ys ++ zs)) :: news) s.gens s.drawn s.os) s₅) E s := by
  (refine ex1E (id hl) fun ol qq1 => ?_; refine and2E qq1 fun hol ux => ?_; try clear qq1)
  have hlt : l < s.heap.objs.size := Heap.lt_size hol
  have zC := N (C, oC) (.tail _ (.head _))
  have zD := N (D, lst ys) (.tail _ (.tail _ (.head _)))
  have hCl : C < s.heap.objs.size := Heap.lt_size zC.1
  have hDl : D < s.heap.objs.size := Heap.lt_size zD.1
  have hLl : L < s.heap.objs.size := F.ns.lt
  refine wpAny_pyIter_list hl ?_
  generalize hI2 : s.heap.objs.size = I2 at hlt hCl hDl hLl ⊢
  have up : ∀ b o, s.heap.get? b = some o → (s.heap.push { cls := .type "list_iterator", data := .fields #[.ref l, .int 0 0] }).get? b = some o := fun b o e => Heap.get?_push_of_some _ e
  have hit0 : (s.heap.push { cls := .type "list_iterator", data := .fields #[.ref l, .int 0 0] }).IsListIter I2 l 0 := by
    rw [← hI2]; exact ⟨_, Heap.get?_push_size _ rfl, rfl, rfl⟩
  have loop : ∀ s₃ : Shared, s₃ = { s with heap := s.heap.push { cls := .type "list_iterator", data := .fields #[.ref l, .int 0 0] } } →
      codeAny (model prog w) A (.compLoop (two (.Name y pe) x y px py i0 i1 ifs scope pos) 1 (.ref I2) (.ref D) (compEnvC scope cl C env))
      (InEnd h₀ L m (fun oC' => (I, oI) :: (C, oC') :: (D, lst (ys ++ zs)) :: news) s.gens s.drawn s.os) s₃ := by
    (intro s₃ qr1; rcases qr1 with rfl)
    refine loop_two1 (InSt s I2 l C D ys zs) ?_ zs.length (.mk _ _ 0 m₂ (Nat.zero_le _) hit0 ((hoC.ns zC.1).push _) (by rw [List.take_zero, List.append_nil]; exact up _ _ zD.1) fun b o _ _ _ e => up b o e)
    (intro k s' qr2; obtain ⟨h', tk, i, m', hi, hit, hn, hD, hk⟩ := qr2)
    have hl' : h'.IsList l zs.toArray := hl.at fun o e => hk l o hlC hlD (Nat.ne_of_lt hlt) e
    rcases Nat.lt_or_eq_of_le hi with hlt' | rfl
    · refine wpAny_pyNext_list_item hit hl' (x := zs[i]) (by simp [hlt']) fun h₂ hit₂ hs₂ => ?_
      refine wpAny_assign_Name (wpAny_storeName_local (lookup_relabel_local hy) (hn.sameBut hs₂ (Nat.ne_of_lt hCl)) (fun h₃ hn₃ hs₃ => ?_) (by simp [compEnvC, relabel, hkind]))
      refine wpAny_Name (wpAny_loadName_local (v := zs[i]) (by simp [compEnvC, relabel, hkind]) (lookup_relabel_local hy) hn₃ (by simp) ?_) hd
      have hD₃ : h₃.get? D = some (lst (ys ++ zs.take i)) := hs₃.extBut _ _ (fun q => ne.2.2 q.symm) (hs₂.extBut _ _ (Nat.ne_of_lt hDl) hD)
      refine append_at (hsz := by show (ys ++ zs.take i).toArray.size ≤ sizeLine; rw [List.size_toArray, List.length_append, List.length_take]; omega) hD₃ fun h₄ hs₄ hD₄ => ?_
      refine ⟨zs.length - (i + 1), by omega, .mk h₄ _ (i + 1) _ hlt' ?_ (hn₃.sameBut hs₄ (fun q => ne.2.2 q)) ?_ fun b o h1 h2 h3 e => hs₄.extBut b o h2 (hs₃.extBut b o h1 (hs₂.extBut b o h3 (hk b o h1 h2 h3 e)))⟩
      · exact (hit₂.at fun o e => hs₃.extBut _ _ (fun q => Nat.ne_of_lt hCl q.symm) e).at fun o e => hs₄.extBut _ _ (fun q => Nat.ne_of_lt hDl q.symm) e
      · rw [hD₄]
        refine congrArg some ?_
        refine Eq.trans (lst_snoc (ys ++ zs.take i) zs[i]) ?_
        rw [List.append_assoc, List.take_add_one, List.getElem?_eq_getElem hlt']; rfl
    · refine wpAny_pyNext_list_end hh hit hl' (by simp) fun h₂ he => ?_
      have hk2 : ∀ b o, b ≠ C → b ≠ D → b ≠ I2 → s.heap.get? b = some o → h₂.get? b = some o := fun b o h1 h2 h3 e => he b o h3 (hk b o h1 h2 h3 e)
      have old : ∀ b o, s.heap.get? b = some o → b ≠ I2 := fun b o e => Nat.ne_of_lt (hI2 ▸ Heap.lt_size e)
      (refine ex1E (ns_obj (hn.at' fun o e => he C o (Nat.ne_of_lt hCl) e)) fun oC' qq1 => ?_; refine and2E qq1 fun heC hoC' => ?_; try clear qq1)
      refine .mk _ h₂ tk oC' m' ⟨?_, fun b o e => ?_, F.above⟩ (fun p hp => ?_) hoC'
      · (refine ex3E F.ns fun oL a1 a2 qq3 => ?_; refine and2E qq3 fun hL a3 => ?_; try clear qq3)
        exact ⟨oL, a1, a2, hk2 L oL (fun q => zC.2.1 q.symm) (fun q => zD.2.1 q.symm) (Nat.ne_of_lt hLl) hL, a3⟩
      · refine hk2 b o (fun q => ?_) (fun q => ?_) (old b o (F.keep b o e)) (F.keep b o e)
        · rw [q, zC.2.2] at e; cases e
        · rw [q, zD.2.2] at e; cases e
      · have off3 := off.mem
        have zI := N (I, oI) (.head _)
        have zD' := he D _ (Nat.ne_of_lt hDl) hD
        rw [List.take_length] at zD'
        exact newsC (hk2 _ _ ne.1 ne.2.1 (old _ _ zI.1) zI.1) zI.2 (newsC heC zC.2 (newsC zD' zD.2 fun p hp => have z := N p (.tail _ (.tail _ (.tail _ hp))); ⟨hk2 _ _ (off3 p hp).2.1 (off3 p hp).2.2 (old _ _ z.1) z.1, z.2⟩)) p hp
  exact start_two1 (loop _ rfl) fun _ => wpAny_pyIter_listiter hit0 (loop _ rfl)
end
section
variable {prog : Program} {w : World} {A : Around} {E : Value → Shared → Prop} {s : Shared} {h₀ : Heap} {L : Addr} {m : Str → Option Value} {env : Env} {elt i0 i1 : Expr} {ifs : List Expr} {x y : Str} {px py pos : Pos} {scope : Scope} {cl : List (Str × Addr)} {Gn : Array GenState → Prop}
  {S : List (Addr × Obj) → Prop} {P : Nat → Value → Prop} {Fin : List Value → List (Addr × Obj) → Prop} {α β : Type} {xs : List α} {R : α → Value → Prop} {f : α → List β} {R' : β → Value → Prop} {Inv : List (Addr × Obj) → Prop}
theorem comp2_fun {n : Nat} (hn : xs.length = n) (hP : ∀ i v, i < n → P i v → ∃ a, xs[i]? = some a ∧ R a v) {news : List (Addr × Obj)} (hI : Inv news)
    (turn : ∀ a v I oI C oC D m₂ ys h tk gs news (E' : Value → Shared → Prop), a ∈ xs → R a v → Inv news → (∃ j, xs[j]? = some a ∧ Are R' ys ((xs.take j).flatMap f)) → NsObj oC m₂ → m₂ x = some v → Fr h₀ L h m → News h₀ L h ((I, oI) :: (C, oC) :: (D, lst ys) :: news) → Off3 I C D news →
      ((@Ne Nat I C) ∧ (@Ne Nat I D) ∧ (@Ne Nat C D)) → Gn gs →
      wpAny (model prog w) A (testsOf ifs (compEnvC scope cl C env)) (fun ok s₃ => if ok = true then
        wpAny (model prog w) A (eval i1 (compEnvC scope cl C env)) (fun z s₄ => wpAny (model prog w) A (pyIter z) (fun it s₅ =>
          codeAny (model prog w) A (.compStart (two elt x y px py i0 i1 ifs scope pos) 1 it (.ref D) (compEnvC scope cl C env)) (Two1 h₀ L m I oI C D ys s.drawn s.os Gn S (fun zs news' => Inv news' ∧ Are R' zs (f a))) s₅) E' s₄) E' s₃
        else f a = [] ∧ Two0 h₀ L m I oI C oC D ys s.drawn s.os Gn S Inv s₃) E' { s with heap := h, toks := tk, gens := gs })
    (fin : ∀ ys news, Inv news → Are R' ys (xs.flatMap f) → Fin ys news) : Comp2 prog w A h₀ L m env elt x y px py i0 i1 ifs scope pos cl s S P Gn Fin n 0 [] news := by
  have key : ∀ (j i : Nat) (ys : List Value) (news : List (Addr × Obj)), Inv news → i + j = n → Are R' ys ((xs.take i).flatMap f) → Comp2 prog w A h₀ L m env elt x y px py i0 i1 ifs scope pos cl s S P Gn Fin j i ys news := by
    intro j
    induction j with
    | zero =>
      intro i ys news hI hi hy
      have e : i = xs.length := by omega
      subst e
      rw [List.take_length] at hy
      exact fin ys news hI hy
    | succ j ih =>
      intro i ys news hI hi hy
      intro v I oI C oC D m₂ h tk gs E' hv hC hx F N off ne hg
      (refine ex1E (hP i v (by omega) hv) fun a qq1 => ?_; refine and2E qq1 fun ha hR => ?_; try clear qq1)
      have step : (xs.take (i + 1)).flatMap f = (xs.take i).flatMap f ++ f a := by
        rw [List.take_add_one, ha, List.flatMap_append]; simp
      refine wpAny_mono (turn a v I oI C oC D m₂ ys h tk gs news E' (List.mem_of_getElem? ha) hR hI ⟨i, ha, hy⟩ hC hx F N off ne hg) (fun ok s₃ h₃ => ?_) fun _ _ e => e
      cases ok with
      | true =>
        rw [if_pos rfl] at h₃ ⊢
        refine wpAny_mono h₃ (fun z s₄ h₄ => wpAny_mono h₄ (fun it s₅ h₅ => codeAny_mono h₅ fun r s₆ hr => ?_) fun _ _ e => e) fun _ _ e => e
        obtain ⟨f', h', tk', gs', oC', m₂', zs, nw, hg', F', N', hC', off', hS', hI', hz⟩ := hr
        exact ⟨f', h', tk', gs', oC', m₂', zs, nw, hg', F', N', hC', off', hS', ih (i + 1) _ nw hI' (by omega) (by rw [step]; exact hy.append hz)⟩
      | false =>
        rw [if_neg Bool.false_ne_true] at h₃ ⊢
        (refine and2E h₃ fun hf qq1 => ?_; try clear h₃; rcases qq1 with ⟨h', tk', gs', nw, hg', F', N', off', hS', hI'⟩)
        exact ⟨h', tk', gs', nw, hg', F', N', off', hS', ih (i + 1) _ nw hI' (by omega) (by rw [step, hf, List.append_nil]; exact hy)⟩
  exact key n 0 [] news hI (by omega) .nil
end
end Mine
end
section
open PySem PySem.W PySem.Spec PySem.Calls PyProof.Rows
set_option maxRecDepth 100000 
set_option maxHeartbeats 2000000 
namespace Mine
theorem l0_D12 : True := by
  k_with_none
  k_with "q" => (all_goals first | assumption | with_unfolding_all exact rfl)
  k_with "ar" => with_reducible first | assumption | (apply Ar.le2; k_extra "q") | (apply Ar.n29; k_extra "q") | (apply Ar.ltn'; k_extra "q") | (apply Ar.i15; k_extra "q") | (apply Ar.i29; k_extra "q") | (apply Ar.i20; k_extra "q")
  trivial
inductive EJ (h₀ : Heap) (x : Str) (tx : Tok) (Ls : Addr) (L : Nat) (steps : List Stp) (ps0 : List Nat) (i : Nat) : (Str → Option Value) → List (Addr × Obj) → Prop
  | mk (Lq : Addr) (pv : List Value) (u : Str → Option Value) (nl : List (Addr × Obj)) (o1 o2 o3 : Obj) (v2 v3 : Option Value) (ps : Array Value)
    (hsrc : PyProof.Rows.LCg.SrcAt h₀ Lq pv.toArray nl) (hare : Are IsN pv (endsF x.cps.toList (steps.take i) ps0))
    (e1 : o1.data = .cell (some (.str x tx))) (e2 : o2.data = .cell v2) (e3 : o3.data = .cell v3) (ok : TabOk ps) (hnl : ∀ p ∈ nl, @Ne Nat p.1 (L + 1 + 1 + 1) ∧ @Ne Nat p.1 (L + 1 + 1) ∧ @Ne Nat p.1 (L + 1) ∧ @Ne Nat p.1 198) (hz : i = 0 ∨ ∃ k, nl = [(Lq, listOf pv.toArray k)]) :
    EJ h₀ x tx Ls L steps ps0 i (fun z => if z = Str.ofString "places" then some (.ref Lq) else if z = Str.ofString "steps" then some (.ref Ls) else if [Str.ofString "kind", Str.ofString "place", Str.ofString "moved"].contains z then u z else none)
      ((L + 1 + 1 + 1, o3) :: (L + 1 + 1, o2) :: (L + 1, o1) :: (198, tabObj ps) :: nl)
theorem EJ.of {h₀ : Heap} {x : Str} {tx : Tok} {Ls : Addr} {L : Nat} {steps : List Stp} {ps0 : List Nat} {i : Nat} {m m' : Str → Option Value} {nw : List (Addr × Obj)} (h : EJ h₀ x tx Ls L steps ps0 i m nw) (e : m' = m) : EJ h₀ x tx Ls L steps ps0 i m' nw := e ▸ h
theorem ej_next {h₀ h : Heap} {x : Str} {t : Tok} {Ls L I Lq : Addr} {steps : List Stp} {ps0 : List Nat} {i : Nat} {m' : Str → Option Value} {all : List (Addr × Obj)} {s : Shared} {oI o1 o2 o3 : Obj} {Q : Flow → Shared → Prop} {tk : Nat} {pv : List Value} {v2 v3 : Option Value} {ps : Array Value} {k : Nat} {st : Stp}
    (F : Fr h₀ L h m') (N : News h₀ L h all) (hm1 : m' (Str.ofString "places") = some (.ref Lq)) (hm2 : m' (Str.ofString "steps") = some (.ref Ls))
    (hm3 : ∀ z, z ≠ Str.ofString "places" → z ≠ Str.ofString "steps" → [Str.ofString "kind", Str.ofString "place", Str.ofString "moved"].contains z = false → m' z = none)
    (sub : ∀ p ∈ (I, oI) :: (L + 1 + 1 + 1, o3) :: (L + 1 + 1, o2) :: (L + 1, o1) :: (198, tabObj ps) :: [(Lq, listOf pv.toArray k)], p ∈ all)
    (e1 : o1.data = .cell (some (.str x t))) (e2 : o2.data = .cell v2) (e3 : o3.data = .cell v3) (ok : TabOk ps)
    (off : @Ne Nat (L + 1 + 1 + 1) I ∧ @Ne Nat (L + 1 + 1) I ∧ @Ne Nat (L + 1) I ∧ @Ne Nat 198 I ∧ @Ne Nat Lq I) (hq : @Ne Nat Lq (L + 1 + 1 + 1) ∧ @Ne Nat Lq (L + 1 + 1) ∧ @Ne Nat Lq (L + 1) ∧ @Ne Nat Lq 198)
    (hst : steps[i]? = some st) (hA : Are IsN pv (stF x.cps.toList st (endsF x.cps.toList (steps.take i) ps0))) :
    ForPost h₀ L s I oI (EJ h₀ x t Ls L steps ps0 (i + 1)) Q .next { s with heap := h, toks := tk } := by
  refine forPost_next (news := (L + 1 + 1 + 1, o3) :: (L + 1 + 1, o2) :: (L + 1, o1) :: (198, tabObj ps) :: [(Lq, listOf pv.toArray k)]) F N sub ?_ (EJ.of (.mk Lq pv m' [(Lq, listOf pv.toArray k)] o1 o2 o3 v2 v3 ps (.inr ⟨_, .head _, rfl, _, rfl⟩) ?_ e1 e2 e3 ok ?_ (.inr ⟨k, rfl⟩)) ?_)
  · intro p hp
    simp only [List.mem_cons, List.not_mem_nil, or_false] at hp
    rcases hp with rfl | rfl | rfl | rfl | rfl
    · exact off.1
    · exact off.2.1
    · exact off.2.2.1
    · exact off.2.2.2.1
    · exact off.2.2.2.2
  · rw [List.take_add_one, hst]
    unfold endsF at hA ⊢
    rw [List.foldl_append]
    exact hA
  · intro p hp
    rw [List.mem_singleton.mp hp]
    exact hq
  · funext z
    by_cases h1 : z = Str.ofString "places"
    · subst h1; rw [if_pos rfl]; exact hm1
    rw [if_neg h1]
    by_cases h2 : z = Str.ofString "steps"
    · subst h2; rw [if_pos rfl]; exact hm2
    rw [if_neg h2]
    cases h3 : [Str.ofString "kind", Str.ofString "place", Str.ofString "moved"].contains z with
    | true => rw [if_pos rfl]
    | false => rw [if_neg Bool.false_ne_true]; exact hm3 z h1 h2 h3
theorem are_ints {vs : List Value} {qs : List Nat} (h : Are IsN vs qs) : IntsAre vs (qs.map fun (n : Nat) => (n : Int)) := by
  induction h with
  | nil => exact .nil
  | cons a _ ih =>
    (refine ex1E a fun ux qq1 => ?_; try clear a; rcases qq1 with rfl)
    exact .cons _ _ ih
inductive MJ (m9 : Str → Option Value) (lM : Addr) (rest9 : List (Addr × Obj)) (t : List Nat) (g : Sg) (qs : List Nat) (j : Nat) : (Str → Option Value) → List (Addr × Obj) → Prop
  | mk (u2 : Option Value) (mvv : List Value) (k2 : Nat) (h : Are IsN mvv ((List.range j).foldl (mvF t g qs) [])) : MJ m9 lM rest9 t g qs j (fun z => if z = Str.ofString "place" then u2 else m9 z) ((lM, listOf mvv.toArray k2) :: rest9)
theorem MJ.of {m9 m m' : Str → Option Value} {lM : Addr} {rest9 : List (Addr × Obj)} {t : List Nat} {g : Sg} {qs : List Nat} {j : Nat} {nw nw' : List (Addr × Obj)} (h : MJ m9 lM rest9 t g qs j m nw) (e : m' = m) (e' : nw' = nw) : MJ m9 lM rest9 t g qs j m' nw' := e ▸ e' ▸ h
section
variable {prog : Program} {w : World} {A : Around} {E : Value → Shared → Prop} {s : Shared} {Q : Value → Shared → Prop} {h₀ : Heap} {L : Addr} {m : Str → Option Value} {news : List (Addr × Obj)}
theorem in_nats {l : Addr} {vs : List Value} {qs : List Nat} {i : Int} {j : Nat} {t : Tok} {b : Bool} (hl : s.heap.IsList l vs.toArray) (hi : Are IsN vs qs) (hij : i = (j : Int)) (hb : qs.contains j = b) (h : Q (.bool b) s) :
    wpAny (model prog w) A (compareOp .In (.int i t) (.ref l)) Q E s := by
  refine in_list_ints hl (are_ints hi) ?_
  have e : (qs.map fun (n : Nat) => (n : Int)).any (· == i) = b := by
    rw [← hb, hij]
    clear hl hi hb h
    induction qs with
    | nil => rfl
    | cons q r ih =>
      rw [List.map_cons, List.any_cons, ih, List.contains_cons]
      congr 1
      rw [Bool.eq_iff_iff, beq_iff_eq, beq_iff_eq]
      omega
  rw [e]; exact h
theorem Are.drop {β : Type} {R : β → Value → Prop} {vs : List Value} {bs : List β} (n : Nat) (h : Are R vs bs) : Are R (vs.drop n) (bs.drop n) := by
  induction n generalizing vs bs with
  | zero => exact h
  | succ n ih => cases h with
    | nil => exact .nil
    | cons _ r => exact ih r
theorem drop_last {α : Type} : ∀ l : List α, l.drop (l.length - 1) = l.getLast?.toList
  | [] => rfl
  | [a] => rfl
  | a :: b :: l => by
    have := drop_last (b :: l)
    simp only [List.length_cons, Nat.add_sub_cancel] at this ⊢
    rw [List.drop_succ_cons, this]
    simp [List.getLast?_cons_cons]
theorem last_slice {value slice : PySem.Expr} {l : Addr} {mvv : List Value} {mv : List Nat} {ut : Tok} (F : Fr h₀ L s.heap m) (N : News h₀ L s.heap news) (hl : s.heap.IsList l mvv.toArray) (hi : Are IsN mvv mv) (hz : mvv.toArray.size ≤ sizeLine)
    (h : ∀ D zs h', Fr h₀ L h' m → News h₀ L h' ((D, listOf (List.toArray zs) 0) :: news) → (∀ p ∈ news, p.1 < D) → Are IsN zs mv.getLast?.toList → Q (.ref D) { s with heap := h' })
    (hs : subscripted slice false (.ref l) (.ref s.heap.objs.size) = operate [.ref s.heap.objs.size, .ref l] (getItem (.ref l) (.ref s.heap.objs.size))) (ht : ∀ r, letTemporaryGo value (.ref l) r = pure ()) :
    wpAny (model prog w) A (subscriptTail value slice (.ref l) (.ref s.heap.objs.size)) Q E { s with heap := s.heap.push { cls := .type "slice", data := .fields #[.int (-1) ut, .none, .none] } } := by
  have e : (slicePick mvv.toArray (some (-1)) none none).toList = mvv.drop (mvv.length - 1) := by
    have q : sliceBounds (some (-1)) none none mvv.toArray.size = (((mvv.toArray.size - 1 : Nat) : Int), ((mvv.toArray.size : Nat) : Int), 1) := by
      simp only [sliceBounds, Option.getD_none, show (1 : Int) > 0 by decide, if_true, if_pos (show (-1 : Int) < 0 by decide)]
      congr 1
      omega
    rw [kmk_pick_nat _ q]
    show (mvv.drop (mvv.toArray.size - 1)).take (mvv.toArray.size - (mvv.toArray.size - 1)) = _
    rw [List.size_toArray, List.take_of_length_le (by rw [List.length_drop]; omega)]
  refine kmk_slice_lit F N hl (.int _ _) .none e (fun D h' F' N' l1 => h D _ h' F' N' l1 ?_) hs ht hz
  · rw [← drop_last, ← hi.length]
    exact hi.drop _
theorem eq_last {a b : Addr} {zs : List Value} {mv : List Nat} {i : Int} {j : Nat} {u : Tok} {c : Bool} (hl : s.heap.IsList a zs.toArray) (hi : Are IsN zs mv.getLast?.toList) (hl' : s.heap.IsList b #[.int i u]) (hij : i = (j : Int) - 1) (hb : mv.getLast?.any (fun q => q + 1 == j) = c) (hu : A.units + 64 < cLine) (h : Q (.bool c) s) :
    wpAny (model prog w) A (compareOp .Eq (.ref a) (.ref b)) Q E s := by
  refine ke_eq_ints (ys := [.int i u]) hl hl' (are_ints hi) (.cons _ _ .nil) hu ?_
  have e : decide ((mv.getLast?.toList.map fun (n : Nat) => (n : Int)) = [i]) = c := by
    rw [← hb]
    cases mv.getLast? with
    | none => simp
    | some q =>
      simp only [Option.toList_some, List.map_cons, List.map_nil, List.cons.injEq, and_true, Option.any_some]
      rw [Bool.eq_iff_iff, decide_eq_true_iff, beq_iff_eq]
      omega
  rw [e]; exact h
end
theorem hit_of {x : Str} {sign : List Nat} {a many : Nat} {barred b : Bool} (hlen : x.cps.toList.length = x.length) (hlt : a < x.length) (h : (barred != ((⟨#[x.cps.toList.getD a 0]⟩ : Str) == ⟨sign.toArray⟩)) = b) :
    b = (decide (a < x.cps.toList.length) && hit x.cps.toList ⟨many, barred, sign⟩ a) := by
  have e : ((⟨#[x.cps.toList.getD a 0]⟩ : Str) == ⟨sign.toArray⟩) = decide ([x.cps.toList.getD a 0] = sign) := by
    rw [Bool.eq_iff_iff, beq_iff_eq, decide_eq_true_iff]
    constructor
    · intro q
      injection q with q
      have := congrArg Array.toList q
      simpa using this
    · intro q
      rw [← q]
  rw [e] at h
  rw [hlen, decide_eq_true hlt, Bool.true_and]
  exact h.symm
theorem srcAt_list {h₀ h : Heap} {L a : Addr} {m : Str → Option Value} {its : Array Value} {nl all : List (Addr × Obj)} (hs : PyProof.Rows.LCg.SrcAt h₀ a its nl) (F : Fr h₀ L h m) (N : News h₀ L h all) (sub : ∀ p ∈ nl, p ∈ all) : h.IsList a its :=
  hs.list F.keep fun p hp => N p (sub p hp)
theorem srcAt_mono {h₀ : Heap} {a : Addr} {its : Array Value} {nl all : List (Addr × Obj)} (hs : PyProof.Rows.LCg.SrcAt h₀ a its nl) (sub : ∀ p ∈ nl, p ∈ all) : PyProof.Rows.LCg.SrcAt h₀ a its all :=
  hs.imp id fun ⟨o, hm, r⟩ => ⟨o, sub _ hm, r⟩
theorem item_any {prog : Program} {w : World} {A : Around} {E : Value → Shared → Prop} {s : Shared} {x : Str} {t : Tok} {Q : Value → Shared → Prop} {value slice : Expr} {u : Tok} {k : Nat} {i : Int} (hi : i = (k : Int)) (hk : k < x.length) (hsz : x.length ≤ 5000) (hq : ∀ t', Q (.str ⟨#[x.cps.toList.getD k 0]⟩ t') { s with toks := s.toks + 1 })
    (hs : subscripted slice false (.str x t) (.int i u) = operate [.str x t, .int i u] (getItem (.str x t) (.int i u)) := by with_unfolding_all rfl)
    (ht : ∀ r, letTemporaryGo value (.str x t) r = pure () := by intro _; with_unfolding_all rfl) :
    wpAny (model prog w) A (subscriptTail value slice (.str x t) (.int i u)) Q E s := by
  have hl : x.cps.toList.length = x.length := by simp [Str.length]
  have h2 : (x.cps.toList.drop k)[0]? = some (x.cps.toList.getD k 0) := by
    rw [List.getElem?_drop, Nat.add_zero, List.getD_eq_getElem?_getD, List.getElem?_eq_getElem (by omega)]; rfl
  exact item_atL (n := k) (k := 0) rfl h2 (by omega) hsz hq hs ht
section
variable {prog : Program} {w : World} {A : Around} {E : Value → Shared → Prop} {s : Shared} {Q : Value → Shared → Prop}
theorem nil_no {a b : Addr} {vs : List Value} {q : Nat} {qs : List Nat} (hl : s.heap.IsList a vs.toArray) (hi : Are IsN vs (q :: qs)) (hl' : s.heap.IsList b #[]) (hu : A.units + 64 < cLine) (h : Q (.bool false) s) :
    wpAny (model prog w) A (compareOp .Eq (.ref a) (.ref b)) Q E s :=
  ke_eq_ints (ys := []) hl hl' (are_ints hi) .nil hu (by simpa using h)
theorem nil_yes {a b : Addr} {vs : List Value} (hl : s.heap.IsList a vs.toArray) (hi : Are IsN vs []) (hl' : s.heap.IsList b #[]) (hu : A.units + 64 < cLine) (h : Q (.bool true) s) :
    wpAny (model prog w) A (compareOp .Eq (.ref a) (.ref b)) Q E s :=
  ke_eq_ints (ys := []) hl hl' (are_ints hi) .nil hu (by simpa using h)
end
noncomputable def StepOk : Stp → Prop
  | .one g => (g.many = 0 ∨ g.many = 1) ∧ g.sign.length ≤ 1
  | .grp _ => True
inductive EndsPost (res : List Nat) (h h' : Heap) : Value → Prop
  | mk (r : Addr) (vs : List Value) (k : Nat) (hr : h'.get? r = some (listOf vs.toArray k)) (hn : h.get? r = none) (hA : Are IsN vs res) : EndsPost res h h' (.ref r)
theorem mj_zero {m9 : Str → Option Value} {lM : Addr} {k0 : Nat} {rest9 : List (Addr × Obj)} {t : List Nat} {g : Sg} {qs : List Nat} : MJ m9 lM rest9 t g qs 0 m9 ((lM, listOf #[] k0) :: rest9) := by
  refine MJ.of (.mk (m9 (Str.ofString "place")) [] k0 .nil) ?_ rfl
  funext z
  by_cases h : z = Str.ofString "place"
  · subst h; rw [if_pos rfl]
  · rw [if_neg h]
section
variable {prog : Program} {w : World} {A : Around} {E : Value → Shared → Prop} {s : Shared} {h₀ : Heap} {L : Addr} {env : Env} {Q : Flow → Shared → Prop} {body : List Stmt}
theorem forAt_mj {r : Addr} {b : Int} {tt u v : Tok} {n : Nat} {m9 : Str → Option Value} {lM : Addr} {k0 : Nat} {rest9 : List (Addr × Obj)} {x : Str} {px : Pos} (t : List Nat) (g : Sg) (qs : List Nat)
    (hh : A.handled = none) (F : Fr h₀ L s.heap m9) (N : News h₀ L s.heap ((lM, listOf #[] k0) :: rest9)) (hr : IsRange s.heap r 0 b 1 tt u v) (hn : b = (n : Int)) (hz : n ≤ 10000)
    (turn : ∀ i t' I oI m nw h tk, i < n → MJ m9 lM rest9 t g qs i m nw → Fr h₀ L h m → News h₀ L h ((I, oI) :: nw) → (∀ p ∈ nw, @Ne Nat p.1 I) →
      wpAny (model prog w) A (assign (.Name x px) env (.int (0 + (i : Int)) t')) (fun _ s₃ => wpAny (model prog w) A (execs body env) (ForPost h₀ L s I oI (MJ m9 lM rest9 t g qs (i + 1)) Q) E s₃) E { s with heap := h, toks := tk })
    (done : ∀ m nw h tk, MJ m9 lM rest9 t g qs n m nw → Fr h₀ L h m → News h₀ L h nw → Q .next { s with heap := h, toks := tk }) :
    wpAny (model prog w) A (pyIter (.ref r)) (ForAt prog w A E h₀ L env (.Name x px) body Q) E s := by
  refine forAt_range (n := n) (MJ m9 lM rest9 t g qs) hh F N hr ?_ ?_ mj_zero turn done
  · subst hn
    exact small_one (by decide) (by decide) (by omega) (by omega)
  · subst hn
    rw [rangeSize_one]; split <;> omega
end
theorem mj_next {h₀ h : Heap} {L I lM : Addr} {m9 m' : Str → Option Value} {rest9 all : List (Addr × Obj)} {t : List Nat} {g : Sg} {qs : List Nat} {j k' tk : Nat} {oI : Obj} {s : Shared} {Q : Flow → Shared → Prop} {arr : Array Value}
    (F : Fr h₀ L h m') (N : News h₀ L h all) (hm : ∀ z, z ≠ Str.ofString "place" → m' z = m9 z) (sub : ∀ p ∈ (I, oI) :: (lM, listOf arr k') :: rest9, p ∈ all) (off : ∀ p ∈ (lM, listOf arr k') :: rest9, @Ne Nat p.1 I)
    (hA : Are IsN arr.toList (mvF t g qs ((List.range j).foldl (mvF t g qs) []) j)) : ForPost h₀ L s I oI (MJ m9 lM rest9 t g qs (j + 1)) Q .next { s with heap := h, toks := tk } := by
  refine forPost_next F N sub off (MJ.of (.mk (m' (Str.ofString "place")) arr.toList k' ?h1) ?h2 (by rw [Array.toArray_toList]))
  case h2 =>
    funext z
    by_cases hz : z = Str.ofString "place"
    · subst hz; rw [if_pos rfl]
    · rw [if_neg hz]; exact hm z hz
  case h1 => rw [List.range_succ, List.foldl_append]; exact hA
theorem hit_eq {x : Str} {sign : List Nat} {a many : Nat} {barred b : Bool} (h : (barred != ((⟨#[x.cps.toList.getD a 0]⟩ : Str) == ⟨sign.toArray⟩)) = b) : hit x.cps.toList ⟨many, barred, sign⟩ a = b := by
  have e : ((⟨#[x.cps.toList.getD a 0]⟩ : Str) == ⟨sign.toArray⟩) = decide ([x.cps.toList.getD a 0] = sign) := by
    rw [Bool.eq_iff_iff, beq_iff_eq, decide_eq_true_iff]
    constructor
    · intro q
      injection q with q
      have := congrArg Array.toList q
      simpa using this
    · intro q
      rw [← q]
  rw [e] at h
  exact h
theorem mv_in {t : List Nat} {g : Sg} {qs mv : List Nat} {j : Nat} {vs : List Value} {i : Int} {u : Tok} (h1 : qs.contains j = true) (h : Are IsN vs mv) (hi : i = (j : Int)) : Are IsN (vs ++ [Value.int i u]) (mvF t g qs mv j) := by
  unfold mvF
  rw [h1, Bool.true_or, if_pos rfl]
  exact h.append (.cons ⟨u, by rw [hi]⟩ .nil)
theorem mv_hit {x : Str} {barred : Bool} {sign qs mv : List Nat} {j many : Nat} {vs : List Value} {i : Int} {u : Tok} (h1 : qs.contains j = false) (h2 : mv.getLast?.any (fun q => q + 1 == j) = true)
    (h3 : (barred != ((⟨#[x.cps.toList.getD (j - 1) 0]⟩ : Str) == ⟨sign.toArray⟩)) = true) (h : Are IsN vs mv) (hi : i = (j : Int)) : Are IsN (vs ++ [Value.int i u]) (mvF x.cps.toList ⟨many, barred, sign⟩ qs mv j) := by
  unfold mvF
  rw [h1, h2, hit_eq h3, Bool.true_and, Bool.or_true, if_pos rfl]
  exact h.append (.cons ⟨u, by rw [hi]⟩ .nil)
theorem mv_miss {x : Str} {barred : Bool} {sign qs mv : List Nat} {j many : Nat} {vs : List Value} (h1 : qs.contains j = false) (h3 : (barred != ((⟨#[x.cps.toList.getD (j - 1) 0]⟩ : Str) == ⟨sign.toArray⟩)) = false) (h : Are IsN vs mv) : Are IsN vs (mvF x.cps.toList ⟨many, barred, sign⟩ qs mv j) := by
  unfold mvF
  rw [h1, hit_eq h3, Bool.and_false, Bool.or_false, if_neg Bool.false_ne_true]
  exact h
theorem mv_no {t : List Nat} {g : Sg} {qs mv : List Nat} {j : Nat} {vs : List Value} (h1 : qs.contains j = false) (h2 : mv.getLast?.any (fun q => q + 1 == j) = false) (h : Are IsN vs mv) : Are IsN vs (mvF t g qs mv j) := by
  unfold mvF
  rw [h1, h2, Bool.false_and, Bool.or_false, if_neg Bool.false_ne_true]
  exact h
theorem last_pos {mv : List Nat} {j : Nat} (h : mv.getLast?.any (fun q => q + 1 == j) = true) : 1 ≤ j := by
  cases e : mv.getLast? with
  | none => rw [e] at h; cases h
  | some q =>
    rw [e] at h
    simp at h
    omega
end Mine
end
section
open PySem PySem.W PySem.Spec PySem.Calls PyProof.Rows
set_option maxRecDepth 100000 
set_option maxHeartbeats 2000000 
namespace Mine
theorem lines_C9_0 : True := by
  k_with_none
  k_with "q" => (all_goals first | assumption | with_unfolding_all exact rfl)
  k_with "ar" => with_reducible first | assumption | (apply Ar.le0; k_extra "q") | (apply Ar.sn; k_extra "q") | (apply Ar.sn1; k_extra "q") | (apply Ar.ru2; k_extra "q") | (apply Ar.rl0; k_extra "q") | (apply Ar.rl2; k_extra "q") | (apply Ar.n19; k_extra "q") | (apply Ar.nes; k_extra "q") | (apply Ar.nl2; k_extra "q") | (apply Ar.pm0; k_extra "q") | (apply Ar.pl0; k_extra "q") | (apply Ar.pm1; k_extra "q") | (apply Ar.pl1; k_extra "q") | (apply Ar.pg1; k_extra "q") | (apply Ar.pm2; k_extra "q") | (apply Ar.pl2; k_extra "q") | (apply Ar.pg2; k_extra "q") | (apply Ar.pm3; k_extra "q") | (apply Ar.pl3; k_extra "q") | (apply Ar.pg3; k_extra "q") | (apply Ar.pm4; k_extra "q") | (apply Ar.pl4; k_extra "q") | (apply Ar.pg4; k_extra "q") | (apply Ar.pm5; k_extra "q") | (apply Ar.pl5; k_extra "q") | (apply Ar.pg5; k_extra "q") | (apply Ar.i14; k_extra "q")
  k_with "ite" => first | with_reducible refine ite_tt ?_ | with_reducible refine ite_ff ?_
  k_with "execs cons" => first | (with_reducible refine seqT1 ?_; intro tk) | (with_reducible refine seqT ?_; intro Kc tk hKc) | (with_reducible refine blkT ?_; intro Qd tk hQd)
  k_with "Nxt" => (k_dflt (dsimp only [Nxt]))
  k_with "Kont" => first | (k_dflt (refine hKc _ _ ?_; try clear hKc)) | (k_dflt (refine hQd _ _ ?_; try clear hQd)) | (k_dflt (refine hQc _ _ ?_; try clear hQc)) | (k_dflt (refine kont_app (by assumption) ?_))
  k_with "storeName" => (
      k_here
      k_dflt (refine storeL (by k_asm) (by k_asm) ?_ (by rfl) (by rfl))
      k_whole
      intro m1 h' tk F' N'
      (try k_sweep))
  k_with "mine enter" => (
      (case k3 => assumption)
      (case k5 => assumption)
      (case kT => assumption)
      (case k6 => k_is)
      (case k7 => k_is)
      (case k8 => (dsimp only [aA]; omega))
      (case k9 => exact BindsTo.of_eq rfl)
      (case c5 => decide)
      (case kB => exact locs rfl)
      (case c2 => exact rfl)
      (case c3 => exact rfl)
      (case c4 => exact rfl)
      (case' kk => skip)
      k_whole
      intro L' h' ps FL NL hps l0 lL gL
      (try dsimp only)
      (try k_fold))
  k_with "mine out3" => (repeat (first | exact Out.base3 | refine Out.upd rfl ?_))
  k_with "mine out1" => (repeat (first | exact Out.base1 | refine Out.upd rfl ?_))
  k_with "mine sub" => first
      | exact List.forall_mem_nil _
      | (refine' allC ?s1 ?s2; (case s1 => k_mem); (case s2 => walk_at "mine sub"))
      | (intro p hp; repeat (first | exact hp | apply List.Mem.tail))
  k_with "mine end" => (
      refine' ej_next (k := _) ?F ?N ?m1 ?m2 ?m3 ?sub ?e1 ?e2 ?e3 ?ok ?off ?hq ?st ?hA
      (case F => k_asm)
      (case N => k_asm)
      (case m1 => exact rfl)
      (case m2 => exact rfl)
      (case m3 => exact Out.three (by walk_at "mine out3"))
      (case sub => walk_at "mine sub")
      (case e1 => assumption)
      (case e2 => assumption)
      (case e3 => assumption)
      (case ok => assumption)
      (case off => exact ⟨by omega, by omega, by omega, by omega, by omega⟩)
      (case hq => exact ⟨by omega, by omega, by omega, by omega⟩)
      (case st => assumption))
  k_with "mine mj" => (
      refine mj_next (by k_asm) (by k_asm) (Out.one (by walk_at "mine out1")) (by walk_at "mine sub") (by simp only [List.forall_mem_cons]; exact off3) ?_
      first
      | (rw [Array.toList_push]; exact mv_in (by assumption) hmv (by omega))
      | (rw [Array.toList_push]; exact mv_hit (by assumption) (by assumption) (by assumption) hmv (by omega))
      | exact mv_miss (by assumption) (by assumption) hmv
      | exact mv_no (by assumption) (by assumption) hmv)
  trivial
theorem lx_C9_0 : True := by
  k_with "k_all" => (first | exact fun p hp => (hnl p hp).1 | exact fun p hp => (hnl p hp).2.1 | exact fun p hp => (hnl p hp).2.2.1 | exact fun p hp => (hnl p hp).2.2.2)
  trivial
theorem lines_C9_1 : True := by
  k_with "exec For Tuple Name cons nil" => (refine stop_intro ?_)
  k_with "compareOp Eq ref ref" => (
      k_here
      k_dflt (first
      | (refine eq_last (j := j) (News.isList (by k_asm) (by k_mem)) (by assumption) (News.isList (by k_asm) (by k_mem)) (by omega) rfl (by dsimp +zetaDelta only [aA, Around.deeper]; omega) ?_)
      | (refine nil_no (srcAt_list hsrc (by k_asm) (by k_asm) (by intro p hp; repeat (first | exact hp | apply List.Mem.tail))) hare (News.isList (by k_asm) (by k_mem)) (by dsimp +zetaDelta only [aA, Around.deeper]; omega) ?_)
      | (refine nil_yes (srcAt_list hsrc (by k_asm) (by k_asm) (by intro p hp; repeat (first | exact hp | apply List.Mem.tail))) hare (News.isList (by k_asm) (by k_mem)) (by dsimp +zetaDelta only [aA, Around.deeper]; omega) ?_))
      k_whole)
  k_with "compareOp Eq str str" => (
      k_here
      k_dflt (refine eq_str ?_))
  k_with "subscriptTail Name Name str int" => (
      k_here
      with_reducible show wpAny _ _ (subscriptTail _ _ (Value.str _ _) (Value.int _ _)) _ _ _
      k_dflt (first | refine item_any rfl hlt (by omega) ?_ | (have hj1 := last_pos (by assumption); refine item_any (k := j - 1) (by omega) (by omega) (by omega) ?_))
      intro t')
  k_with "subscriptTail Name BinOp str int" => (
      k_here
      with_reducible show wpAny _ _ (subscriptTail _ _ (Value.str _ _) (Value.int _ _)) _ _ _
      k_dflt (first | refine item_any rfl hlt (by omega) ?_ | (have hj1 := last_pos (by assumption); refine item_any (k := j - 1) (by omega) (by omega) (by omega) ?_))
      intro t')
  k_with "pyIter ref" => (refine stop_intro ?_)
  k_with "call ref" => (
      k_here
      k_dflt (refine use2 [_, _, _, _, _, _, _, _] nl (hfirst b hb Lr vb kb a ta hvb hal) (by k_asm) (by k_asm) (by k_asm) (by k_all) (by k_all) (by assumption) (by k_asm) (by exact rfl) hpre (by dsimp +zetaDelta only [aA, Around.deeper]; omega) (by dsimp +zetaDelta only [aA, Around.deeper]; omega) ?_)
      intro v4 h4 tk4 ps4 F4 N4 ok4 G4 hv4 hn4
      obtain ⟨r4, vs4, k4, hr4, hrn4, hA4⟩ := hv4
      simp only [List.cons_append, List.nil_append] at N4)
  k_with "compareOp In int ref" => (
      k_here
      k_dflt (refine in_nats (j := j) (srcAt_list hsrc (by k_asm) (by k_asm) (by walk_at "mine sub")) hare (by omega) rfl ?_)
      k_whole)
  k_with "subscriptTail Name Slice ref ref" => (
      k_here
      k_dflt (refine last_slice (by k_asm) (by k_asm) (News.isList (by k_asm) (by k_mem)) hmv hmz ?_ (by with_unfolding_all rfl) (by intro _; with_unfolding_all rfl))
      intro D' zs' h' F' N' l1 hzs
      (try k_lt l1))
  k_with "exec Assign cons ListComp" => (refine stop_intro ?_)
  k_with "exec For Name Call cons nil" => (refine stop_intro ?_)
  trivial
theorem c_ends (w : World) (d u : Nat) (x : Str) (t : Tok) (steps : List Stp) (Ls Lp : Addr) (objs : List (Addr × Obj)) (vs pv : List Value) (k kp : Nat) (ps0 : List Nat)
    (hst : Are (StepIn objs) vs steps) (h198 : ∀ q ∈ objs, q.1 ≠ 198) (hpv : Are IsN pv ps0) (hok : ∀ st ∈ steps, StepOk st) (hne : steps ≠ []) (hw : Within x.cps.toList ps0) (hx : x.length ≤ 1000) (hz : steps.length ≤ 1000)
    (hfirst : ∀ b, Stp.grp b ∈ steps → ∀ Lr vb kb (p : Nat) tp, Are (TupIn objs) vb b → p ≤ x.cps.toList.length → Pure w d u 231 [.ref Lr, .str x t, .int (p : Int) tp] (fun h => h.get? Lr = some (listOf vb.toArray kb) ∧ ∀ q ∈ objs, h.get? q.1 = some q.2) (EndsPost (firstF x.cps.toList b p))) :
    Pure w (d + 4) (u + 80) 236 [.ref Ls, .str x t, .ref Lp] (fun h => h.get? Ls = some (listOf vs.toArray k) ∧ h.get? Lp = some (listOf pv.toArray kp) ∧ ∀ p ∈ objs, h.get? p.1 = some p.2)
      (EndsPost (endsF x.cps.toList steps ps0)) := by
  unfold Pure
  k_fill
  intro mean mg mb dp un fr gd Q E s X T hT hp hdp hun hret
  refine' enterC (binds := [(Str.ofString "steps", .ref Ls), (Str.ofString "text", .str x t), (Str.ofString "places", .ref Lp)]) ?k3 ?k5 ?kT ?k6 ?k7 ?k8 ?k9 ?kA ?kB ?kk ?c2 ?c3 ?c4
  (case k3 => assumption)
  (case k5 => assumption)
  (case kT => assumption)
  (case k6 => k_is)
  (case k7 => k_is)
  (case k8 => (dsimp only [aA]; omega))
  (case k9 => exact BindsTo.of_eq rfl)
  (case kA => exact kindsX rfl)
  (case kB => decide)
  (case c2 => exact rfl)
  (case c3 => exact rfl)
  (case c4 => exact rfl)
  (case' kk => skip)
  k_whole
  intro L' h' tk cells ps FL NL Y hps l0 lL gL
  have l0' : @LT.lt Nat _ 198 L' := l0
  (refine ex3E (PyProof.Rows.CellsAre.three Y) fun o3 o2 o1 qq3 => ?_; refine and4E qq3 fun qq30 d3 d2 d1 => ?_; try clear qq3; rcases qq30 with rfl)
  (try dsimp only)
  (try k_fold)
  refine entL (by first | assumption | with_unfolding_all passes_own) ?_
  intro A1 e1 Qc Ec hQc hEc
  k_steps
  unfold Stop
  have FL2 : Fr (gh s.heap) L' h' (fun z => if z = Str.ofString "places" then some (.ref Lp) else if z = Str.ofString "steps" then some (.ref Ls) else if [Str.ofString "kind", Str.ofString "place", Str.ofString "moved"].contains z then none else none) := by
    have e : ∀ {m m' : Str → Option Value}, (∀ z, m z = m' z) → Fr (gh s.heap) L' h' m → Fr (gh s.heap) L' h' m' := fun q F => (funext q : _ = _) ▸ F
    refine e (fun z => ?_) FL
    show (if z = Str.ofString "places" then some (Value.ref Lp) else if z = Str.ofString "steps" then some (Value.ref Ls) else none) = _
    by_cases h1 : z = Str.ofString "places"
    · rw [if_pos h1, if_pos h1]
    · rw [if_neg h1, if_neg h1]
      by_cases h2 : z = Str.ofString "steps"
      · rw [if_pos h2, if_pos h2]
      · rw [if_neg h2, if_neg h2, ite_self]
  have d1' : o1.data = .cell (some (.str x t)) := by rw [d1]; rfl
  clear d1 Y FL
  have hvs : ∀ v ∈ vs, ∃ r, v = Value.ref r := by
    intro v hv
    refine ex1E (List.getElem?_of_mem hv) fun i hi => ?_
    (refine ex1E (hst.get hi) fun st qq1 => ?_; refine and2E qq1 fun ux hrel => ?_; try clear qq1)
    cases st with
    | one g => (refine ex3E hrel fun r ux ux qq3 => ?_; try clear hrel; refine and2E qq3 fun e ux => ?_; try clear qq3); exact ⟨r, e⟩
    | grp b => (refine ex5E hrel fun r ux ux ux ux qq5 => ?_; try clear hrel; refine and2E qq5 fun e ux => ?_; try clear qq5); exact ⟨r, e⟩
  have hLs : (gh s.heap).get? Ls = some (listOf vs.toArray k) := gh_keep hT hp.1 (by intro e; cases e)
  have hLp : (gh s.heap).get? Lp = some (listOf pv.toArray kp) := gh_keep hT hp.2.1 (by intro e; cases e)
  have hlen : x.cps.toList.length = x.length := by simp [Str.length]
  have hwi0 : ∀ i, Within x.cps.toList (endsF x.cps.toList (steps.take i) ps0) := by
    intro i
    induction i with
    | zero => exact hw
    | succ i ih =>
      rw [List.take_add_one]
      cases q : steps[i]? with
      | none => rw [Option.toList_none, List.append_nil]; exact ih
      | some st =>
        unfold endsF at ih ⊢
        rw [Option.toList_some, List.foldl_append]
        exact st_within ih
  refine for_list (h₀ := gh s.heap) (L := L') (l := Ls) (vs := vs) (EJ (gh s.heap) x t Ls L' steps ps0) (by exact rfl) FL2 NL ?j0 ?hev ?hl (.inr ⟨⟨_, _, _, rfl⟩, hvs⟩) ?turn ?done (by intro _; rfl) (by first | assumption | with_unfolding_all passes_own)
  case j0 => exact ⟨Lp, pv, fun _ => none, [], o1, o2, o3, _, _, ps, .inl ⟨_, hLp, rfl, _, rfl⟩, hpv, d1', d2, d3, hps, fun _ h => (nomatch h), .inl rfl⟩
  case hev =>
    intro Q' hq
    exact nameX_L FL2 rfl hq
  case hl =>
    intro h nw hk _ _
    exact ⟨_, hk _ _ hLs, rfl, _, rfl⟩
  case done =>
    intro m nw h tk' hEJ F N
    refine hideG ?_
    intro PG hPG
    obtain ⟨Lq, pv', u, nl, o1', o2', o3', v2, v3, ps', hsrc, hare, e1, e2, e3, ok', hnl, hz0⟩ := hEJ
    rw [hst.length, List.take_length] at hare
    rw [hst.length] at hz0
    (refine ex1E (hz0.resolve_left fun e => hne (List.length_eq_zero_iff.mp e)) fun kq qq1 => ?_; rcases qq1 with rfl)
    refine hPG ?_
    try dsimp only
    k_steps
    have zq := N (Lq, listOf pv'.toArray kq) (.tail _ (.tail _ (.tail _ (.tail _ (.head _)))))
    exact leaveP_in (by k_asm) (by k_asm) (by k_mem) (by assumption) fun G T' => hret _ _ _ G T' ⟨Lq, pv', kq, zq.1, gh_none zq.2.2 (hnl _ (.head _)).2.2.2, hare⟩
  case turn =>
    intro i v I oI m nw h tk' hv hEJ F N off
    refine hideG ?_
    intro PG hPG
    obtain ⟨Lq, pv', u, nl, o1', o2', o3', v2, v3, ps', hsrc, hare, e1, e2, e3, ok', hnl, _⟩ := hEJ
    (refine ex1E (hst.get hv) fun st qq1 => ?_; refine and2E qq1 fun hst' hrel => ?_; try clear qq1)
    have hstok := hok st (List.mem_of_getElem? hst')
    have i3 := off _ (.head _)
    have i2 := off _ (.tail _ (.head _))
    have i1 := off _ (.tail _ (.tail _ (.head _)))
    have i0 := off _ (.tail _ (.tail _ (.tail _ (.head _))))
    dsimp only at i0 i1 i2 i3
    have hwi := hwi0 i
    generalize hqs : endsF x.cps.toList (steps.take i) ps0 = qs at hare hwi
    have hsz : pv'.toArray.size ≤ sizeLine := by
      have q1 := sizeLine_eq
      have q2 := hare.length
      have q3 := hwi.1
      rw [List.size_toArray]
      omega
    cases qs with
    | nil =>
      have hfin : endsF x.cps.toList steps ps0 = [] := by
        rw [← List.take_append_drop i steps]
        unfold endsF at hqs ⊢
        rw [List.foldl_append, hqs]
        exact endsF_nil _ _
      obtain ⟨r, its, rfl, hrT, hr3⟩ : ∃ r its, v = Value.ref r ∧ IsTup h r its ∧ ∃ a b c, its = #[a, b, c] := by
        cases st with
        | one g =>
          (refine ex3E hrel fun r tm tz qq3 => ?_; try clear hrel; refine and2E qq3 fun qq30 hr => ?_; try clear qq3; rcases qq30 with rfl)
          exact ⟨r, _, rfl, ⟨_, F.keep _ _ (gh_keep hT (hp.2.2 _ hr) (by intro e; cases e)), rfl, _, rfl⟩, _, _, _, rfl⟩
        | grp b =>
          (refine ex5E hrel fun r tb Lr vb kb qq5 => ?_; try clear hrel; refine and4E qq5 fun qq50 hr hLr hvb => ?_; try clear qq5; rcases qq50 with rfl)
          exact ⟨r, _, rfl, ⟨_, F.keep _ _ (gh_keep hT (hp.2.2 _ hr) (by intro e; cases e)), rfl, _, rfl⟩, _, _, _, rfl⟩
      (refine ex3E hr3 fun a b c qq3 => ?_; try clear hr3; rcases qq3 with rfl)
      refine hPG ?_
      refine turn_cut ?_
      intro Kt hKt
      refine unpackN_ F N hrT (by exact rfl) (by exact rfl) (by exact rfl) fun h₂ F₂ N₂ => ?_
      k_steps
      rename News _ _ _ _ => N9
      have zq := N9 _ (.head _)
      try dsimp only [ForPost]
      k_steps
      try dsimp only
      exact leaveP_in (by k_asm) N9 (by k_mem) (by assumption) fun G T' => hret _ _ _ G T' ⟨_, [], 0, zq.1, gh_none zq.2.2 (by k_ne), hfin ▸ .nil⟩
    | cons q0 qs =>
    cases st with
    | one g =>
      (refine ex3E hrel fun r tm tz qq3 => ?_; try clear hrel; refine and2E qq3 fun qq30 hr => ?_; try clear qq3; rcases qq30 with rfl)
      obtain ⟨many, barred, sign⟩ := g
      have hrT : IsTup h r #[.int (many : Int) tm, .bool barred, .str ⟨sign.toArray⟩ tz] := ⟨_, F.keep _ _ (gh_keep hT (hp.2.2 _ hr) (by intro e; cases e)), rfl, _, rfl⟩
      rcases hstok.1 with e0 | e0
      · dsimp only at e0
        subst e0
        refine hPG ?_
        refine turn_cut ?_
        intro Kt hKt
        refine unpackN_ F N hrT (by exact rfl) (by exact rfl) (by exact rfl) fun h₂ F₂ N₂ => ?_
        k_steps
        unfold Stop
        refine PyProof.Rows.LCt.Assign_ListComp_T (F₀ := by k_asm) (by rfl) (by with_unfolding_all rfl) (by with_unfolding_all rfl) (by decide) (by rfl) (by decide) (by rfl) (by rfl) (by rfl) (nameX_L (by k_asm) rfl ?_)
        rename News _ _ _ _ => N9
        rename Fr _ _ _ _ => F9
        refine .inl ⟨Lq, pv'.toArray, _, rfl, by exact rfl, F9, N9, srcAt_mono hsrc (by intro p hp; repeat (first | exact hp | apply List.Mem.tail)), hsz, ?_⟩
        (intro s₂ qr1; (refine ex1E qr1 fun g2 qq1 => ?_; try clear qr1; rcases qq1 with rfl))
        refine restT_fun (xs := q0 :: qs) (R := IsN) (p := fun q => decide (q < x.cps.toList.length) && hit x.cps.toList ⟨0, barred, sign⟩ q) (g := (· + 1)) (R' := IsN) (Inv := fun nw => nw = _) (by simpa using hare.length.symm) (fun i v _ hv => hare.get (by simpa using hv)) rfl ?_ ?_
        · intro a va I2 oI2 C oC D m₂ ys h3 tk3 nw3 E' ha hR hI hC hx3 F3 N3 off3 ne3
          subst hI
          (refine ex1E hR fun ta qq1 => ?_; try clear hR; rcases qq1 with rfl)
          have offK := off3
          simp only [PyProof.Rows.LCg.Off3, and_true] at off3
          have hal := hwi.2 a ha
          by_cases hlt : a < x.length
          · k_steps
            all_goals first
            | exact hit_of hlen hlt (by assumption)
            | exact PyProof.Rows.LCg.CompEnd.intro (by k_asm) (by k_asm) _ (by walk_at "mine sub") offK (srcAt_mono hsrc (by walk_at "mine sub")) ⟨rfl, _, rfl⟩
            | exact PyProof.Rows.LCg.CompEnd.intro (by k_asm) (by k_asm) _ (by walk_at "mine sub") offK (srcAt_mono hsrc (by walk_at "mine sub")) rfl
          · k_steps
            · simp only [hlen, hlt, decide_false, Bool.false_and]
            · exact PyProof.Rows.LCg.CompEnd.intro (by k_asm) (by k_asm) _ (by walk_at "mine sub") offK (srcAt_mono hsrc (by walk_at "mine sub")) rfl
        · intro ys nw hI hys D h3 tk3 F3 N3 off3
          subst hI
          simp only [PyProof.Rows.LCg.Off1, and_true] at off3
          try dsimp only
          k_steps
          walk_at "mine end"
          case hA =>
            rw [hqs]
            exact hys
      · dsimp only at e0
        subst e0
        refine hPG ?_
        refine turn_cut ?_
        intro Kt hKt
        refine unpackN_ F N hrT (by exact rfl) (by exact rfl) (by exact rfl) fun h₂ F₂ N₂ => ?_
        k_steps
        unfold Stop
        refine for_walks (h₀ := gh s.heap) (L := L') ?_ (by intro _; rfl) (by first | assumption | with_unfolding_all passes_own)
        k_steps
        unfold Stop
        rename News _ _ _ _ => N9
        rename Fr _ _ _ _ => F9
        refine forAt_mj (n := x.length + 1) x.cps.toList ⟨1, barred, sign⟩ (q0 :: qs) (by exact rfl) F9 N9 (by assumption) (by simp only [Int.natCast_add]; rfl) (by omega) ?_ ?_
        · intro j tj I2 oI2 m2 nw2 h3 tk3 hjn hMJ F3 N3 off3
          refine hideG ?_
          intro PG hPG
          obtain ⟨u2, mvv, k2, hmv⟩ := hMJ
          try dsimp only at F3
          simp only [List.forall_mem_cons] at off3
          have hmz : mvv.toArray.size ≤ sizeLine := by
            have q1 := sizeLine_eq
            have q2 := hmv.length
            have q3 := mv_len (t := x.cps.toList) (g := ⟨1, barred, sign⟩) (ps := q0 :: qs) j
            rw [List.size_toArray]
            omega
          refine hPG ?_
          refine turn_cut ?_
          intro Kt hKt
          k_steps
          all_goals walk_at "mine mj"
        · intro m2 nw2 h3 tk3 hMJ F3 N3
          refine hideG ?_
          intro PG hPG
          obtain ⟨u2, mvv, k2, hmv⟩ := hMJ
          try dsimp only at F3
          refine hPG ?_
          try dsimp only
          k_steps
          walk_at "mine end"
          case hA =>
            rw [hqs]
            exact hmv
    | grp b =>
      (refine ex5E hrel fun r tb Lr vb kb qq5 => ?_; try clear hrel; refine and4E qq5 fun qq50 hr hLr hvb => ?_; try clear qq5; rcases qq50 with rfl)
      have hb : Stp.grp b ∈ steps := List.mem_of_getElem? hst'
      have hrT : IsTup h r #[.int 2 tb, .bool false, .ref Lr] := ⟨_, F.keep _ _ (gh_keep hT (hp.2.2 _ hr) (by intro e; cases e)), rfl, _, rfl⟩
      refine hPG ?_
      refine turn_cut ?_
      intro Kt hKt
      refine unpackN_ F N hrT (by exact rfl) (by exact rfl) (by exact rfl) fun h₂ F₂ N₂ => ?_
      k_steps
      unfold Stop
      refine Assign_two (Gn := fun g => g = s.gens) (by k_asm) (by exact rfl) (by rfl) (by with_unfolding_all rfl) (by with_unfolding_all rfl) (by decide) (by rfl) (by decide) (by rfl) (by rfl) (by rfl) (nameX_L (by k_asm) rfl ?_)
      rename News _ _ _ _ => N9
      rename Fr _ _ _ _ => F9
      refine ⟨Lq, pv'.toArray, _, rfl, F9, N9, srcAt_mono hsrc (by walk_at "mine sub"), rfl, ?_⟩
      (intro s₂ qr1; (refine ex1E qr1 fun g2 qq1 => ?_; try clear qr1; rcases qq1 with rfl))
      refine comp2_fun (xs := q0 :: qs) (R := IsN) (f := firstF x.cps.toList b) (R' := IsN) (Inv := fun nw => ∃ ps'', TabOk ps'' ∧ nw = _ :: _ :: _ :: _ :: _ :: (198, tabObj ps'') :: nl) (by simpa using hare.length.symm) (fun i v _ hv => hare.get (by simpa using hv)) ⟨ps', ok', rfl⟩ ?_ ?_
      · (intro a va I2 oI2 C oC D m₂ ys h3 tk3 gs nw3 E' ha qr15 qr16 qr17 hC hx3 F3 N3 off3 ne3 qr24; (refine ex1E qr15 fun ta qq1 => ?_; try clear qr15; rcases qq1 with rfl); (refine ex1E qr16 fun ps3 qq1 => ?_; try clear qr16; refine and2E qq1 fun ok3 qq11 => ?_; try clear qq1; rcases qq11 with rfl); (refine ex1E qr17 fun jj qq1 => ?_; try clear qr17; refine and2E qq1 fun hja hys => ?_; try clear qq1); rcases qr24 with rfl)
        have offK := off3
        simp only [PyProof.Rows.LCg.Off3, and_true] at off3
        have hal := hwi.2 a ha
        have hpre : h3.get? Lr = some (listOf vb.toArray kb) ∧ ∀ q ∈ objs, h3.get? q.1 = some q.2 := ⟨F3.keep _ _ (gh_keep hT (hp.2.2 _ hLr) (by intro e; cases e)), fun q hq => F3.keep _ _ (gh_ne (hp.2.2 q hq) (h198 q hq))⟩
        refine wpAny_tests_nil ?_
        rw [if_pos rfl]
        k_steps
        unfold Stop
        have hyl : ys.length + vs4.length ≤ sizeLine := by
          have q1 := sizeLine_eq
          have q2 := hys.length
          have q3 := hA4.length
          have q4 := first_one (t := x.cps.toList) (gs := b) (p := a)
          have q5 := (st_within (st := .grp b) hwi).1
          have q6 : (((q0 :: qs).take jj).flatMap (firstF x.cps.toList b)).length ≤ (stF x.cps.toList (.grp b) (q0 :: qs)).length := by
            show _ ≤ ((q0 :: qs).flatMap (firstF x.cps.toList b)).length
            conv => rhs; rw [← List.take_append_drop jj (q0 :: qs), List.flatMap_append, List.length_append]
            omega
          omega
        refine wpAny_mono (inner_names (by exact rfl) F4 N4 hC offK ne3 ⟨_, hr4, rfl, _, rfl⟩ (new_ne hrn4 (N3 _ (.tail _ (.head _))).1) (new_ne hrn4 (N3 _ (.tail _ (.tail _ (.head _)))).1) (by rfl) (by rfl) (by decide) hyl) (fun it s₅ h5 => codeAny_mono h5 fun r s₆ hr => ?_) fun _ _ e => e
        obtain ⟨f', h', tk', oC', m', F', N', hC'⟩ := hr
        exact ⟨f', h', tk', _, oC', m', vs4, _, rfl, F', N', hC', offK, srcAt_mono hsrc (by walk_at "mine sub"), ⟨ps4, ok4, rfl⟩, hA4⟩
      · (intro ys nw qr2 hys D h3 tk3 gs qr8 F3 N3 off3; (refine ex1E qr2 fun ps3 qq1 => ?_; try clear qr2; refine and2E qq1 fun ok3 qq11 => ?_; try clear qq1; rcases qq11 with rfl); rcases qr8 with rfl)
        simp only [PyProof.Rows.LCg.Off1, and_true] at off3
        try dsimp only
        k_steps
        walk_at "mine end"
        case hA =>
          rw [hqs]
          exact hys
end Mine
end
section
open PySem PySem.W PySem.Spec PySem.Calls PyProof.Rows
set_option maxRecDepth 100000 
set_option maxHeartbeats 2000000 
namespace Mine
theorem l0_D13 : True := by
  k_with_none
  k_with "q" => (all_goals first | assumption | with_unfolding_all exact rfl)
  k_with "ar" => with_reducible first | assumption | (apply Ar.n1; k_extra "q") | (apply Ar.i27; k_extra "q")
  trivial
theorem first_none {t : List Nat} {gs : List Sg} {p : Nat} (h : ∀ q ∈ List.range' p (t.length + 1 - p), endsG t gs [q] = []) : firstF t gs p = [] := by
  unfold firstF
  rw [List.findSome?_eq_none_iff.mpr fun q hq => by rw [h q hq]; rfl]
  rfl
theorem first_hit {t : List Nat} {gs : List Sg} {p i e : Nat} {l : List Nat} (h : ∀ q ∈ List.range' p i, endsG t gs [q] = []) (hi : p + i ≤ t.length) (he : endsG t gs [p + i] = e :: l) : firstF t gs p = [e] := by
  unfold firstF
  have e1 : List.range' p (t.length + 1 - p) = List.range' p i ++ (p + i) :: List.range' (p + i + 1) (t.length - p - i) := by
    rw [show t.length + 1 - p = i + (1 + (t.length - p - i)) from by omega, ← List.range'_append_1, ← List.range'_append_1]
    simp
  rw [e1, List.findSome?_append, List.findSome?_eq_none_iff.mpr fun q hq => by rw [h q hq]; rfl, List.findSome?_cons, he]
  rfl
inductive SJ (m9 : Str → Option Value) (t : List Nat) (gs : List Sg) (p i : Nat) : (Str → Option Value) → List (Addr × Obj) → Prop
  | mk (u : Str → Option Value) (ps : Array Value) (ok : TabOk ps) (hA : ∀ q ∈ List.range' p i, endsG t gs [q] = []) : SJ m9 t gs p i (fun z => if [Str.ofString "start", Str.ofString "ends"].contains z then u z else m9 z) [(198, tabObj ps)]
theorem SJ.of {m9 m m' : Str → Option Value} {t : List Nat} {gs : List Sg} {p i : Nat} {nw : List (Addr × Obj)} (h : SJ m9 t gs p i m nw) (e : m' = m) : SJ m9 t gs p i m' nw := e ▸ h
theorem sj_zero {m9 : Str → Option Value} {t : List Nat} {gs : List Sg} {p : Nat} {ps : Array Value} (ok : TabOk ps) : SJ m9 t gs p 0 m9 [(198, tabObj ps)] := by
  refine SJ.of (.mk m9 ps ok fun q hq => by simp at hq) ?_
  funext z
  split <;> rfl
theorem sj_next {h₀ h : Heap} {L I : Addr} {m9 m' : Str → Option Value} {all : List (Addr × Obj)} {t : List Nat} {gs : List Sg} {p i tk : Nat} {oI : Obj} {s : Shared} {Q : Flow → Shared → Prop} {ps : Array Value}
    (F : Fr h₀ L h m') (N : News h₀ L h all) (hm : ∀ z, [Str.ofString "start", Str.ofString "ends"].contains z = false → m' z = m9 z) (sub : ∀ q ∈ (I, oI) :: [(198, tabObj ps)], q ∈ all) (off : @Ne Nat 198 I) (ok : TabOk ps)
    (hA : ∀ q ∈ List.range' p i, endsG t gs [q] = []) (hB : endsG t gs [p + i] = []) : ForPost h₀ L s I oI (SJ m9 t gs p (i + 1)) Q .next { s with heap := h, toks := tk } := by
  refine forPost_next F N sub (fun q hq => by rw [List.mem_singleton.mp hq]; exact off) (SJ.of (.mk m' ps ok fun q hq => ?h1) ?h2)
  case h2 =>
    funext z
    cases e : [Str.ofString "start", Str.ofString "ends"].contains z with
    | true => rw [if_pos rfl]
    | false => rw [if_neg Bool.false_ne_true]; exact hm z e
  case h1 =>
    rw [List.range'_concat, List.mem_append] at hq
    rcases hq with hq | hq
    · exact hA q hq
    · simp at hq; rw [hq]; exact hB
section
variable {prog : Program} {w : World} {A : Around} {E : Value → Shared → Prop} {s : Shared} {Q : Value → Shared → Prop} {h₀ : Heap} {L : Addr} {m : Str → Option Value} {news : List (Addr × Obj)}
theorem nilne_no {a b : Addr} {vs : List Value} (hl : s.heap.IsList a vs.toArray) (hi : Are IsN vs []) (hl' : s.heap.IsList b #[]) (hu : A.units + 64 < cLine) (h : Q (.bool false) s) :
    wpAny (model prog w) A (compareOp .NotEq (.ref a) (.ref b)) Q E s :=
  ke_ne_ints (ys := []) hl hl' (are_ints hi) .nil hu (by simpa using h)
theorem nilne_yes {a b : Addr} {vs : List Value} {q : Nat} {qs : List Nat} (hl : s.heap.IsList a vs.toArray) (hi : Are IsN vs (q :: qs)) (hl' : s.heap.IsList b #[]) (hu : A.units + 64 < cLine) (h : Q (.bool true) s) :
    wpAny (model prog w) A (compareOp .NotEq (.ref a) (.ref b)) Q E s :=
  ke_ne_ints (ys := []) hl hl' (are_ints hi) .nil hu (by simpa using h)
theorem first_slice {value slice : PySem.Expr} {l : Addr} {mvv : List Value} {e : Nat} {r : List Nat} {ut : Tok} (F : Fr h₀ L s.heap m) (N : News h₀ L s.heap news) (hl : s.heap.IsList l mvv.toArray) (hi : Are IsN mvv (e :: r)) (hz : mvv.toArray.size ≤ sizeLine)
    (h : ∀ D zs h', Fr h₀ L h' m → News h₀ L h' ((D, listOf (List.toArray zs) 0) :: news) → (∀ p ∈ news, p.1 < D) → Are IsN zs [e] → Q (.ref D) { s with heap := h' })
    (hs : subscripted slice false (.ref l) (.ref s.heap.objs.size) = operate [.ref s.heap.objs.size, .ref l] (getItem (.ref l) (.ref s.heap.objs.size))) (ht : ∀ r, letTemporaryGo value (.ref l) r = pure ()) :
    wpAny (model prog w) A (subscriptTail value slice (.ref l) (.ref s.heap.objs.size)) Q E { s with heap := s.heap.push { cls := .type "slice", data := .fields #[.none, .int 1 ut, .none] } } := by
  cases hi with
  | @cons v _ vs _ hv hr =>
    have q : sliceBounds none (some 1) none (v :: vs).toArray.size = (((0 : Nat) : Int), ((1 : Nat) : Int), 1) := by
      simp only [sliceBounds, Option.getD_none, show (1 : Int) > 0 by decide, if_true, if_neg (show ¬ (1 : Int) < 0 by decide)]
      congr 1
      simp
      omega
    have e1 : (slicePick (v :: vs).toArray none (some 1) none).toList = [v] := by
      rw [kmk_pick_nat _ q]; rfl
    exact kmk_slice_lit F N hl .none (.int _ _) e1 (fun D h' F' N' l1 => h D _ h' F' N' l1 (.cons hv .nil)) hs ht hz
end
end Mine
end
section
open PySem PySem.W PySem.Spec PySem.Calls PyProof.Rows
set_option maxRecDepth 100000 
set_option maxHeartbeats 2000000 
namespace Mine
theorem lines_C10_0 : True := by
  k_with_none
  k_with "q" => (all_goals first | assumption | with_unfolding_all exact rfl)
  k_with "ar" => with_reducible first | assumption | (apply Ar.le0; k_extra "q") | (apply Ar.rm2; k_extra "q") | (apply Ar.n9; k_extra "q") | (apply Ar.n10; k_extra "q") | (apply Ar.rl0; k_extra "q") | (apply Ar.rl2; k_extra "q") | (apply Ar.neg_; k_extra "q") | (apply Ar.pn0; k_extra "q") | (apply Ar.pm0; k_extra "q") | (apply Ar.pg1e; k_extra "q") | (apply Ar.pg4e; k_extra "q") | (apply Ar.i15q; k_extra "q") | (apply Ar.n48; k_extra "q") | (apply Ar.i16q; k_extra "q")
  k_with "ite" => first | with_reducible refine ite_tt ?_ | with_reducible refine ite_ff ?_
  k_with "execs cons" => first | (with_reducible refine seqT1 ?_; intro tk) | (with_reducible refine seqT ?_; intro Kc tk hKc) | (with_reducible refine blkT ?_; intro Qd tk hQd)
  k_with "Nxt" => (k_dflt (dsimp only [Nxt]))
  k_with "Kont" => first | (k_dflt (refine hKc _ _ ?_; try clear hKc)) | (k_dflt (refine hQd _ _ ?_; try clear hQd)) | (k_dflt (refine hQc _ _ ?_; try clear hQc)) | (k_dflt (refine kont_app (by assumption) ?_))
  k_with "mine out" => (repeat (first | exact Out.kst rfl | exact Out.base | exact (fun _ _ => rfl) | refine Out.upd rfl ?_))
  k_with "storeName" => (
      k_here
      k_dflt (refine storeL (by k_asm) (by k_asm) ?_ (by rfl) (by rfl))
      k_whole
      intro m1 h' tk F' N'
      (try k_sweep))
  k_with "mine enter" => (
      (case k3 => assumption)
      (case k5 => assumption)
      (case kT => assumption)
      (case k6 => k_is)
      (case k7 => k_is)
      (case k8 => (dsimp only [aA]; omega))
      (case k9 => exact BindsTo.of_eq rfl)
      (case c5 => decide)
      (case kB => exact locs rfl)
      (case c2 => exact rfl)
      (case c3 => exact rfl)
      (case c4 => exact rfl)
      (case' kk => skip)
      k_whole
      intro L' h' ps FL NL hps l0 lL gL
      (try dsimp only)
      (try k_fold))
  k_with "exec For Name Call cons nil" => (refine stop_intro ?_)
  k_with "pyIter ref" => (refine stop_intro ?_)
  k_with "call ref" => (
      k_here
      k_dflt (refine use2 [_, _] [] (c_ends w 0 0 x t (gs.map .one) Lr _ objs vb [_] kb 0 [p + i] (are_one hvb) h198 hpi hok1 hne1 hwi hx hz1 hfirst) (by k_asm) (by k_asm) (by k_asm) (by k_all) (by k_all) (by assumption) (by k_asm) (by exact rfl) ⟨Fr.keep (L := L') (by k_asm) _ _ hLr, (News.get (L := L') (h₀ := gh s.heap) (by k_asm) (by k_mem)), fun q hq => Fr.keep (L := L') (by k_asm) _ _ (hobj q hq)⟩ (by dsimp +zetaDelta only [aA, Around.deeper]; omega) (by dsimp +zetaDelta only [aA, Around.deeper]; omega) ?_)
      intro v4 h4 tk4 ps4 F4 N4 ok4 G4 hv4 hn4
      obtain ⟨r4, vs4, k4, hr4, hrn4, hA4⟩ := hv4
      have hA4' := hA4
      rw [endsF_one, hqe] at hA4'
      have hmz : vs4.toArray.size ≤ sizeLine := (by have q1 := sizeLine_eq; have q2 := hA4.length; have q3 := (ends_within (gs := gs) hwi).1; rw [endsF_one] at q2; rw [List.size_toArray]; omega)
      replace N4 := news_add (hn4 _ hrn4) hr4 N4
      simp only [List.cons_append, List.nil_append] at N4)
  k_with "compareOp NotEq ref ref" => (
      k_here
      k_dflt (first
      | (refine nilne_yes (News.isList (by k_asm) (by k_mem)) hA4' (News.isList (by k_asm) (by k_mem)) (by dsimp +zetaDelta only [aA, Around.deeper]; omega) ?_)
      | (refine nilne_no (News.isList (by k_asm) (by k_mem)) hA4' (News.isList (by k_asm) (by k_mem)) (by dsimp +zetaDelta only [aA, Around.deeper]; omega) ?_))
      k_whole)
  k_with "subscriptTail Name Slice ref ref" => (
      k_here
      k_dflt (refine first_slice (by k_asm) (by k_asm) (News.isList (by k_asm) (by k_mem)) hA4' hmz ?_ (by with_unfolding_all rfl) (by intro _; with_unfolding_all rfl))
      intro D' zs' h' F' N' l1 hzs
      (try k_lt l1))
  trivial
theorem are_one {objs : List (Addr × Obj)} {vb : List Value} {gs : List Sg} (h : Are (TupIn objs) vb gs) : Are (StepIn objs) vb (gs.map .one) := by
  induction h with
  | nil => exact .nil
  | cons h _ ih => exact .cons h ih
theorem c_first (w : World) (x : Str) (t : Tok) (gs : List Sg) (Lr : Addr) (objs : List (Addr × Obj)) (vb : List Value) (kb p : Nat) (tp : Tok)
    (hvb : Are (TupIn objs) vb gs) (h198 : ∀ q ∈ objs, q.1 ≠ 198) (hok : ∀ g ∈ gs, (g.many = 0 ∨ g.many = 1) ∧ g.sign.length ≤ 1) (hne : gs ≠ []) (hpl : p ≤ x.cps.toList.length) (hx : x.length ≤ 1000) (hz : gs.length ≤ 1000) :
    Pure w 8 160 231 [.ref Lr, .str x t, .int (p : Int) tp] (fun h => h.get? Lr = some (listOf vb.toArray kb) ∧ ∀ q ∈ objs, h.get? q.1 = some q.2) (EndsPost (firstF x.cps.toList gs p)) := by
  unfold Pure
  k_fill
  intro mean mg mb dp un fr gd Q E s X T hT hp hdp hun hret
  refine' enter (binds := [(Str.ofString "steps", .ref Lr), (Str.ofString "text", .str x t), (Str.ofString "place", .int (p : Int) tp)]) ?k3 ?k5 ?kT ?k6 ?k7 ?k8 ?k9 ?kB ?kk ?c2 ?c3 ?c4 ?c5
  walk_at "mine enter"
  refine entL (by first | assumption | with_unfolding_all passes_own) ?_
  intro A1 e1 Qc Ec hQc hEc
  have l0' : @LT.lt Nat _ 198 L' := l0
  have hlen : x.cps.toList.length = x.length := by simp [Str.length]
  have hLr : (gh s.heap).get? Lr = some (listOf vb.toArray kb) := gh_keep hT hp.1 (by intro e; cases e)
  have hobj : ∀ q ∈ objs, (gh s.heap).get? q.1 = some q.2 := fun q hq => gh_ne (hp.2 q hq) (h198 q hq)
  have hok1 : ∀ st ∈ gs.map Stp.one, StepOk st := by
    intro st hst
    (refine ex1E (List.mem_map.mp hst) fun g qq1 => ?_; refine and2E qq1 fun hg qq11 => ?_; try clear qq1; rcases qq11 with rfl)
    exact hok g hg
  have hne1 : gs.map Stp.one ≠ [] := by
    cases gs with
    | nil => exact absurd rfl hne
    | cons _ _ => simp
  have hz1 : (gs.map Stp.one).length ≤ 1000 := by rw [List.length_map]; exact hz
  have hfirst : ∀ b, Stp.grp b ∈ gs.map Stp.one → ∀ Lr vb kb (p : Nat) tp, Are (TupIn objs) vb b → p ≤ x.cps.toList.length → Pure w 0 0 231 [.ref Lr, .str x t, .int (p : Int) tp] (fun h => h.get? Lr = some (listOf vb.toArray kb) ∧ ∀ q ∈ objs, h.get? q.1 = some q.2) (EndsPost (firstF x.cps.toList b p)) := by
    intro b hb
    (refine ex1E (List.mem_map.mp hb) fun g qq1 => ?_; refine and2E qq1 fun ux e => ?_; try clear qq1)
    cases e
  k_steps
  unfold Stop
  refine for_walks (h₀ := gh s.heap) (L := L') ?_ (by intro _; rfl) (by first | assumption | with_unfolding_all passes_own)
  k_steps
  unfold Stop
  rename News _ _ _ _ => N9
  rename Fr _ _ _ _ => F9
  refine forAt_range (n := x.length + 1 - p) (SJ _ x.cps.toList gs p) (by exact rfl) F9 N9 (by assumption) (small_one (by omega) (by omega) (by omega) (by omega)) (by rw [rangeSize_one]; split <;> omega) (sj_zero hps) ?_ ?_
  · (intro i ti I oI m nw h3 tk3 hi qr9 F3 N3 off3; obtain ⟨u, ps3, ok3, hA⟩ := qr9)
    try dsimp only at F3
    simp only [List.forall_mem_cons, List.forall_mem_nil, and_true] at off3
    have hpi : Are IsN [Value.int ((p : Int) + (i : Int)) ti] [p + i] := .cons ⟨ti, by rw [Int.natCast_add]⟩ .nil
    have hwi : Within x.cps.toList [p + i] := ⟨by simp, fun q hq => by simp at hq; omega⟩
    cases hqe : endsG x.cps.toList gs [p + i] with
    | nil =>
      refine turn_cut ?_
      intro Kt hKt
      k_steps
      refine sj_next (by k_asm) (by k_asm) (by walk_at "mine out") (List.forall_mem_cons.mpr ⟨by k_mem, List.forall_mem_cons.mpr ⟨by k_mem, fun _ h => (nomatch h)⟩⟩) (by omega) (by assumption) hA hqe
    | cons e0 er =>
      refine turn_cut ?_
      intro Kt hKt
      k_steps
      rename News _ _ _ _ => N9
      have zq := N9 _ (.head _)
      try dsimp only [ForPost]
      k_steps
      try dsimp only
      exact leaveP_in (by k_asm) N9 (by k_mem) (by assumption) fun G T' => hret _ _ _ G T' ⟨_, zs', 0, zq.1, gh_none zq.2.2 (by k_ne), first_hit hA (by omega) hqe ▸ hzs⟩
  · (intro m nw h3 tk3 qr4 F3 N3; obtain ⟨u, ps3, ok3, hA⟩ := qr4)
    try dsimp only
    k_steps
    rename News _ _ _ _ => N9
    have zq := N9 _ (.head _)
    exact leaveP_in (by k_asm) N9 (by k_mem) (by assumption) fun G T' => hret _ _ _ G T' ⟨_, [], 0, zq.1, gh_none zq.2.2 (by k_ne), first_none hA ▸ .nil⟩
end Mine
end
section
open PySem PySem.W PySem.Spec PySem.Calls PyProof.Rows
set_option maxRecDepth 100000 
set_option maxHeartbeats 2000000 
namespace Mine
theorem l0_D14 : True := by
  k_with_none
  trivial
inductive PatW (x : Str) (res : List Stp) : Prop
  | mk (toks : List PTok) (xs0 xs1 : List Str) (rtoks : List RTok) (body : Str) (hok : ∀ k ∈ toks, k.ok) (hap : apart toks) (hx : x = ⟨(tx toks).toArray⟩) (hparts : toks.map PTok.part = xs0.map some ++ none :: (xs1.map some ++ [none])) (hne : xs1 ≠ [])
    (hsz : xs0.length ≤ 100 ∧ xs1.length ≤ 100) (hsm : (xs0.map (·.length)).sum ≤ 1000 ∧ (xs1.map (·.length)).sum ≤ 1000) (hbd : joined xs0 xs1 = Str.empty ++ Str.ofString "(?s:" ++ body ++ Str.ofString ")\\Z") (hbl : body.length ≤ 3000)
    (hbt : body = ⟨(rtx rtoks).toArray⟩) (hgd : Good rtoks) (hfn : fin rtoks [] none = some res) (hrl : rtoks.length ≤ 500) : PatW x res
structure Pat (x : Str) (res : List Stp) : Prop where
  words : PatW x res
  len : x.length ≤ 100
  ok : ∀ st ∈ res, StepOk st
  grp : ∀ b, Stp.grp b ∈ res → b ≠ [] ∧ b.length ≤ 1000 ∧ ∀ g ∈ b, (g.many = 0 ∨ g.many = 1) ∧ g.sign.length ≤ 1
  ne : res ≠ []
  few : res.length ≤ 1000
theorem c_ends_pat (w : World) {pat : Str} {res : List Stp} (hP : Pat pat res) (y : Str) (t : Tok) (Ls Lp : Addr) (objs : List (Addr × Obj)) (vs pv : List Value) (k kp : Nat) (ps0 : List Nat)
    (hst : Are (StepIn objs) vs res) (h198 : ∀ q ∈ objs, q.1 ≠ 198) (hpv : Are IsN pv ps0) (hw : Within y.cps.toList ps0) (hx : y.length ≤ 1000) :
    Pure w 12 240 236 [.ref Ls, .str y t, .ref Lp] (fun h => h.get? Ls = some (listOf vs.toArray k) ∧ h.get? Lp = some (listOf pv.toArray kp) ∧ ∀ p ∈ objs, h.get? p.1 = some p.2)
      (EndsPost (endsF y.cps.toList res ps0)) :=
  c_ends w 8 160 y t res Ls Lp objs vs pv k kp ps0 hst h198 hpv hP.ok hP.ne hw hx hP.few fun b hb Lr vb kb p tp hvb hp =>
    c_first w y t b Lr objs vb kb p tp hvb h198 (hP.grp b hb).2.2 (hP.grp b hb).1 hp hx (hP.grp b hb).2.1
noncomputable def taken (res : List Stp) (texts : List Str) : List Str := texts.filter fun y => (endsF y.cps.toList res [0]).contains y.length
end Mine
end
section
open PySem PySem.W PySem.Spec PySem.Calls PyProof.Rows
set_option maxRecDepth 100000 
set_option maxHeartbeats 2000000 
namespace Mine
theorem lines_C11_0 : True := by
  k_with_none
  k_with "q" => (all_goals first | assumption | with_unfolding_all exact rfl)
  k_with "ar" => with_reducible first | assumption | (apply Ar.le0; k_extra "q") | (apply Ar.rm2; k_extra "q") | (apply Ar.sze; k_extra "q") | (apply Ar.rl0; k_extra "q") | (apply Ar.nl1; k_extra "q") | (apply Ar.pg4; k_extra "q")
  k_with "storeName" => (
      k_here
      k_dflt (refine storeL (by k_asm) (by k_asm) ?_ (by rfl) (by rfl))
      k_whole
      intro m1 h' tk F' N'
      (try k_sweep))
  k_with "ite" => first | with_reducible refine ite_tt ?_ | with_reducible refine ite_ff ?_
  k_with "execs cons" => first | (with_reducible refine seqT1 ?_; intro tk) | (with_reducible refine seqT ?_; intro Kc tk hKc) | (with_reducible refine blkT ?_; intro Qd tk hQd)
  k_with "Nxt" => (k_dflt (dsimp only [Nxt]))
  k_with "Kont" => first | (k_dflt (refine hKc _ _ ?_; try clear hKc)) | (k_dflt (refine hQd _ _ ?_; try clear hQd)) | (k_dflt (refine hQc _ _ ?_; try clear hQc)) | (k_dflt (refine kont_app (by assumption) ?_))
  k_with "execs cons" => first | with_reducible refine seq_cut1 ?_ | (with_reducible refine seq_cut ?_; intro Kc hKc) | (with_reducible refine blk_cut ?_; intro Qd hQd)
  k_with "Nxt" => (k_dflt (dsimp only [Nxt]))
  k_with "Kont" => first | (k_dflt (refine hKc _ _ ?_; try clear hKc)) | (k_dflt (refine hQd _ _ ?_; try clear hQd)) | (k_dflt (refine hQc _ _ ?_; try clear hQc)) | (k_dflt (refine kont_app (by assumption) ?_))
  k_with "mine enter" => (
      (case k3 => assumption)
      (case k5 => assumption)
      (case kT => assumption)
      (case k6 => k_is)
      (case k7 => k_is)
      (case k8 => (dsimp only [aA]; omega))
      (case k9 => exact BindsTo.of_eq rfl)
      (case c5 => decide)
      (case kB => exact locs rfl)
      (case c2 => exact rfl)
      (case c3 => exact rfl)
      (case c4 => exact rfl)
      (case' kk => skip)
      k_whole
      intro L' h' ps FL NL hps l0 lL gL
      (try dsimp only)
      (try k_fold))
  k_with "eval ListComp" => (refine stop_intro ?_)
  k_with "call ref" => (
      k_here
      first
      | (k_dflt (refine use2 [_] [] (c_translate w pat tp toks xs0 xs1 hok hap hx hparts hne hsz hsm) (by k_asm) (by k_asm) (by k_asm) (by k_all) (by k_all) (by assumption) (by k_asm) (by exact rfl) hplen (by dsimp +zetaDelta only [aA, Around.deeper]; omega) (by dsimp +zetaDelta only [aA, Around.deeper]; omega) ?_)
         intro v4 h4 tk4 ps4 F4 N4 ok4 G4 hv4 hn4
         (refine ex1E hv4 fun t4 qq1 => ?_; try clear hv4; rcases qq1 with rfl)
         simp only [List.cons_append, List.nil_append] at N4)
      | (k_dflt (refine use2 [_] [] (c_read w (joined xs0 xs1) body t4 hbd hbl rtoks res hbt hgd hfn hrl) (by k_asm) (by k_asm) (by k_asm) (by k_all) (by k_all) (by assumption) (by k_asm) (by exact rfl) trivial (by dsimp +zetaDelta only [aA, Around.deeper]; omega) (by dsimp +zetaDelta only [aA, Around.deeper]; omega) ?_)
         intro v5 h5 tk5 ps5 F5 N5 ok5 G5 hv5 hn5
         (refine ex4E hv5 fun L0 vs k objs qq4 => ?_; try clear hv5; refine and5E qq4 fun qq40 hL0 hL0n hst hobj => ?_; try clear qq4; rcases qq40 with rfl)
         have e198 := (N4 (198, tabObj ps4) (by k_mem)).1
         have ec1 := (N4 (L' + 1, o1) (.head _)).1
         have h198 : ∀ q ∈ objs, q.1 ≠ 198 := fun q hq => new_ne (hobj q hq).2 e198
         have hc1 : ∀ q ∈ objs, q.1 ≠ L' + 1 := fun q hq => new_ne (hobj q hq).2 ec1
         have n198 := new_ne hL0n e198
         have nc1 := new_ne hL0n ec1
         replace N5 := news_more (objs := (L0, listOf vs.toArray k) :: objs) hn5 (List.forall_mem_cons.mpr ⟨⟨hL0, hL0n⟩, hobj⟩) N5
         simp only [List.cons_append, List.nil_append] at N5)
      | (k_dflt (refine use2 [_, _, _, _, _] ((L0, listOf vs.toArray k) :: objs) (c_ends_pat w hP y ty L0 _ objs vs [_] k 0 [0] hst h198 zero_is hwi hy) (by k_asm) (by k_asm) (by k_asm) (by k_all) (by k_all) (by assumption) (by k_asm) (by exact rfl) ⟨News.get (L := L') (h₀ := gh s.heap) (by k_asm) (by k_mem), News.get (L := L') (h₀ := gh s.heap) (by k_asm) (by k_mem), fun q hq => News.get (L := L') (h₀ := gh s.heap) (by k_asm) (by repeat (first | exact hq | apply List.Mem.tail))⟩ (by dsimp +zetaDelta only [aA, Around.deeper]; omega) (by dsimp +zetaDelta only [aA, Around.deeper]; omega) ?_)
         intro v4 h4 tk4 ps4 F4 N4 ok4 G4 hv4 hn4
         obtain ⟨r4, vs4, k4, hr4, hrn4, hA4⟩ := hv4
         replace N4 := news_add (hn4 _ hrn4) hr4 N4
         simp only [List.cons_append, List.nil_append] at N4))
  trivial
theorem lx_C11_0 : True := by
  k_with "k_all" => (first | exact h198 | exact hc1)
  trivial
theorem lines_C11_1 : True := by
  k_with "compareOp In int ref" => (
      k_here
      k_dflt (refine in_nats (News.isList (by k_asm) (by k_mem)) hA4 rfl rfl ?_)
      k_whole)
  k_with "mine sub" => first
      | exact List.forall_mem_nil _
      | (refine' allC ?s1 ?s2; (case s1 => k_mem); (case s2 => walk_at "mine sub"))
      | (intro p hp; repeat (first | exact hp | apply List.Mem.tail))
  trivial
theorem zero_is {u : Tok} : Are IsN [Value.int 0 u] [0] := .cons ⟨u, rfl⟩ .nil
inductive TakenPost (res : List Str) (h h' : Heap) : Value → Prop
  | mk (r : Addr) (vs : List Value) (k : Nat) (hr : h'.get? r = some (listOf vs.toArray k)) (hn : h.get? r = none) (hA : Are IsS vs res) : TakenPost res h h' (.ref r)
theorem c_taken (w : World) {pat : Str} {res : List Stp} (hP : Pat pat res) (tp : Tok) (Lt : Addr) (tv : List Value) (kt : Nat) (texts : List Str) (htv : Are IsS tv texts) (hty : ∀ y ∈ texts, y.length ≤ 1000) (htl : texts.length ≤ 1000) :
    Pure w 16 400 241 [.str pat tp, .ref Lt] (fun h => h.get? Lt = some (listOf tv.toArray kt)) (TakenPost (taken res texts)) := by
  obtain ⟨toks, xs0, xs1, rtoks, body, hok, hap, hx, hparts, hne, hsz, hsm, hbd, hbl, hbt, hgd, hfn, hrl⟩ := hP.words
  have hplen := hP.len
  unfold Pure
  k_fill
  intro mean mg mb dp un fr gd Q E s X T hT hp hdp hun hret
  refine' enterC (binds := [(Str.ofString "pattern", .str pat tp), (Str.ofString "texts", .ref Lt)]) ?k3 ?k5 ?kT ?k6 ?k7 ?k8 ?k9 ?kA ?kB ?kk ?c2 ?c3 ?c4
  (case k3 => assumption)
  (case k5 => assumption)
  (case kT => assumption)
  (case k6 => k_is)
  (case k7 => k_is)
  (case k8 => (dsimp only [aA]; omega))
  (case k9 => exact BindsTo.of_eq rfl)
  (case kA => exact kindsX rfl)
  (case kB => decide)
  (case c2 => exact rfl)
  (case c3 => exact rfl)
  (case c4 => exact rfl)
  (case' kk => skip)
  k_whole
  intro L' h' tk cells ps FL NL Y hps l0 lL gL
  have l0' : @LT.lt Nat _ 198 L' := l0
  (refine ex1E (PyProof.Rows.CellsAre.one Y) fun o1 qq1 => ?_; refine and2E qq1 fun qq10 d1 => ?_; try clear qq1; rcases qq10 with rfl)
  (try dsimp only)
  (try k_fold)
  refine entL (by first | assumption | with_unfolding_all passes_own) ?_
  intro A1 e1 Qc Ec hQc hEc
  have hLt : (gh s.heap).get? Lt = some (listOf tv.toArray kt) := gh_keep hT hp (by intro e; cases e)
  k_steps
  unfold Stop
  clear Y
  refine PyProof.Rows.LCt.ListComp_T (F₀ := by k_asm) (by with_unfolding_all rfl) (by decide) (by rfl) (by decide) (by rfl) (nameX_L (by k_asm) rfl ?_)
  rename News _ _ _ _ => N9
  rename Fr _ _ _ _ => F9
  refine .inl ⟨Lt, tv.toArray, _, rfl, by exact rfl, F9, N9, .inl ⟨_, hLt, rfl, _, rfl⟩, by (have q1 := sizeLine_eq; have q2 := htv.length; rw [List.size_toArray]; omega), ?_⟩
  (intro s₂ qr1; (refine ex1E qr1 fun g2 qq1 => ?_; try clear qr1; rcases qq1 with rfl))
  refine restT_fun (xs := texts) (R := IsS) (p := fun y => (endsF y.cps.toList res [0]).contains y.length) (g := id) (R' := IsS) (Inv := fun nw => ∃ ps'', TabOk ps'' ∧ nw = _ :: (198, tabObj ps'') :: (L0, listOf vs.toArray k) :: objs) (by simpa using htv.length.symm) (fun i v _ hv => htv.get (by simpa using hv)) ⟨_, ok5, rfl⟩ ?_ ?_
  · (intro y vy I oI C oC D m₂ ys h3 tk3 nw3 E' hyt qr14 qr15 hC hx3 F3 N3 off3 ne3; (refine ex1E qr14 fun ty qq1 => ?_; try clear qr14; rcases qq1 with rfl); (refine ex1E qr15 fun ps3 qq1 => ?_; try clear qr15; refine and2E qq1 fun ok3 qq11 => ?_; try clear qq1; rcases qq11 with rfl))
    have offK := off3
    simp only [PyProof.Rows.LCg.Off3] at off3
    have hy := hty y hyt
    have hwi : Within y.cps.toList [0] := ⟨by simp, fun q hq => by simp at hq; omega⟩
    k_steps
    all_goals first
    | rfl
    | exact PyProof.Rows.LCg.CompEnd.intro (by k_asm) (by k_asm) _ (by walk_at "mine sub") (by exact offK) (.inl ⟨_, hLt, rfl, _, rfl⟩) ⟨⟨_, ok4, rfl⟩, _, rfl⟩
    | exact PyProof.Rows.LCg.CompEnd.intro (by k_asm) (by k_asm) _ (by walk_at "mine sub") (by exact offK) (.inl ⟨_, hLt, rfl, _, rfl⟩) ⟨_, ok4, rfl⟩
  · (intro ys nw qr2 hys D h3 tk3 F3 N3 off3; (refine ex1E qr2 fun ps3 qq1 => ?_; try clear qr2; refine and2E qq1 fun ok3 qq11 => ?_; try clear qq1; rcases qq11 with rfl))
    simp only [PyProof.Rows.LCg.Off1] at off3
    rw [List.map_id] at hys
    try dsimp only
    k_steps
    have zq := N3 _ (.head _)
    exact leaveP_in (by k_asm) N3 (by k_mem) (by assumption) fun G T' => hret _ _ _ G T' ⟨D, ys, ys.length, zq.1, gh_none zq.2.2 (fun q => off3.2.1 q.symm), hys⟩
end Mine
end
section
open PySem PySem.W PySem.Spec PySem.Calls PyProof.Rows
set_option maxRecDepth 100000
set_option maxHeartbeats 2000000
namespace Mine
theorem l0_T1 : True := by
  k_with_none
  k_with "q" => (all_goals first | assumption | with_unfolding_all exact rfl)
  k_with "ar" => with_reducible first | assumption | (apply Ar.le5; k_extra "q") | (apply Ar.le6; k_extra "q") | (apply Ar.ltB; k_extra "q") | (apply Ar.subL; k_extra "q") | (apply Ar.n44; k_extra "q") | (apply Ar.subS; k_extra "q") | (apply Ar.subE; k_extra "q")
  trivial
section
variable {prog : Program} {w : World} {A : Around} {E : Value → Shared → Prop} {s : Shared}
noncomputable abbrev SetS (prog : Program) (w : World) (h : Heap) (S : Addr) (ys : List Str) : Prop := ∃ n, n ≤ 1000 ∧ h.SetOf (strKind prog w) S (fun k => ys.contains k) n
theorem setOf_eq {h : Heap} {S : Addr} {f g : Str → Bool} {n : Nat} (hS : h.SetOf (strKind prog w) S f n) (e : ∀ k, f k = g k) : h.SetOf (strKind prog w) S g n := by
  obtain rfl : f = g := funext e
  exact hS
theorem setOf_at {h h' : Heap} {S : Addr} {f : Str → Bool} {n : Nat} (hS : h.SetOf (strKind prog w) S f n) (e : ∀ o, h.get? S = some o → h'.get? S = some o) : h'.SetOf (strKind prog w) S f n := by
  (refine ex4E hS fun o es ep t qq4 => ?_; try clear hS; refine and2E qq4 fun ho rest => ?_; try clear qq4)
  exact ⟨o, es, ep, t, e _ ho, rest⟩
theorem upd_strs {R : Result → Shared → Prop} {l I S : Addr} {vs : List Value} {ys : List Str} (hh : A.handled = none) (hA : Are IsS vs ys) (hlI : l ≠ I) (hSI : S ≠ I) (hSl : S ≠ l) (hz : vs.length ≤ 900) :
    ∀ (j i n : Nat) (s : Shared), vs.length - i = j → i ≤ vs.length → n ≤ i → s.heap.IsListIter I l i → s.heap.IsList l vs.toArray → s.heap.SetOf (strKind prog w) S (fun k => (ys.take i).contains k) n →
      (∀ h' tk, SetS prog w h' S ys → (∀ b o, b ≠ S → b ≠ I → s.heap.get? b = some o → h'.get? b = some o) → R (.ok (.ret .none)) { s with heap := h', toks := tk }) →
      codeAny (model prog w) A (.builtin "set.update.loop" ⟨[.ref S, .ref I], []⟩) R s := by
  intro j
  induction j with
  | zero =>
    intro i n s hj hi hn hit hl hS hR
    obtain rfl : i = vs.length := by omega
    refine codeAny_builtin PyProof.Rows.F.entry_set_update_loop ?_
    rw [Around.under_plainId PyProof.Rows.F.plain_set_update_loop _]
    show wpAny _ A.in1 (pyNext (.ref I) >>= _) _ _ s
    refine wpAny_bind (wpAny_pyNext_list_end hh hit hl (by simp) fun h' he => ?_)
    show wpAny _ A.in1 (ret Value.none) _ _ _
    refine wpAny_pure (hR h' s.toks ⟨n, by omega, ?_⟩ fun b o _ hb e => he b o hb e)
    refine setOf_eq (setOf_at hS fun o e => he S o hSI e) fun k => ?_
    rw [hA.length, List.take_length]
  | succ j ih =>
    intro i n s hj hi hn hit hl hS hR
    have hlt : i < vs.length := by omega
    refine codeAny_builtin PyProof.Rows.F.entry_set_update_loop ?_
    rw [Around.under_plainId PyProof.Rows.F.plain_set_update_loop _]
    show wpAny _ A.in1 (pyNext (.ref I) >>= _) _ _ s
    refine wpAny_bind (wpAny_pyNext_list_item hit hl (x := vs[i]) (by simp [hlt]) fun h₁ hit₁ hs₁ => ?_)
    (refine ex1E (hA.get (List.getElem?_eq_getElem hlt)) fun y qq1 => ?_; refine and2E qq1 fun hy qq11 => ?_; try clear qq1; refine ex1E qq11 fun t hv => ?_; try clear qq11)
    rw [hv]
    show wpAny _ A.in1 (holding [Value.str y t] (setAdd S (.str y t)) >>= _) _ _ _
    refine wpAny_bind (wpAny_holding ?_)
    unfold setAdd
    refine wpAny_holding (wpAny_bind ((strKind prog w).pyHash (strKind_is _ _ y t) ?_))
    have hS₁ : h₁.SetOf (strKind prog w) S (fun k => (ys.take i).contains k) n := setOf_at hS fun o e => hs₁.extBut S o hSI e
    refine wpAny_setAddHashed_of (knd := strKind prog w) (strKind_is _ _ y t) rfl hS₁ (by unfold scanBound; omega) fun h₂ hs₂ hS₂ => ?_
    refine wpAny_pure ⟨plainId_quiet PyProof.Rows.F.plain_set_update_loop _, ?_⟩
    refine ih (i + 1) _ _ (by omega) hlt ?_ (hit₁.at fun o e => hs₂.extBut _ o hSI.symm e) ((hl.at fun o e => hs₁.extBut _ o hlI e).at fun o e => hs₂.extBut _ o hSl.symm e) (setOf_eq hS₂ fun k => ?_) fun h' tk hS' hk => ?_
    · split <;> omega
    · rw [List.take_add_one, hy, List.contains_eq_any_beq, List.contains_eq_any_beq, Option.toList_some, List.any_append, List.any_cons, List.any_nil, Bool.or_false]
      congr 1
      all_goals (rw [Bool.eq_iff_iff, decide_eq_true_iff, beq_iff_eq])
    · exact hR h' tk hS' fun b o h1 h2 e => hk b o h1 h2 (hs₂.extBut b o h1 (hs₁.extBut b o h2 e))
theorem init_set_strs {l S : Addr} {vs : List Value} {ys : List Str} {led : Bool} {Q : Fin → Shared → Prop} (hh : A.handled = none) (hl : s.heap.IsList l vs.toArray) (hA : Are IsS vs ys) (hz : vs.length ≤ 900) (hS : s.heap.get? S = some { cls := .type "set", dict := none, data := .set #[] 0 (.fresh 0 0 led) })
    (hne : S ≠ l) (h : ∀ h' tk, SetS prog w h' S ys → (∀ b o, b ≠ S → s.heap.get? b = some o → h'.get? b = some o) → Q (.done (.ret .none)) { s with heap := h', toks := tk }) : wpAny (model prog w) A (Builtin.«set.__init__» ⟨[.ref S, .ref l], []⟩) Q E s := by
  (refine ex1E hl fun ol qq1 => ?_; try clear hl; refine and3E qq1 fun hol hcl qq12 => ?_; try clear qq1; refine ex1E qq12 fun nl hdl => ?_; try clear qq12)
  obtain ⟨ocls, odict, odata, oslots⟩ := ol
  dsimp only at hcl hdl
  subst hcl; subst hdl
  have hl₁ : s.heap.IsList l vs.toArray := ⟨_, hol, rfl, nl, rfl⟩
  have hT : s.TypeIs (.ref S) "set" := ⟨_, hS, rfl⟩
  have q1 := PySem.F.sub_list_set
  have q2 := PySem.F.sub_list_frozenset
  have q3 : (Value.type "list" == Value.type "dict") = false := by decide
  unfold Builtin.«set.__init__» noKeywords Builtin.Frozenset.updateFrom
  generalize hPI : pyIter = PI
  wp_walk
  subst hPI
  refine wpAny_pyIter_list hl₁ ?_
  refine wpAny_bind (wpAny_runValue ?_)
  have hlS : l < s.heap.objs.size := Heap.lt_size hol
  have hSS : S < s.heap.objs.size := Heap.lt_size hS
  refine upd_strs (A := A) (by simp [hh]) hA (I := s.heap.objs.size) (Nat.ne_of_lt hlS) (Nat.ne_of_lt hSS) hne hz vs.length 0 0 _ (Nat.sub_zero _) (Nat.zero_le _) (Nat.le_refl _) ⟨_, Heap.get?_push_size _ rfl, rfl, rfl⟩ (hl₁.at fun o e => Heap.get?_push_of_some _ e) ?_ fun h' tk hS' hk => ?_
  · have := (setObjOf_fresh (knd := strKind prog w) led).setOf (h := s.heap.push { cls := .type "list_iterator", data := .fields #[.ref l, .int 0 0] }) (a := S) (Heap.get?_push_of_some _ hS) (by unfold scanBound; omega)
    exact setOf_eq this fun _ => rfl
  · show wpAny _ _ _ _ _ _
    refine wpAny_pure ?_
    show wpAny _ _ (ret Value.none) _ _ _
    exact wpAny_pure (h h' tk hS' fun b o hb e => hk b o hb (Nat.ne_of_lt (Heap.lt_size e)) (Heap.get?_push_of_some _ e))
theorem callType_chk {T newId initId : String} {Bi : Builtin} {args : List Value} {Q Q₁ : Value → Shared → Prop} (ft : TypeCalled T newId initId) (hct : checkTypeCall T ⟨args, []⟩ = pure ()) (entryI : entryFor table initId = some Bi)
    (hnew : codeAny (model prog w) A.in1 (.call (.builtin newId) ⟨.type T :: args, []⟩) (wants Q₁ E) s)
    (hnext : ∀ obj s₁, Q₁ obj s₁ → s₁.TypeIs obj T ∧ (∀ (A : Around) (E : Value → Shared → Prop) (Q' : Unit → Shared → Prop), Q' () s₁ → wpAny (model prog w) A (checkBuiltinCall initId ⟨obj :: args, []⟩) Q' E s₁) ∧
      wpAny (model prog w) A.in1.in1 (Bi ⟨obj :: args, []⟩)
        (fun fin s' => match fin with | .done f => wants (fun r s₂ => r = .none ∧ Q obj s₂) E (.ok f) s' | .again c' => c'.quiet = true ∧ codeAny (model prog w) A.in1 c' (wants (fun r s₂ => r = .none ∧ Q obj s₂) E) s')
        (fun e s' => wants (fun r s₂ => r = .none ∧ Q obj s₂) E (.error e) s') s₁) :
    wpAny (model prog w) A (call (.type T) args) Q E s := by
  refine ex2E ft.mro fun c tl hmro => ?_
  have k1 := ft.made
  have k2 := ft.sub
  have k3 := ft.notType
  have k4 := ft.canCreate
  refine wpAny_call (codeAny_of_tree ?_)
  show wpAny _ _ (callAny (.type T) _) _ _ _
  refine wpAny_pure ⟨Code.quiet_builtin _ (by decide +kernel), codeAny_builtin PySem.F.entry_type_call ?_⟩
  rw [Around.under_plain (weight_type_call_type T args []) rfl]
  repeat (any_goals (first | assumption | wp_step))
  refine codeAny_mono hnew fun r s₁ hr => ?_
  rcases r with e | fl
  · exact hr
  cases fl with
  | ret obj =>
    refine and3E (hnext _ _ hr) fun hT hok hsi => ?_
    have k5 := ft.init.lookup
    have k6 := ft.init.bind obj
    repeat (any_goals (first | assumption | wp_step))
    refine codeAny_mono (codeAny_call_builtin ft.init.plain entryI (hok _ _ _ hsi)) fun r₂ s₂ hr₂ => ?_
    rcases r₂ with e | fl₂
    · exact hr₂
    cases fl₂ with
    | ret r =>
      (refine and2E hr₂ fun qq0 hq => ?_; try clear hr₂; rcases qq0 with rfl)
      repeat (any_goals (first | assumption | wp_step))
    | _ => exact hr₂.elim
  | _ => exact hr.elim
theorem call_set_strs {l : Addr} {vs : List Value} {ys : List Str} {Q : Value → Shared → Prop} (hh : A.handled = none) (hl : s.heap.IsList l vs.toArray) (hA : Are IsS vs ys) (hz : vs.length ≤ 900)
    (h : ∀ (h' : Heap) (tk : Nat), SetS prog w h' s.heap.objs.size ys → (∀ b o, s.heap.get? b = some o → h'.get? b = some o) → Q (.ref s.heap.objs.size) { s with heap := h', toks := tk }) :
    wpAny (model prog w) A (call (.type "set") [.ref l]) Q E s := by
  refine callType_chk (Q₁ := fun obj s₁ => ∃ led : Bool, obj = .ref s.heap.objs.size ∧ s₁ = { s with heap := s.heap.push { cls := .type "set", dict := none, data := .set #[] 0 (.fresh 0 0 led) } }) PySem.F.called_set (PySem.F.typeCall_set_1 _) PySem.F.entry_set_init
    (code_set_new_1 _ fun led => ⟨led, rfl, rfl⟩) fun obj s₁ h₁ => ?_
  (refine ex1E h₁ fun led qq1 => ?_; try clear h₁; refine and2E qq1 fun qq10 qq11 => ?_; try clear qq1; rcases qq10 with rfl; rcases qq11 with rfl)
  have up : ∀ b o, s.heap.get? b = some o → (s.heap.push { cls := .type "set", dict := none, data := .set #[] 0 (.fresh 0 0 led) }).get? b = some o := fun b o e => Heap.get?_push_of_some _ e
  have hS : (s.heap.push { cls := .type "set", dict := none, data := .set #[] 0 (.fresh 0 0 led) }).get? s.heap.objs.size = some { cls := .type "set", dict := none, data := .set #[] 0 (.fresh 0 0 led) } := Heap.get?_push_size _ rfl
  (refine ex1E (id hl) fun ol qq1 => ?_; refine and2E qq1 fun hol hr => ?_; try clear qq1)
  refine ⟨⟨_, hS, rfl⟩, fun A' E' Q' hq => check_set_init_1 ⟨_, hS, rfl⟩ hq, init_set_strs (A := A.in1.in1) hh ⟨ol, up _ _ hol, hr⟩ hA hz hS (fun q => absurd (Heap.lt_size hol) (q ▸ Nat.lt_irrefl _)) fun h' tk hS' hk => ?_⟩
  exact ⟨rfl, h h' tk hS' fun b o e => hk b o (Nat.ne_of_lt (Heap.lt_size e)) (up b o e)⟩
end
end Mine
end
section
open PySem PySem.W PySem.Spec PySem.Calls PyProof.Rows
set_option maxRecDepth 100000
set_option maxHeartbeats 2000000
namespace Mine
theorem l0_T2 : True := by
  k_with_none
  trivial
theorem slot_sga : Slot "set" "__getattribute__" "set.__getattribute__" :=
  .of (owner := "set") (n := "__getattribute__") (by rw [typeLookup_type, builtinLookup_eq_fast]; kernel_rfl) (by decide +kernel) (by decide +kernel) (by decide +kernel)
    (by first | exact .inl (by decide +kernel) | exact .inr (by decide +kernel)) (by rw [isSubtype_type]; kernel_rfl)
theorem entry_sga : entryFor table "set.__getattribute__" = some Builtin.«object.__getattribute__» :=
  entryFor_alias (id' := "object.__getattribute__") (by rw [fastTable_eq_tree]; kernel_rfl) (by decide +kernel) (by decide +kernel) (by rw [fastTable_eq_tree]; kernel_rfl)
theorem args_sga (a b : Value) : argsOk "set.__getattribute__" ⟨[a, b], []⟩ := by
  unfold argsOk; rw [signature?_of (id := "set.__getattribute__") (n := ['_', '_', 'e', 't', 'u', 'b', 'i', 'r', 't', 't', 'a', 't', 'e', 'g', '_', '_']) (o := ['t', 'e', 's']) (by kernel_rfl) PySem.F.owner_set]; kernel_rfl
theorem look_sct : typeLookup (.type "set") "__contains__" = pure (some (.builtin "set.__contains__")) := by rw [typeLookup_type, builtinLookup_eq_fast]; kernel_rfl
theorem set_not_module : isSubtype (.type "set") (.type "module") = pure false := by rw [isSubtype_type]; kernel_rfl
theorem kind_sct : builtinKind "set.__contains__" = some .method := by decide +kernel
theorem va_sct : Manifest.varargsMethods.contains "set.__contains__" = false := by decide +kernel
noncomputable def sctSig : Manifest.Signature := (Manifest.sig_set.lookup "__contains__").get (by decide +kernel)
theorem sig_sct : Manifest.signature? "set.__contains__" = some sctSig := by
  rw [signature?_of (id := "set.__contains__") (n := ['_', '_', 's', 'n', 'i', 'a', 't', 'n', 'o', 'c', '_', '_']) (o := ['t', 'e', 's']) (by kernel_rfl) PySem.F.owner_set]; kernel_rfl
theorem chk_sct (a b : Value) : Bind.checkArgs "set.__contains__" { sctSig with full := toString (Bind.lastOf "set") ++ toString "." ++ toString (Bind.lastOf "set.__contains__") } ⟨[a, b], []⟩ = pure () := by kernel_rfl
section
variable {prog : Program} {w : World} {A : Around} {E : Value → Shared → Prop} {s : Shared}
noncomputable abbrev bctObj (S : Addr) : Obj := { cls := .type "builtin_function_or_method", data := .fields #[.builtin "set.__contains__", .ref S] }
theorem get_contains {S : Addr} {ys : List Str} {Q : Value → Shared → Prop} (hS : SetS prog w s.heap S ys) (h : ∀ k, Q (.ref s.heap.objs.size) { s with heap := s.heap.push (bctObj S), toks := k }) :
    wpAny (model prog w) A (getAttr (.ref S) "__contains__" true) Q E s := by
  (refine ex1E hS fun n qq1 => ?_; try clear hS; refine and2E qq1 fun ux qq11 => ?_; try clear qq1; refine ex4E qq11 fun o es ep t qq114 => ?_; try clear qq11; refine and4E qq114 fun ho hx hd ux => ?_; try clear qq114)
  exact get_bound ho hx.1 hx.2.1 (fun c q => by rw [hd] at q; cases q) look_sct type_sc (by decide +kernel) (by decide +kernel) (by rw [isSubtype_type]; kernel_rfl) slot_sga entry_sga args_sga (by decide +kernel) h
theorem call_contains {B S : Addr} {ys : List Str} {x : Str} {t : Tok} {Q : Value → Shared → Prop} (eb : s.heap.get? B = some (bctObj S)) (hS : SetS prog w s.heap S ys) (h : ∀ k, Q (.bool (ys.contains x)) { s with toks := k }) :
    wpAny (model prog w) A (call (.ref B) [.str x t]) Q E s := by
  (refine ex1E hS fun n qq1 => ?_; try clear hS; refine and2E qq1 fun ux hS => ?_; try clear qq1)
  have hT : s.TypeIs (.ref S) "set" := hS.typeIs
  refine wpAny_call (codeAny_of_tree ?_)
  show wpAny _ A.in1 (callAny (.ref B) _) _ _ s
  simp -iota only [callAny]
  refine wpAny_bind (wpAny_load eb ?_)
  dsimp only
  simp -iota only [show (Value.type "builtin_function_or_method" == Value.type "method") = false by decide, beq_self_eq_true, Bool.true_or, Bool.or_true, if_true]
  show wpAny _ _ (checkBoundCall "set.__contains__" ⟨[.ref S, .str x t], []⟩ >>= _) _ _ s
  refine wpAny_bind ?_
  unfold checkBoundCall
  rw [sig_sct]
  dsimp only
  rw [kind_sct]
  dsimp only
  rw [if_neg (by decide)]
  refine wpAny_bind (wpAny_isInstance hT set_not_module ?_)
  rw [va_sct]
  simp -iota only [Bool.or_self, Bool.false_eq_true, if_false]
  refine wpAny_bind ?_
  unfold isType
  (refine ex4E (id hS) fun o es ep tb qq4 => ?_; refine and4E qq4 fun ho hx hd hrest => ?_; try clear qq4)
  refine wpAny_bind (wpAny_loadPart ho ?_)
  rw [hd]
  refine wpAny_pure ?_
  dsimp only
  simp -iota only [Bool.false_eq_true, if_false]
  refine wpAny_bind (wpAny_typeOf hT ?_)
  dsimp only
  refine wpAny_of_eq (chk_sct _ _) ?_
  refine wpAny_pure ⟨plainId_quiet (by decide +kernel) _, ?_⟩
  refine codeAny_builtin entry_set_contains ?_
  rw [Around.under_plainId (by decide +kernel)]
  unfold Builtin.«frozenset.__contains__» Builtin.Frozenset.oneOther
  simp only [List.isEmpty_nil, bind_assoc]
  unfold Builtin.Frozenset.addrOf Builtin.Frozenset.withSetAsKey setContains
  refine wpAny_bind (wpAny_pure ?_)
  try dsimp only
  refine wpAny_bind (wpAny_pure ?_)
  try dsimp only
  refine wpAny_bind (wpAny_tryCatch ?_)
  refine wpAny_holding ?_
  refine wpAny_bind ((strKind prog w).pyHash (strKind_is _ _ x t) ?_)
  refine wpAny_bind (wpAny_setFind_of (s := { s with toks := s.toks + 1 }) (strKind_is _ _ x t) rfl hS fun r hr => ?_)
  refine wpAny_pure ?_
  show wpAny _ _ (ret (Value.bool r.isSome)) _ _ _
  rw [hr]
  exact wpAny_pure (h _)
end
end Mine
end
section
open PySem PySem.W PySem.Spec PySem.Calls PyProof.Rows
set_option maxRecDepth 100000
set_option maxHeartbeats 2000000
namespace Mine
theorem l0_T3 : True := by
  k_with_none
  trivial
section
variable {prog : Program} {w : World} {A : Around} {s : Shared} {h₀ : Heap} {L : Addr} {m mg mb : Str → Option Value} {news : List (Addr × Obj)} {K : Frag} {p : Program} {loose : List Str} {mean : ExcName → Option Value}
  {R : Result → Shared → Prop} {name qual : Str} {params : Arguments} {body : List Stmt} {scope : Scope} {dV kV doc pm cdv ct oc : Value} {an od : Option Addr} {osl : Array (Option Value)} {f : Addr} {args : Args} {binds : List (Str × Value)}
theorem enterN (F : Fr h₀ L s.heap m) (X₀ : K.In h₀) (N : News h₀ L s.heap news) (T : Top p loose mean mg mb h₀)
    (ho : K.lookup f = some ⟨oc, od, .func (fnOf name qual params body scope dV kV doc pm an cdv ct), osl⟩) (hcd : codeIn K cdv qual = true) (hroom : A.depth < recursionLimit)
    (hbind : BindsTo s (fnOf name qual params body scope dV kV doc pm an cdv ct) args binds) (hloc : ∀ y ∈ binds, scope.names.lookup y.1 = some .local)
    (h : ∀ g L' h₁, Fr h₀ L g m → Fr g L' h₁ (fun y => binds.reverse.lookup y) → News g L' h₁ news → K.In g → Top p loose mean mg mb g → (∀ p ∈ news, p.1 < L') →
      wpAny (model prog w) (A.deeper (envOf qual scope L' f cdv)) (execs body (envOf qual scope L' f cdv))
        (fun fl s' => LeaveK h₀ L m g R (match fl with | .ret v => v | _ => .none) s')
        (fun e s' => wpAny (model prog w) (A.deeper (envOf qual scope L' f cdv)) (leaving (envOf qual scope L' f cdv) e) (fun _ s'' => R (.error e) s'') (fun e' s'' => R (.error e') s'') s')
        { s with heap := h₁, toks := s.toks + binds.length })
    (hco : scope.isCoroutine = false) (hgen : scope.isGenerator = false) (hk : scope.kind = .function)
    (hcell : ∀ x ∈ scope.names, x.2 ≠ .cell) : codeAny (model prog w) A (.call (.ref f) args) R s := by
  have nm : ∀ b o, h₀.get? b = some o → b ∉ news.map (·.1) := fun b o e q => by
    (refine ex1E (List.mem_map.mp q) fun p qq1 => ?_; refine and2E qq1 fun hp qq11 => ?_; try clear qq1; rcases qq11 with rfl)
    rw [(N p hp).2.2] at e; cases e
  have st : h₀.StaysIn (hideAll s.heap (news.map (·.1))) := fun b o e => hideAll_get _ (F.keep b o e) (nm b o e)
  (refine ex3E F.ns fun oL es ep qq3 => ?_; refine and4E qq3 fun hL hLd hLk hLf => ?_; try clear qq3)
  have nL : L ∉ news.map (·.1) := fun q => by
    (refine ex1E (List.mem_map.mp q) fun p qq1 => ?_; refine and2E qq1 fun hp e => ?_; try clear qq1)
    exact (N p hp).2.1 e
  have hLg := hideAll_get (news.map (·.1)) hL nL
  have FG : Fr h₀ L (hideAll s.heap (news.map (·.1))) m := ⟨⟨oL, es, ep, hLg, hLd, hLk, hLf⟩, st, F.above⟩
  have lv : ∀ v s', LeaveK h₀ L m (hideAll s.heap (news.map (·.1))) R v s' → R (.ok (.ret v)) s' := by
    (intro v s' qr2; (refine ex3E qr2 fun L' m' news' qq3 => ?_; try clear qr2; refine and3E qq3 fun F' N' k => ?_; try clear qq3))
    refine k ⟨⟨oL, es, ep, F'.keep L oL hLg, hLd, hLk, hLf⟩, fun b o e => F'.keep b o (st b o e), F.above⟩ fun p hp => ⟨(N' p hp).1, fun q => ?_, ?_⟩
    · have := (N' p hp).2.2; rw [q, hLg] at this; cases this
    · cases q : h₀.get? p.1 with
      | none => rfl
      | some o => have := (N' p hp).2.2; rw [st _ _ q] at this; cases this
  refine codeAny_call_def (fd := fnOf name qual params body scope dV kV doc pm an cdv ct) (body := body) (binds := binds) hroom ((X₀.keeps F.keep) _ _ ho) rfl (T.nolimit.keeps F.keep) (codeRec_of (X₀.keeps F.keep) hcd) rfl hbind hcell hloc (fun h₁ hns hk₁ => ?_) hco hgen hk
  exact wpAny_mono (h _ s.heap.objs.size h₁ FG ⟨hns, fun b o e => hk₁ b o (of_hideAll _ e), Nat.le_of_eq (hideAll_size _ _)⟩
    (fun p hp => ⟨hk₁ _ _ (N p hp).1, Nat.ne_of_lt (Heap.lt_size (N p hp).1), hideAll_none _ (List.mem_map_of_mem hp)⟩) (X₀.keeps st) (T.keeps st) (fun p hp => Heap.lt_size (N p hp).1)) (fun fl s' hl => lv _ _ hl) fun _ _ y => y
end
theorem gh_none' {h : Heap} {a : Addr} (e : (gh h).get? a = none) (n : a ≠ 198) : h.get? a = none := by
  cases q : h.get? a with
  | none => rfl
  | some o => rw [gh_ne q n] at e; cases e
end Mine
end
section
open PySem PySem.W PySem.Spec PySem.Calls PyProof.Rows
set_option maxRecDepth 100000
set_option maxHeartbeats 2000000
namespace Mine
theorem l0_T4 : True := by
  k_with_none
  k_with "q" => (all_goals first | assumption | with_unfolding_all exact rfl)
  k_with "ar" => with_reducible first | assumption | (apply Ar.le0; k_extra "q")
  trivial
noncomputable def LiIs (o : Obj) (l : Addr) (i : Nat) : Prop := o.cls = .type "list_iterator" ∧ o.data = .fields #[.ref l, .int i 0]
section
variable {prog : Program} {w : World} {A : Around} {E : Value → Shared → Prop} {s : Shared} {h₀ : Heap} {L I l : Addr} {m : Str → Option Value} {news : List (Addr × Obj)} {g : Obj → List (Addr × Obj)} {vs : List Value} {i : Nat} {io : Obj}
theorem LiIs.at {h : Heap} (x : LiIs io l i) (e : h.get? I = some io) : h.IsListIter I l i := ⟨io, e, x.1, x.2⟩
theorem iter_listK {Q : Value → Shared → Prop} (F : Fr h₀ L s.heap m) (N : News h₀ L s.heap news) (hl : s.heap.IsList l vs.toArray)
    (h : ∀ (I : Addr) h' oI, Fr h₀ L h' m → News h₀ L h' ((I, oI) :: news) → (∀ p ∈ news, p.1 < I) → LiIs oI l 0 → Q (.ref I) { s with heap := h' }) :
    wpAny (model prog w) A (call (.builtin "iter") [.ref l]) Q E s := by
  refine call_function_entry (by decide +kernel) (by decide +kernel) kdk_entry_iter (kdk_args_iter _) ?_
  unfold Builtin.«iter»
  refine wpAny_bind (m := someArgs "iter" 1 2 _) (wpAny_of_eq (a := [Value.ref l]) (by first | rfl | kernel_rfl!) ?_)
  show wpAny _ _ (pyIter (.ref l) >>= _) _ _ _
  refine wpAny_bind (wpAny_pyIter_list hl ?_)
  exact wpAny_pure ⟨_, rfl, h _ _ _ (F.push _) (News.push F N _ rfl) (fun q hq => Heap.lt_size (N q hq).1) ⟨rfl, rfl⟩⟩
theorem next_listK {Q : Value → Shared → Prop} {x : Value} (F : Fr h₀ L s.heap m) (N : News h₀ L s.heap news) (U : UpdF I io news g) (hi : LiIs io l i) (hl : s.heap.IsList l vs.toArray) (hx : vs[i]? = some x)
    (h : ∀ h' o', Fr h₀ L h' m → News h₀ L h' (g o') → LiIs o' l (i + 1) → Q x { s with heap := h' }) :
    wpAny (model prog w) A (call (.builtin "next") [.ref I]) Q E s := by
  (refine ex2E U.split fun pre post qq2 => ?_; refine and4E qq2 fun hnl hg a b => ?_; try clear qq2)
  have hm := N (I, io) (by rw [hnl]; exact List.mem_append_right _ (.head _))
  have hit := hi.at hm.1
  refine call_function_entry (by decide +kernel) (by decide +kernel) kdk_entry_next (kdk_args_next _) ?_
  unfold Builtin.«next»
  refine wpAny_bind (m := someArgs "next" 1 2 _) (wpAny_of_eq (a := [Value.ref I]) (by first | rfl | kernel_rfl!) ?_)
  dsimp only
  refine wpAny_bind (wpAny_specialOf (name := Str.ofString "__next__") hit.typeIs slot_listiter_next.lookup ?_)
  refine wpAny_ite_split (fun hab => absurd hab (by decide)) (fun _ => ?_)
  (refine ex1E (id hit) fun o qq1 => ?_; refine and3E qq1 fun ho hc hd => ?_; try clear qq1)
  (refine ex1E hl fun ol qq1 => ?_; try clear hl; refine and3E qq1 fun hol ux qq12 => ?_; try clear qq1; refine ex1E qq12 fun nl hdl => ?_; try clear qq12)
  refine wpAny_bind (wpAny_callSpecial?_slot (name := Str.ofString "__next__") hit.typeIs slot_listiter_next
    (wpAny_call_entry slot_listiter_next hit.typeIs entry_listiter_next ?_ (args_listiter_next _)))
  show wpAny _ _ (field (.ref I) 0 >>= _) _ _ s
  refine wpAny_bind (wpAny_field ho hd (x := .ref l) rfl ?_)
  show wpAny _ _ (if (Value.ref l == Value.none) = true then _ else _) _ _ s
  rw [if_neg (show ¬ ((Value.ref l == Value.none) = true) from Bool.false_ne_true)]
  show wpAny _ _ (field (.ref I) 1 >>= _) _ _ s
  refine wpAny_bind (wpAny_field ho hd (x := .int i 0) rfl ?_)
  show wpAny _ _ (seqItems? (.ref l) >>= _) _ _ s
  refine wpAny_bind (wpAny_seqItems hol hdl ?_)
  simp only [Int.toNat_natCast, List.getElem?_toArray, hx]
  refine wpAny_bind (wpAny_setField ho hd (by simp) (wpAny_pure ⟨x, rfl, ?_⟩))
  have hs := Heap.SameBut.update (h := s.heap) (a := I) (f := Obj.mapFields fun x => x.setIfInBounds 1 (.int (↑i + 1) 0))
  have ho' := Heap.get?_update_self (Obj.mapFields fun x => x.setIfInBounds 1 (.int (↑i + 1) 0)) ho (Obj.isFreed_of_fields (Obj.data_mapFields hd _))
  exact wpAny_pure ⟨_, rfl, h _ _ (F.change hs hm.2.1 hm.2.2) (hg _ ▸ (show News h₀ L s.heap (pre ++ (I, io) :: post) from hnl ▸ N).setIn a b hs ho') ⟨(Obj.cls_mapFields ..).trans hc, by rw [Obj.data_mapFields hd]; simp [rawInt]⟩⟩
theorem next_stopK {Q : Value → Shared → Prop} (hh : A.handled = none) (F : Fr h₀ L s.heap m) (N : News h₀ L s.heap news) (U : UpdF I io news g) (hi : LiIs io l i) (hl : s.heap.IsList l vs.toArray) (hx : vs[i]? = none)
    (h : ∀ h₁ h' e o', Fr h₀ L h₁ m → News h₀ L h₁ (g o') → Heap.MadeExcOf h₁ h' e (.type "StopIteration") [] → E (.ref e) { s with heap := h' }) :
    wpAny (model prog w) A (call (.builtin "next") [.ref I]) Q E s := by
  (refine ex2E U.split fun pre post qq2 => ?_; refine and4E qq2 fun hnl hg a b => ?_; try clear qq2)
  have hm := N (I, io) (by rw [hnl]; exact List.mem_append_right _ (.head _))
  have hit := hi.at hm.1
  refine call_function_entry (by decide +kernel) (by decide +kernel) kdk_entry_next (kdk_args_next _) ?_
  unfold Builtin.«next»
  refine wpAny_bind (m := someArgs "next" 1 2 _) (wpAny_of_eq (a := [Value.ref I]) (by first | rfl | kernel_rfl!) ?_)
  dsimp only
  refine wpAny_bind (wpAny_specialOf (name := Str.ofString "__next__") hit.typeIs slot_listiter_next.lookup ?_)
  refine wpAny_ite_split (fun hab => absurd hab (by decide)) (fun _ => ?_)
  (refine ex1E (id hit) fun o qq1 => ?_; refine and3E qq1 fun ho hc hd => ?_; try clear qq1)
  (refine ex1E hl fun ol qq1 => ?_; try clear hl; refine and3E qq1 fun hol ux qq12 => ?_; try clear qq1; refine ex1E qq12 fun nl hdl => ?_; try clear qq12)
  refine wpAny_bind (wpAny_callSpecial?_slot (name := Str.ofString "__next__") hit.typeIs slot_listiter_next
    (wpAny_call_entry slot_listiter_next hit.typeIs entry_listiter_next ?_ (args_listiter_next _)))
  show wpAny _ _ (field (.ref I) 0 >>= _) _ _ s
  refine wpAny_bind (wpAny_field ho hd (x := .ref l) rfl ?_)
  show wpAny _ _ (if (Value.ref l == Value.none) = true then _ else _) _ _ s
  rw [if_neg (show ¬ ((Value.ref l == Value.none) = true) from Bool.false_ne_true)]
  show wpAny _ _ (field (.ref I) 1 >>= _) _ _ s
  refine wpAny_bind (wpAny_field ho hd (x := .int i 0) rfl ?_)
  show wpAny _ _ (seqItems? (.ref l) >>= _) _ _ s
  refine wpAny_bind (wpAny_seqItems hol hdl ?_)
  simp only [Int.toNat_natCast, List.getElem?_toArray, hx]
  refine wpAny_bind (wpAny_rule (wpAny_bind (wpAny_setField ho hd (by simp) ?_)))
  have hs := Heap.SameBut.update (h := s.heap) (a := I) (f := Obj.mapFields fun x => x.setIfInBounds 0 .none)
  have ho' := Heap.get?_update_self (Obj.mapFields fun x => x.setIfInBounds 0 Value.none) ho (Obj.isFreed_of_fields (Obj.data_mapFields hd _))
  have F₁ := F.change hs hm.2.1 hm.2.2
  have N₁ := (show News h₀ L s.heap (pre ++ (I, io) :: post) from hnl ▸ N).setIn a b hs ho'
  show wpAny _ _ (newExc (.type "StopIteration") [] >>= _) _ _ _
  refine wpAny_bind ?_
  simp -iota only [newExc, newTuple]
  refine wpAny_bind (wpAny_newObj_type ?_ (by size_fits))
  refine wpAny_bind (m := firstArgMember _ _) (wpAny_of_eq (a := Value.none) (by first | rfl | (simp -iota only [firstArgMember]; rfl)) ?_)
  refine wpAny_newObj_type ?_ (by size_fits)
  simp -iota only [raiseNew]
  refine wpAny_bind (wpAny_handled ?_)
  rw [show A.in1.handled = none from hh]
  refine wpAny_bind (wpAny_pure (wpAny_throw ?_))
  have hsz := Heap.size_push (s.heap.update I (Obj.mapFields fun x => x.setIfInBounds 0 Value.none)) { cls := .type "tuple", data := .seq ([] : List Value).toArray }
  have h := h (s.heap.update I (Obj.mapFields fun x => x.setIfInBounds 0 Value.none)) _ _ _ F₁ (hg _ ▸ N₁) ⟨fun b o e => Heap.get?_push_of_some _ (Heap.get?_push_of_some _ e), Heap.get?_none_of_le (by rw [hsz]; exact Nat.le_succ _), _, Heap.get?_push_size _ rfl, Heap.get?_none_of_le (Nat.le_refl _), Heap.get?_push_of_some _ (Heap.get?_push_size _ rfl)⟩
  exact h
end
noncomputable abbrev SrcA := @PyProof.Rows.LCg.SrcAt
theorem sa_list {h₀ h : Heap} {L a : Addr} {m : Str → Option Value} {its : Array Value} {nl all : List (Addr × Obj)} (hs : SrcA h₀ a its nl) (F : Fr h₀ L h m) (N : News h₀ L h all) (sub : ∀ p ∈ nl, p ∈ all) : h.IsList a its :=
  hs.list F.keep fun p hp => N p (sub p hp)
theorem sa_mono {h₀ : Heap} {a : Addr} {its : Array Value} {nl all : List (Addr × Obj)} (hs : SrcA h₀ a its nl) (sub : ∀ p ∈ nl, p ∈ all) : SrcA h₀ a its all :=
  hs.imp id fun ⟨o, hm, r⟩ => ⟨o, sub _ hm, r⟩
theorem sa_up {h₀ g : Heap} {a : Addr} {its : Array Value} {nl : List (Addr × Obj)} (hs : SrcA h₀ a its nl) (k : ∀ b o, h₀.get? b = some o → g.get? b = some o) : SrcA g a its nl :=
  hs.imp (fun ⟨o, e, r⟩ => ⟨o, k _ _ e, r⟩) id
end Mine
end
section
open PySem PySem.W PySem.Spec PySem.Calls PyProof.Rows
set_option maxRecDepth 100000 
set_option maxHeartbeats 2000000 
namespace Mine
theorem lines_C12_0 : True := by
  k_with_none
  k_with "q" => (all_goals first | assumption | with_unfolding_all exact rfl)
  k_with "ar" => with_reducible first | assumption | (apply Ar.rm2; k_extra "q") | (apply Ar.rl0; k_extra "q") | (apply Ar.rl1; k_extra "q") | (apply Ar.snl; k_extra "q") | (apply Ar.pt0; k_extra "q") | (apply Ar.nel; k_extra "q") | (apply Ar.neg_; k_extra "q") | (apply Ar.pg0; k_extra "q") | (apply Ar.pg1e; k_extra "q") | (apply Ar.pg2e; k_extra "q")
  k_with "storeName" => (
      k_here
      k_dflt (refine storeL (by k_asm) (by k_asm) ?_ (by rfl) (by rfl))
      k_whole
      intro m1 h' tk F' N'
      (try k_sweep))
  k_with "ite" => first | with_reducible refine ite_tt ?_ | with_reducible refine ite_ff ?_
  k_with "execs cons" => first | (with_reducible refine seqT1 ?_; intro tk) | (with_reducible refine seqT ?_; intro Kc tk hKc) | (with_reducible refine blkT ?_; intro Qd tk hQd)
  k_with "Nxt" => (k_dflt (dsimp only [Nxt]))
  k_with "Kont" => first | (k_dflt (refine hKc _ _ ?_; try clear hKc)) | (k_dflt (refine hQd _ _ ?_; try clear hQd)) | (k_dflt (refine hQc _ _ ?_; try clear hQc)) | (k_dflt (refine kont_app (by assumption) ?_))
  k_with "mine enter" => (
      (case k3 => assumption)
      (case k5 => assumption)
      (case kT => assumption)
      (case k6 => k_is)
      (case k7 => k_is)
      (case k8 => (dsimp only [aA]; omega))
      (case k9 => exact BindsTo.of_eq rfl)
      (case c5 => decide)
      (case kB => exact locs rfl)
      (case c2 => exact rfl)
      (case c3 => exact rfl)
      (case c4 => exact rfl)
      (case' kk => skip)
      k_whole
      intro L' h' ps FL NL hps l0 lL gL
      (try dsimp only)
      (try k_fold))
  k_with "mine n" => (
      (case k6 => k_is)
      (case k7 => k_is)
      (case k8 => ((try dsimp +zetaDelta only [aA, Around.deeper]); (try rw [depth_under_make]); omega))
      (case k9 => exact BindsTo.of_eq rfl)
      (case kB => exact locs rfl)
      (case c2 => exact rfl)
      (case c3 => exact rfl)
      (case c4 => exact rfl)
      (case c5 => decide))
  k_with "call builtin:iter" => (
      k_here
      k_dflt (refine iter_listK (by k_asm) (by k_asm) (sa_list hl2 (by k_asm) (by k_asm) (by intro p hp; repeat (first | exact hp | apply List.Mem.tail))) ?_)
      intro I h' oI F' N' l4 hI
      (try k_lt l4))
  trivial
theorem lx_C12_0 : True := by
  k_with "k_all" => (first | exact hnx | exact hndx)
  trivial
noncomputable abbrev ffObj (dx B I : Addr) : Obj := { cls := .ref 125, dict := some dx, data := .plain, slots := #[some (.ref B), some (.ref I)] }
theorem new_ff (w : World) {mean : ExcName → Option Value} {mg mb : Str → Option Value} {A : Around} {E : Value → Shared → Prop} {s : Shared} {h₀ : Heap} {L B l : Addr} {m : Str → Option Value} {news : List (Addr × Obj)} {xv : List Value} {Q : Value → Shared → Prop}
    (hh : A.handled = none) (hdp : A.depth + 5 ≤ recursionLimit) (hun : A.units + 100 ≤ cLine) (F : Fr h₀ L s.heap m) (X : (hd.heap_1_1 w.params).In h₀) (T : Top topProg LO mean mg mb h₀) (N : News h₀ L s.heap news) (hl : SrcA h₀ l xv.toArray news)
    (h : ∀ (x dx I : Addr) (oI : Obj) h' tk, Fr h₀ L h' m → News h₀ L h' ((I, oI) :: (x, ffObj dx B I) :: (dx, emptyDict) :: news) → LiIs oI l 0 → (∀ p ∈ news, p.1 < dx) → @LT.lt Nat _ dx x → @LT.lt Nat _ x I → Q (.ref x) { s with heap := h', toks := tk }) :
    wpAny (model PySem.Challenge.rw_ij0107_01.row.prog w) A (call (.ref 125) [.ref B, .ref l]) Q E s := by

  revert X T
  k_fill
  intro X T
  refine wpAny_call (make_K (rest := [.ref B, .ref l]) (kw := []) F N (X.keeps F.keep) (by k_is) (by k_is) (by k_is) ?_)
  intro x dx h' F' N' l1 l2
  refine' enterN (binds := [(Str.ofString "self", .ref x), (Str.ofString "function", .ref B), (Str.ofString "iterable", .ref l)]) F' X N' T ?k6 ?k7 ?k8 ?k9 ?kB ?kk ?c2 ?c3 ?c4 ?c5
  walk_at "mine n"
  intro g L2 h2 FG F2 N2 XG TG l3
  (try k_lt l3)
  have hl2 : SrcA g l xv.toArray ((x, instObj 125 dx) :: (dx, emptyDict) :: news) := sa_mono (sa_up hl FG.keep) (by intro p hp; exact .tail _ (.tail _ hp))
  have hnx : ∀ p ∈ news, p.1 ≠ x := fun p hp => Nat.ne_of_lt (Nat.lt_trans (l1 p hp) l2)
  have l2' : @LT.lt Nat _ dx x := l2
  have hndx : ∀ p ∈ news, p.1 ≠ dx := fun p hp => Nat.ne_of_lt (l1 p hp)
  k_steps
  exact h x dx I oI _ _ (by k_asm) (by k_asm) hI l1 l2' (by omega)
section
variable {prog : Program} {w : World} {A : Around} {E : Value → Shared → Prop} {s : Shared} {h₀ : Heap} {L : Addr} {m : Str → Option Value} {news : List (Addr × Obj)}
theorem set_strsK {l : Addr} {vs : List Value} {ys : List Str} {Q : Value → Shared → Prop} (F : Fr h₀ L s.heap m) (N : News h₀ L s.heap news) (hh : A.handled = none) (hl : s.heap.IsList l vs.toArray) (hA : Are IsS vs ys) (hz : vs.length ≤ 900)
    (h : ∀ S oS n h' tk, Fr h₀ L h' m → News h₀ L h' ((S, oS) :: news) → oS.SetObjOf (strKind prog w) (fun k => ys.contains k) n → n ≤ 1000 → (∀ p ∈ news, p.1 < S) → Q (.ref S) { s with heap := h', toks := tk }) :
    wpAny (model prog w) A (call (.type "set") [.ref l]) Q E s := by
  refine call_set_strs hh hl hA hz fun h' tk hS hk => ?_
  (refine ex1E hS fun n qq1 => ?_; try clear hS; refine and2E qq1 fun hn hS => ?_; try clear qq1)
  (refine ex1E hS.objOf fun o qq1 => ?_; refine and2E qq1 fun ho hso => ?_; try clear qq1)
  refine h _ o n h' tk (F.keeps hk) (fun p hp => ?_) hso hn fun p hp => Heap.lt_size (N p hp).1
  rcases List.mem_cons.mp hp with rfl | hp
  · exact ⟨ho, Nat.ne_of_gt F.ns.lt, next_is_new F⟩
  · exact ⟨hk _ _ (N p hp).1, (N p hp).2⟩
theorem setS_of {h : Heap} {S : Addr} {oS : Obj} {ys : List Str} {n : Nat} (e : h.get? S = some oS) (hso : oS.SetObjOf (strKind prog w) (fun k => ys.contains k) n) (hn : n ≤ 1000) : SetS prog w h S ys :=
  ⟨n, hn, hso.setOf e (by unfold scanBound; omega)⟩
theorem get_containsK {S : Addr} {oS : Obj} {ys : List Str} {n : Nat} {Q : Value → Shared → Prop} (F : Fr h₀ L s.heap m) (N : News h₀ L s.heap news) (hm : (S, oS) ∈ news) (hso : oS.SetObjOf (strKind prog w) (fun k => ys.contains k) n) (hn : n ≤ 1000)
    (h : ∀ B h' k, Fr h₀ L h' m → News h₀ L h' ((B, bctObj S) :: news) → (∀ p ∈ news, p.1 < B) → Q (.ref B) { s with heap := h', toks := k }) :
    wpAny (model prog w) A (getAttr (.ref S) "__contains__" true) Q E s := by
  refine get_contains (setS_of (N _ hm).1 hso hn) fun k => h s.heap.objs.size _ k (F.keeps fun _ _ e => Heap.get?_push_of_some _ e) (fun p hp => ?_) fun p hp => Heap.lt_size (N p hp).1
  rcases List.mem_cons.mp hp with rfl | hp
  · exact ⟨Heap.get?_push_size _ rfl, Nat.ne_of_gt F.ns.lt, next_is_new F⟩
  · exact ⟨Heap.get?_push_of_some _ (N p hp).1, (N p hp).2⟩
end
theorem lines_C12_1 : True := by
  k_with "call type:set" => (
      k_here
      k_dflt (refine set_strsK (by k_asm) (by k_asm) (by exact rfl) ⟨_, Fr.keep (L := L') (by k_asm) _ _ hLs, rfl, _, rfl⟩ hys hyz ?_)
      intro S oS nS h' tk' F' N' hso hsn l1
      (try k_lt l1))
  k_with "getAttr ref" => (
      k_here
      with_reducible show wpAny _ _ (getAttr (Value.ref _) (PySem.Str.ofString "__contains__") _) _ _ _
      k_dflt (refine get_containsK (by k_asm) (by k_asm) (by k_mem) hso hsn ?_)
      intro B h' k' F' N' l1
      (try k_lt l1))
  k_with "call ref" => (
      k_here
      k_dflt (refine new_ff w (by exact rfl) (by dsimp +zetaDelta only [aA, Around.deeper]; omega) (by dsimp +zetaDelta only [aA, Around.deeper]; omega) (by k_asm) (by k_asm) (by k_asm) (by k_asm) (.inl ⟨_, hLm, rfl, _, rfl⟩) ?_)
      intro x dx I oI h' tk' F' N' hI l1 l2 l3
      (try k_lt l1))
  trivial
inductive DiffPost (w : World) (Lm : Addr) (ys : List Str) (h h' : Heap) : Value → Prop
  | mk (X dx I B S : Addr) (oI oS : Obj) (n : Nat) (eX : h'.get? X = some (ffObj dx B I)) (eI : h'.get? I = some oI) (eB : h'.get? B = some (bctObj S)) (eS : h'.get? S = some oS) (ed : h'.get? dx = some emptyDict) (hI : LiIs oI Lm 0)
    (hso : oS.SetObjOf (strKind PySem.Challenge.rw_ij0107_01.row.prog w) (fun k => ys.contains k) n) (hsn : n ≤ 1000) (o1 : @LT.lt Nat _ S B) (o2 : @LT.lt Nat _ B dx) (o3 : @LT.lt Nat _ dx X) (o4 : @LT.lt Nat _ X I) (nS : h.get? S = none) (nB : h.get? B = none) (nd : h.get? dx = none) (nX : h.get? X = none) (nI : h.get? I = none) : DiffPost w Lm ys h h' (.ref X)
theorem c_diff (w : World) (Lm Ls : Addr) (xv yv : List Value) (km ks : Nat) (ys : List Str) (hys : Are IsS yv ys) (hyz : yv.length ≤ 900) :
    Pure w 8 200 172 [.ref Lm, .ref Ls] (fun h => h.get? Lm = some (listOf xv.toArray km) ∧ h.get? Ls = some (listOf yv.toArray ks)) (DiffPost w Lm ys) := by
  unfold Pure
  k_fill
  intro mean mg mb dp un fr gd Q E s X T hT hp hdp hun hret
  refine' enter (binds := [(Str.ofString "minuend", .ref Lm), (Str.ofString "subtrahend", .ref Ls)]) ?k3 ?k5 ?kT ?k6 ?k7 ?k8 ?k9 ?kB ?kk ?c2 ?c3 ?c4 ?c5
  walk_at "mine enter"
  refine entL (by first | assumption | with_unfolding_all passes_own) ?_
  intro A1 e1 Qc Ec hQc hEc
  have l0' : @LT.lt Nat _ 198 L' := l0
  have hLm : (gh s.heap).get? Lm = some (listOf xv.toArray km) := gh_keep hT hp.1 (by intro e; cases e)
  have hLs : (gh s.heap).get? Ls = some (listOf yv.toArray ks) := gh_keep hT hp.2 (by intro e; cases e)
  k_steps
  rename News _ _ _ _ => N9
  have none_of : ∀ {a : Addr} {o : Obj}, (a, o) ∈ [(I, oI), (x, ffObj dx B I), (dx, emptyDict), (B, bctObj S), (S, oS), (198, tabObj ps)] → @Ne Nat a 198 → s.heap.get? a = none := fun hm hn => gh_none' (N9 _ hm).2.2 hn
  exact leaveP_in (by k_asm) N9 (by k_mem) (by assumption) fun G T' => hret _ _ _ G T' ⟨x, dx, I, B, S, oI, oS, nS, N9.get (by k_mem), N9.get (by k_mem), N9.get (by k_mem), N9.get (by k_mem), N9.get (by k_mem), hI, hso, hsn,
    by omega, by omega, l2, l3, none_of (by k_mem) (by omega), none_of (by k_mem) (by omega), none_of (by k_mem) (by omega), none_of (by k_mem) (by omega), none_of (by k_mem) (by omega)⟩
end Mine
end
section
open PySem PySem.W PySem.Spec PySem.Calls PyProof.Rows
set_option maxRecDepth 100000 
set_option maxHeartbeats 2000000 
namespace Mine

theorem lines_C13_0 : True := by
  k_with_none
  k_with "q" => (all_goals first | assumption | with_unfolding_all exact rfl)
  k_with "ar" => with_reducible first | assumption | (apply Ar.rl0; k_extra "q") | (apply Ar.dec1'; k_extra "q") | (apply Ar.ltn'; k_extra "q") | (apply Ar.nel; k_extra "q") | (apply Ar.ch3; k_extra "q") | (apply Ar.ch4; k_extra "q") | (apply Ar.ch5; k_extra "q")
  k_with "ite" => first | with_reducible refine ite_tt ?_ | with_reducible refine ite_ff ?_
  k_with "execs cons" => first | with_reducible refine seq_cut1 ?_ | (with_reducible refine seq_cut ?_; intro Kc hKc) | (with_reducible refine blk_cut ?_; intro Qd hQd)
  k_with "Nxt" => (k_dflt (dsimp only [Nxt]))
  k_with "Kont" => first | (k_dflt (refine hKc _ _ ?_; try clear hKc)) | (k_dflt (refine hQd _ _ ?_; try clear hQd)) | (k_dflt (refine hQc _ _ ?_; try clear hQc)) | (k_dflt (refine kont_app (by assumption) ?_))
  k_with "mine enter" => (
      (case k3 => assumption)
      (case k5 => assumption)
      (case kT => assumption)
      (case k6 => k_is)
      (case k7 => k_is)
      (case k8 => (dsimp only [aA]; omega))
      (case k9 => exact BindsTo.of_eq rfl)
      (case c5 => decide)
      (case kB => exact locs rfl)
      (case c2 => exact rfl)
      (case c3 => exact rfl)
      (case c4 => exact rfl)
      (case' kk => skip)
      k_whole
      intro L' h' ps FL NL hps l0 lL gL
      (try dsimp only)
      (try k_fold))
  trivial
theorem sub_stop : isSubtype (.type "StopIteration") (.type "StopIteration") = pure true := by rw [isSubtype_type]; kernel_rfl
theorem stop_here {M : Model} {A : Around} {Q : Option Value → Shared → Prop} {E : Value → Shared → Prop} {s : Shared} {h₀ g : Heap} {L L2 e t : Addr} {m : Str → Option Value} {env : Env} {outer : List Env} {vs : List Value} {news : List (Addr × Obj)} {h₁ : Heap}
    (R : RaisedK h₀ (env :: outer) e (.type "StopIteration") t vs news s.heap) (hsm : g.UpToSlots s.heap) (F : Fr h₀ L g m) (N : News g L2 h₁ news)
    (k : Fr h₀ L s.heap m → News h₀ L s.heap news → Q none s) : OwitStop M A Q E (.ref e) s := by
  (refine and2E R fun qq0 ux => ?_; try clear R; refine ex1E qq0 fun B qq01 => ?_; try clear qq0; refine and4E qq01 fun hB hl hfl ux => ?_; try clear qq01)
  have hf' := flyingW_base hB hfl
  (refine ex1E hf'.there fun ob qq1 => ?_; refine and2E qq1 fun hob hobc => ?_; try clear qq1)
  have hT : s.TypeIs (.ref e) "StopIteration" := (show ∃ o, s.heap.get? e = some o ∧ o.cls = .type "StopIteration" from ⟨ob, hob, hobc⟩)
  unfold OwitStop
  refine wpAny_isInstance hT sub_stop ?_
  show (if true = true then Q none s else E (.ref e) s)
  rw [if_pos rfl]
  refine k (F.of_stays hf'.1 hsm) fun q hq => ⟨hfl.1 _ _ (hl q hq).1, fun z => ?_, (hl q hq).2⟩
  (refine ex3E F.ns fun oL ux ux qq3 => ?_; refine and2E qq3 fun hL ux => ?_; try clear qq3)
  have := (N q hq).2.2
  rw [z, hL] at this
  cases this
structure FS where
  i : Nat
  oI : Obj
noncomputable def ffLed (I X dx B S : Addr) (oS : Obj) (news : List (Addr × Obj)) (c : FS) : List (Addr × Obj) := (I, c.oI) :: (X, ffObj dx B I) :: (dx, emptyDict) :: (B, bctObj S) :: (S, oS) :: news
theorem lines_C13_1 : True := by
  k_with "mine n" => (
      (case k6 => k_is)
      (case k7 => k_is)
      (case k8 => ((try dsimp only [aA, Around.deeper]); omega))
      (case k9 => exact BindsTo.of_eq rfl)
      (case kB => exact locs rfl)
      (case c2 => exact rfl)
      (case c3 => exact rfl)
      (case c4 => exact rfl)
      (case c5 => decide))
  k_with "exec While Constant cons nil" => (refine stop_intro ?_)
  trivial
section
variable {prog : Program} {w : World} {A : Around} {E : Value → Shared → Prop} {s : Shared}
noncomputable def BctP (b S : Addr) (h : Heap) : Prop := h.get? b = some (bctObj S)
theorem callWith_C {env : Env} {pos : Pos} {first : List Value} {b S : Addr} {e : Expr} {rest : List Expr} {h₀ : Heap} {L : Addr} {news : List (Addr × Obj)} {Q : Value → Shared → Prop} (_N : News h₀ L s.heap news) (_q : (b, bctObj S) ∈ news)
    (h : wpAny (model prog w) A (spliced (backTo pos (starEach (e :: rest) env))) (fun vs s₁ => BctP b S s₁.heap ∧ wpAny (model prog w) A (call (.ref b) (first ++ vs)) Q E s₁) E s)
    (he : starEach (e :: rest) env = (false, eval e env) :: starEach rest env := by rfl) (hplain : (backTo pos (starEach rest env)).any (·.1) = false := by rfl) :
    wpAny (model prog w) A (callWith pos (.ref b) first (backTo pos (starEach (e :: rest) env)) []) Q E s := by
  rw [he] at h ⊢
  exact callWith_of (P := BctP b S) (by show ((false || (backTo pos (starEach rest env)).any (·.1)) || false) = false; rw [hplain]; rfl) (fun h X => ⟨.machine, .inr (.inl rfl), (Looks.ld (part := none) X).andThen .now⟩) (evalArgs_plain h)
theorem bctP {b S : Addr} {h₀ h : Heap} {L : Addr} {news : List (Addr × Obj)} {P : Prop} (N : News h₀ L h news) (q : (b, bctObj S) ∈ news) (hp : P) : BctP b S h ∧ P := ⟨(N _ q).1, hp⟩
theorem call_containsB {B S : Addr} {ys : List Str} {x : Str} {t : Tok} {Q : Value → Shared → Prop} {b : Bool} (eb : s.heap.get? B = some (bctObj S)) (hS : SetS prog w s.heap S ys) (hb : ys.contains x = b) (h : ∀ k, Q (.bool b) { s with toks := k }) :
    wpAny (model prog w) A (call (.ref B) [.str x t]) Q E s := call_contains eb hS (by rw [hb]; exact h)
end
theorem lines_C13_2 : True := by
  k_with "callWith ref" => (
      k_here
      with_reducible show wpAny _ _ (callWith _ (Value.ref _) _ _ _) _ _ _
      k_dflt (refine' callWith_C ?k1 ?k2 ?_; (case k1 => k_asm); (case k2 => k_mem); k_whole))
  k_with "And" => (
      k_here
      k_dflt (refine' bctP ?k1 ?k2 ?_; (case k1 => k_asm); (case k2 => k_mem); k_whole))
  k_with "call ref" => (
      k_here
      k_dflt (refine call_containsB (News.get (L := L2) (h₀ := g) (by k_asm) (by k_mem)) (setS_of (News.get (L := L2) (h₀ := g) (by k_asm) (by k_mem)) hso hn) hyc ?_)
      intro k')
  trivial
theorem lx_C13_0 : True := by
  k_with "k_all" => (exact off)
  trivial
theorem lines_C13_3 : True := by
  k_with "call builtin:next" => (
      k_here
      k_dflt (first
      | (refine next_listK (by k_asm) (by k_asm) (by k_updF) hJ (sa_list hl3 (by k_asm) (by k_asm) (by intro p hp; repeat (first | exact hp | apply List.Mem.tail))) hxj ?_; intro h' o' F' N' hJ')
      | (refine next_stopK (by exact hh) (by k_asm) (by k_asm) (by k_updF) hJ (sa_list hl3 (by k_asm) (by k_asm) (by intro p hp; repeat (first | exact hp | apply List.Mem.tail))) hxj ?_; intro h5 h6 e5 o5 F5 N5 hE5))
      (try dsimp only at *))
  trivial
theorem ff_next (w : World) {mean : ExcName → Option Value} {mg mb : Str → Option Value} {A A₀ : Around} {E : Value → Shared → Prop} {s : Shared} {h₀ : Heap} {L I X dx B S l : Addr} {m : Str → Option Value} {news : List (Addr × Obj)} {env : Env} {outer : List Env} {oI oS : Obj} {xv : List Value} {xs ys : List Str} {i n : Nat} {Q : Option Value → Shared → Prop}
    (XK : (hd.heap_1_1 w.params).In h₀) (T : Top topProg LO mean mg mb h₀) (hh : A.handled = none) (hdp : A.depth + 5 ≤ recursionLimit) (hun : A.units + 100 ≤ cLine) (BL : Below A₀ h₀ outer h₀) (hA : A.frames = some (env :: outer)) (hf : env.frame = some L) (hke : env.scope.kind = .function)
    (F : Fr h₀ L s.heap m) (N : News h₀ L s.heap (ffLed I X dx B S oS news ⟨i, oI⟩)) (ho : @LT.lt Nat _ S B ∧ @LT.lt Nat _ B dx ∧ @LT.lt Nat _ dx X ∧ @LT.lt Nat _ X I) (off : ∀ p ∈ news, @Ne Nat p.1 I)
    (hl : SrcA h₀ l xv.toArray news) (hI : LiIs oI l i) (hx : Are IsS xv xs) (hso : oS.SetObjOf (strKind PySem.Challenge.rw_ij0107_01.row.prog w) (fun k => ys.contains k) n) (hn : n ≤ 1000) (hi : i ≤ xv.length)
    (item : ∀ j x t oI' h' tk, i ≤ j → xs[j]? = some x → ys.contains x = false → (∀ k z, i ≤ k → k < j → xs[k]? = some z → ys.contains z = true) → xv[j]? = some (.str x t) → LiIs oI' l (j + 1) → Fr h₀ L h' m → News h₀ L h' (ffLed I X dx B S oS news ⟨j + 1, oI'⟩) → Q (some (.str x t)) { s with heap := h', toks := tk })
    (done : ∀ oI' h' tk, (∀ k z, i ≤ k → xs[k]? = some z → ys.contains z = true) → Fr h₀ L h' m → News h₀ L h' (ffLed I X dx B S oS news ⟨xv.length, oI'⟩) → Q none { s with heap := h', toks := tk }) :
    wpAny (model PySem.Challenge.rw_ij0107_01.row.prog w) A (pyNext (.ref X)) Q E s := by
  (refine and4E ho fun o1 o2 o3 o4 => ?_; try clear ho)
  revert XK T
  k_fill
  intro XK T
  have hinst : InstAt s.heap X (ffObj dx B I) 125 (some emptyDict) := by
    exact InstAt.of_news N (.tail _ (.head _)) (.tail _ (.tail _ (.head _)))
  refine owit_next F XK hinst (by k_is) (by k_is) (wpAny_call ?_)
  refine' code_def (binds := [(Str.ofString "self", .ref X)]) BL F XK N T hA hf hke ?k6 ?k7 ?k8 ?k9 ?kB ?kk ?c2 ?c3 ?c4 ?c5
  walk_at "mine n"
  intro g L2 h2 FG F2 N2 BG XG TG
  dsimp only [ffLed] at N2
  have hl3 : SrcA g l xv.toArray news := sa_up hl FG.keep
  k_steps
  unfold Stop
  refine ksw_while (ffLed I X dx B S oS news) (fun _ => []) (fun _ => True) [Str.ofString "item"] (fun c => LiIs c.oI l c.i ∧ i ≤ c.i ∧ c.i ≤ xv.length ∧ ∀ k z, i ≤ k → k < c.i → xs[k]? = some z → ys.contains z = true) (fun c => xv.length + 1 - c.i) ⟨i, oI⟩ (by k_asm) (by k_asm) trivial (by intro p hp; cases hp) ⟨hI, Nat.le_refl _, hi, fun k z h1 h2 _ => absurd (Nat.lt_of_le_of_lt h1 h2) (Nat.lt_irrefl _)⟩ ?_ (by first | assumption | with_unfolding_all passes_own)
  (intro qr0 u h3 tk3 _ qr5 F3 N3; obtain ⟨j, oJ⟩ := qr0; (refine and4E qr5 fun hJ hij hjl hsk => ?_; try clear qr5))
  dsimp only [ffLed, kstB] at hJ hij hjl hsk F3 N3
  cases hxj : xv[j]? with
  | none =>
    have hje : j = xv.length := by have := List.getElem?_eq_none_iff.mp hxj; omega
    k_steps
    rename RaisedK _ _ _ _ _ _ _ _ => R9
    refine stop_here R9 (by assumption) FG N5 fun F9 N9 => done o5 _ _ (fun k z h1 h2 => hsk k z h1 ?_ h2) F9 N9
    have := (List.getElem?_eq_some_iff.mp h2).1
    rw [← hx.length] at this
    omega
  | some v =>
    (refine ex1E (hx.get hxj) fun x qq1 => ?_; refine and2E qq1 fun hxs qq11 => ?_; try clear qq1; refine ex1E qq11 fun t qq111 => ?_; try clear qq11; rcases qq111 with rfl)
    have hjl' : j + 1 ≤ xv.length := (List.getElem?_eq_some_iff.mp hxj).1
    cases hyc : ys.contains x with
    | true =>
      k_steps
      refine ksw_end ⟨j + 1, o'⟩ (by k_asm) (by k_asm) (fun p hp => hp) trivial (by intro p hp; cases hp) (fun z _ hz => ?_) ⟨hJ', Nat.le_succ_of_le hij, hjl', fun k z h1 h2 h3 => ?_⟩ (by show xv.length + 1 - (j + 1) < xv.length + 1 - j; omega)
      · simp only [List.contains_cons, List.contains_nil, Bool.or_false, beq_eq_false_iff_ne, ne_eq] at hz
        simp [hz]
      · rcases Nat.lt_or_eq_of_le (Nat.lt_succ_iff.mp h2) with h4 | rfl
        · exact hsk k z h1 h4 h3
        · rw [hxs] at h3; cases h3; exact hyc
    | false =>
      k_steps
      exact item j x t o' _ _ hij hxs hyc hsk hxj hJ' (by k_asm) (by k_asm)
end Mine
end
section
open PySem PySem.W PySem.Spec PySem.Calls PyProof.Rows
set_option maxRecDepth 100000 
set_option maxHeartbeats 2000000 
namespace Mine
theorem l0_C14 : True := by
  k_with_none
  k_with "q" => (all_goals first | assumption | with_unfolding_all exact rfl)
  k_with "ar" => with_reducible first | assumption | (apply Ar.rm2; k_extra "q") | (apply Ar.n37; k_extra "q") | (apply Ar.subL2; k_extra "q") | (apply Ar.subL'; k_extra "q") | (apply Ar.subD; k_extra "q") | (apply Ar.n41; k_extra "q") | (apply Ar.subS'; k_extra "q") | (apply Ar.subE'; k_extra "q")
  trivial

theorem fd_done {xs ys : List Str} {i : Nat} (h : ∀ k z, i ≤ k → xs[k]? = some z → ys.contains z = true) : (xs.drop i).filter (fun x => !ys.contains x) = [] := by
  rw [List.filter_eq_nil_iff]
  intro z hz
  refine ex1E (List.getElem?_of_mem hz) fun k hk => ?_
  rw [List.getElem?_drop] at hk
  rw [h (i + k) z (Nat.le_add_right _ _) hk]; simp
theorem fd_item {xs ys : List Str} {x : Str} : ∀ {n i j : Nat}, n = j - i → i ≤ j → xs[j]? = some x → ys.contains x = false → (∀ k z, i ≤ k → k < j → xs[k]? = some z → ys.contains z = true) →
    (xs.drop i).filter (fun x => !ys.contains x) = x :: (xs.drop (j + 1)).filter (fun x => !ys.contains x)
  | 0, i, j, hn, hij, hx, hc, _ => by
    obtain rfl : i = j := by omega
    have hlt := (List.getElem?_eq_some_iff.mp hx).1
    rw [List.drop_eq_getElem_cons hlt, (List.getElem?_eq_some_iff.mp hx).2, List.filter_cons, hc]
    simp
  | n + 1, i, j, hn, hij, hx, hc, hs => by
    have hlt := (List.getElem?_eq_some_iff.mp hx).1
    have hi : i < xs.length := by omega
    rw [List.drop_eq_getElem_cons hi, List.filter_cons, hs i xs[i] (Nat.le_refl _) (by omega) (List.getElem?_eq_getElem hi)]
    simp only [Bool.not_true, Bool.false_eq_true, if_false]
    exact fd_item (n := n) (by omega) (by omega) hx hc fun k z h1 h2 h3 => hs k z (by omega) h2 h3
structure Gnd (w : World) (mean : ExcName → Option Value) (mg mb : Str → Option Value) (A₀ : Around) (h₀ : Heap) (outer : List Env) (env : Env) (L : Addr) : Prop where
  X : (hd.heap_1_1 w.params).In h₀
  T : Top topProg LO mean mg mb h₀
  B : Below A₀ h₀ outer h₀
  f : env.frame = some L
  k : env.scope.kind = .function
structure FFo (I X dx B S : Addr) (news : List (Addr × Obj)) : Prop where
  o1 : @LT.lt Nat _ S B
  o2 : @LT.lt Nat _ B dx
  o3 : @LT.lt Nat _ dx X
  o4 : @LT.lt Nat _ X I
  off : ∀ p ∈ news, @Ne Nat p.1 I
noncomputable abbrev minus (xs ys : List Str) : List Str := xs.filter fun x => !ys.contains x
section
variable {w : World} {mean : ExcName → Option Value} {mg mb : Str → Option Value} {A A₀ : Around} {h₀ : Heap} {L I X dx B S l D : Addr} {m : Str → Option Value} {news : List (Addr × Obj)} {env : Env} {outer : List Env} {oS : Obj} {xv : List Value} {xs ys : List Str} {n : Nat}
theorem ff_extend {R : Result → Shared → Prop} {res : Value} (G : Gnd w mean mg mb A₀ h₀ outer env L) (hh : A.handled = none) (hdp : A.depth + 5 ≤ recursionLimit) (hun : A.units + 110 ≤ cLine) (hA : A.frames = some (env :: outer))
    (ho : FFo I X dx B S news) (hD : @Ne Nat D I ∧ @Ne Nat D X ∧ @Ne Nat D dx ∧ @Ne Nat D B ∧ @Ne Nat D S) (offD : ∀ p ∈ news, @Ne Nat p.1 D)
    (hl : SrcA h₀ l xv.toArray news) (hx : Are IsS xv xs) (hso : oS.SetObjOf (strKind PySem.Challenge.rw_ij0107_01.row.prog w) (fun k => ys.contains k) n) (hn : n ≤ 1000) (hz : xv.length ≤ 900) :
    ∀ (k i : Nat) (oI : Obj) (acc : List Value) (c : Nat) (s : Shared), xv.length - i < k → i ≤ xv.length → LiIs oI l i → Fr h₀ L s.heap m → News h₀ L s.heap (ffLed I X dx B S oS ((D, listOf acc.toArray c) :: news) ⟨i, oI⟩) → acc.length ≤ i →
      (∀ oI' h' tk zs c', Are IsS zs ((xs.drop i).filter fun x => !ys.contains x) → Fr h₀ L h' m → News h₀ L h' (ffLed I X dx B S oS ((D, listOf (acc ++ zs).toArray c') :: news) ⟨xv.length, oI'⟩) → R (.ok (.ret res)) { s with heap := h', toks := tk }) →
      codeAny (model PySem.Challenge.rw_ij0107_01.row.prog w) A (.builtin "list.extend.loop" ⟨[.ref D, .ref X, res], []⟩) R s := by
  intro k
  induction k with
  | zero => intro i _ _ _ _ h; omega
  | succ k ih =>
    intro i oI acc c s hk hi hI F N hac fin
    refine codeAny_builtin PySem.F.entry_extend_loop ?_
    rw [Around.under_plainId PySem.F.plain_extend_loop _]
    show wpAny _ A.in1 (pyNext (.ref X) >>= _) _ _ s
    refine wpAny_bind (ff_next w G.X G.T hh hdp (by show A.units + 1 + 100 ≤ _; omega) G.B hA G.f G.k F N ⟨ho.o1, ho.o2, ho.o3, ho.o4⟩ (List.forall_mem_cons.mpr ⟨hD.1, ho.off⟩) (sa_mono hl fun p hp => .tail _ hp) hI hx hso hn hi ?_ ?_)
    · intro j x t oI' h' tk hij hxs hyc hsk hxv hI' F' N'
      have hjl : j < xv.length := (List.getElem?_eq_some_iff.mp hxv).1
      have zD := N' (D, listOf acc.toArray c) (.tail _ (.tail _ (.tail _ (.tail _ (.tail _ (.head _))))))
      show wpAny _ A.in1 (updateSeq D (·.push (.str x t)) >>= _) _ _ _
      refine wpAny_bind (wpAny_updateSeq zD.1 rfl (wpAny_pure ⟨plainId_quiet PySem.F.plain_extend_loop _, ?_⟩) (by have := sizeLine_eq; rw [List.size_toArray]; omega) (by have := sizeLine_eq; show (acc.toArray.push _).size ≤ _; rw [Array.size_push, List.size_toArray]; omega))
      have hs : Heap.SameBut D h' (h'.update D (Obj.mapSeq fun z => z.push (Value.str x t))) := Heap.SameBut.update ..
      have ho' : (h'.update D (Obj.mapSeq fun z => z.push (Value.str x t))).get? D = some (listOf (acc ++ [Value.str x t]).toArray (c + 1)) := by
        rw [Heap.get?_update_self _ zD.1 (by rw [mapSeq_push]; rfl), mapSeq_push, List.push_toArray]
      refine ih (j + 1) oI' (acc ++ [Value.str x t]) (c + 1) _ (by omega) hjl hI' (F'.change hs zD.2.1 zD.2.2) ?_ (by rw [List.length_append, List.length_singleton]; omega) fun oI₂ h₂ tk₂ zs c₂ hzs F₂ N₂ => ?_
      · exact news_set (pre := [(I, oI'), (X, ffObj dx B I), (dx, emptyDict), (B, bctObj S), (S, oS)]) N' (by
          intro p hp
          simp only [List.mem_cons, List.not_mem_nil, or_false] at hp
          rcases hp with rfl | rfl | rfl | rfl | rfl
          · exact fun q => hD.1 q.symm
          · exact fun q => hD.2.1 q.symm
          · exact fun q => hD.2.2.1 q.symm
          · exact fun q => hD.2.2.2.1 q.symm
          · exact fun q => hD.2.2.2.2 q.symm) offD hs ho'
      · refine fin oI₂ h₂ tk₂ (.str x t :: zs) c₂ ?_ F₂ ?_
        · rw [fd_item rfl hij hxs hyc hsk]
          exact .cons ⟨t, rfl⟩ hzs
        · rw [List.append_assoc] at N₂; exact N₂
    · intro oI' h' tk hsk F' N'
      refine wpAny_pure (fin oI' h' tk [] c ?_ F' ?_)
      · rw [fd_done hsk]; exact .nil
      · rw [List.append_nil]; exact N'
end
end Mine
end
section
open PySem PySem.W PySem.Spec PySem.Calls PyProof.Rows
set_option maxRecDepth 100000 
set_option maxHeartbeats 2000000 
namespace Mine


section
variable {w : World} {mean : ExcName → Option Value} {mg mb : Str → Option Value} {A A₀ : Around} {E : Value → Shared → Prop} {s : Shared} {h₀ : Heap} {L I X dx B S l : Addr} {m : Str → Option Value} {news : List (Addr × Obj)} {env : Env} {outer : List Env} {oI oS : Obj} {xv : List Value} {xs ys : List Str} {n : Nat}
theorem lines_C15_0 : True := by
  k_with_none
  k_with "q" => (all_goals first | assumption | with_unfolding_all exact rfl)
  k_with "ar" => with_reducible first | assumption | (apply Ar.le0; k_extra "q") | (apply Ar.rm2; k_extra "q") | (apply Ar.rl0; k_extra "q") | (apply Ar.neg_; k_extra "q") | (apply Ar.ch3'; k_extra "q") | (apply Ar.ch4'; k_extra "q") | (apply Ar.ch5'; k_extra "q")
  k_with "mine n" => (
      (case k6 => k_is)
      (case k7 => k_is)
      (case k8 => ((try dsimp only [aA, Around.deeper]); omega))
      (case k9 => exact BindsTo.of_eq rfl)
      (case kB => exact locs rfl)
      (case c2 => exact rfl)
      (case c3 => exact rfl)
      (case c4 => exact rfl)
      (case c5 => decide))
  trivial
theorem ff_inst (N : News h₀ L s.heap (ffLed I X dx B S oS news ⟨0, oI⟩)) : InstAt s.heap X (ffObj dx B I) 125 (some emptyDict) := InstAt.of_news N (.tail _ (.head _)) (.tail _ (.tail _ (.head _)))
theorem ff_iter {Q : Value → Shared → Prop} (G : Gnd w mean mg mb A₀ h₀ outer env L) (hdp : A.depth + 5 ≤ recursionLimit) (hA : A.frames = some (env :: outer)) (F : Fr h₀ L s.heap m) (N : News h₀ L s.heap (ffLed I X dx B S oS news ⟨0, oI⟩))
    (h : ∀ h' tk, Fr h₀ L h' m → News h₀ L h' (ffLed I X dx B S oS news ⟨0, oI⟩) → Q (.ref X) { s with heap := h', toks := tk }) :
    wpAny (model PySem.Challenge.rw_ij0107_01.row.prog w) A (pyIter (.ref X)) Q E s := by
  obtain ⟨XK, T, BL, hf, hke⟩ := G
  revert XK T
  k_fill
  intro XK T
  have hinst := ff_inst N
  refine owit_iter F XK hinst (by k_is) (by k_is) (wpAny_call ?_)
  refine' code_def (binds := [(Str.ofString "self", .ref X)]) BL F XK N T hA hf hke ?k6 ?k7 ?k8 ?k9 ?kB ?kk ?c2 ?c3 ?c4 ?c5
  walk_at "mine n"
  intro g L2 h2 FG F2 N2 BG XG TG
  dsimp only [ffLed] at N2
  k_steps
  exact h _ _ (by k_asm) (by k_asm)
theorem ff_nolen (X' : (hd.heap_1_1 w.params).In s.heap) (hi : InstAt s.heap X (ffObj dx B I) 125 (some emptyDict)) {Q : Option Value → Shared → Prop} (h : Q none s) :
    wpAny (model PySem.Challenge.rw_ij0107_01.row.prog w) A (specialOf (.ref X) (Str.ofString "__len__")) Q E s := by
  revert X'
  k_fill
  intro X'
  exact wpAny_bind (hi.type.here ((looks_findIn X' (by k_is)).here h))
theorem ff_nohint (X' : (hd.heap_1_1 w.params).In s.heap) (hi : InstAt s.heap X (ffObj dx B I) 125 (some emptyDict)) {Q : Option Value → Shared → Prop} (h : Q none s) :
    wpAny (model PySem.Challenge.rw_ij0107_01.row.prog w) A (specialOf (.ref X) (Str.ofString "__length_hint__")) Q E s := by
  revert X'
  k_fill
  intro X'
  exact wpAny_bind (hi.type.here ((looks_findIn X' (by k_is)).here h))
theorem ff_list {Q : Value → Shared → Prop} (G : Gnd w mean mg mb A₀ h₀ outer env L) (hh : A.handled = none) (hdp : A.depth + 5 ≤ recursionLimit) (hun : A.units + 130 ≤ cLine) (hA : A.frames = some (env :: outer))
    (F : Fr h₀ L s.heap m) (N : News h₀ L s.heap (ffLed I X dx B S oS news ⟨0, oI⟩)) (ho : FFo I X dx B S news) (hl : SrcA h₀ l xv.toArray news) (hI : LiIs oI l 0) (hx : Are IsS xv xs)
    (hso : oS.SetObjOf (strKind PySem.Challenge.rw_ij0107_01.row.prog w) (fun k => ys.contains k) n) (hn : n ≤ 1000) (hz : xv.length ≤ 900)
    (h : ∀ D zs c h' tk, Are IsS zs (minus xs ys) → Fr h₀ L h' m → News h₀ L h' ((D, listOf (List.toArray zs) c) :: news) → (∀ p ∈ news, @LT.lt Nat _ p.1 D) → Q (.ref D) { s with heap := h', toks := tk }) :
    wpAny (model PySem.Challenge.rw_ij0107_01.row.prog w) A (call (.type "list") [.ref X]) Q E s := by
  refine callType_codes (Q₁ := fun obj s₁ => obj = .ref s.heap.objs.size ∧ s₁ = { s with heap := s.heap.push { cls := .type "list", data := .seq #[] } }) PySem.F.called_list (PySem.F.typeCall_list_1 _) PySem.F.entry_list_init
    (code_list_new _ ⟨rfl, rfl⟩) fun obj s₁ h₁ => ?_
  (refine and2E h₁ fun qq0 qq1 => ?_; try clear h₁; rcases qq0 with rfl; rcases qq1 with rfl)
  have hlt : ∀ p ∈ ffLed I X dx B S oS news ⟨0, oI⟩, @LT.lt Nat _ p.1 s.heap.objs.size := fun p hp => Heap.lt_size (N p hp).1
  generalize hD : s.heap.objs.size = D at hlt ⊢
  have F₁ : Fr h₀ L (s.heap.push { cls := .type "list", data := .seq #[] }) m := F.push _
  have N₁ : News h₀ L (s.heap.push { cls := .type "list", data := .seq #[] }) ((D, listOf #[] 0) :: ffLed I X dx B S oS news ⟨0, oI⟩) := by rw [← hD]; exact News.push F N _ rfl
  generalize s.heap.push { cls := .type "list", data := .seq #[] } = hp₁ at F₁ N₁ ⊢
  have hS := (N₁ _ (.head _)).1
  refine ⟨⟨_, hS, rfl⟩, PySem.F.args_list_init_2 _ _, ?_⟩
  have up' : ∀ {a : Array Value} {c : Nat} {f : Obj → Obj} {hp : Heap} {o' : Obj} {nw : List (Addr × Obj)}, Fr h₀ L hp m → News h₀ L hp ((D, listOf a c) :: nw) → (hp.update D f).get? D = some o' → (∀ p ∈ nw, @Ne Nat p.1 D) → Fr h₀ L (hp.update D f) m ∧ News h₀ L (hp.update D f) ((D, o') :: nw) := by
    intro a c f hp o' nw F₂ N₂ e' off
    have hs : Heap.SameBut D hp (hp.update D f) := Heap.SameBut.update ..
    exact ⟨F₂.change hs (N₂ _ (.head _)).2.1 (N₂ _ (.head _)).2.2, news_set (pre := []) N₂ (fun _ q => (nomatch q)) off hs e'⟩
  have offD : ∀ p ∈ ffLed I X dx B S oS news ⟨0, oI⟩, @Ne Nat p.1 D := fun p hp => Nat.ne_of_lt (hlt p hp)
  show wpAny _ A.in1.in1 (do let old ← Builtin.List.listItems (.ref D); Builtin.List.listUpdate (.ref D) (fun _ => #[]); letGo old.toList.reverse; Builtin.List.listExtendWith (.ref D) (.ref X) .none) _ _ _
  refine wpAny_bind ?_
  unfold Builtin.List.listItems
  refine wpAny_bind (wpAny_seqItems hS rfl (wpAny_pure ?_))
  show wpAny _ A.in1.in1 (updateSeq D (fun _ => #[]) >>= fun _ => letGo (#[] : Array Value).toList.reverse >>= fun _ => Builtin.List.listExtendWith (.ref D) (.ref X) .none) _ _ _
  refine wpAny_bind (wpAny_updateSeq hS rfl ?_)
  refine and2E (up' F₁ N₁ (Heap.get?_update_self (Obj.mapSeq (fun _ => (#[] : Array Value))) hS rfl) offD) fun F₂ N₂ => ?_
  refine wpAny_bind (wpAny_letGo ?_)
  obtain ⟨c1, e0⟩ : ∃ c, Obj.mapSeq (fun _ => (#[] : Array Value)) (listOf #[] 0) = listOf #[] c := ⟨_, rfl⟩
  rw [e0] at N₂
  have mv : ∀ {hp : Heap} {o : Obj}, News h₀ L hp ((D, o) :: ffLed I X dx B S oS news ⟨0, oI⟩) → News h₀ L hp (ffLed I X dx B S oS ((D, o) :: news) ⟨0, oI⟩) := fun N₂ p hp => N₂ p (by
    simp only [ffLed, List.mem_cons] at hp ⊢
    rcases hp with h | h | h | h | h | h | h
    · exact .inr (.inl h)
    · exact .inr (.inr (.inl h))
    · exact .inr (.inr (.inr (.inl h)))
    · exact .inr (.inr (.inr (.inr (.inl h))))
    · exact .inr (.inr (.inr (.inr (.inr (.inl h)))))
    · exact .inl h
    · exact .inr (.inr (.inr (.inr (.inr (.inr h))))))
  have mvb : ∀ {hp : Heap} {o : Obj}, News h₀ L hp (ffLed I X dx B S oS ((D, o) :: news) ⟨0, oI⟩) → News h₀ L hp ((D, o) :: ffLed I X dx B S oS news ⟨0, oI⟩) := fun N₂ p hp => N₂ p (by
    simp only [ffLed, List.mem_cons] at hp ⊢
    rcases hp with h | h | h | h | h | h | h
    · exact .inr (.inr (.inr (.inr (.inr (.inl h)))))
    · exact .inl h
    · exact .inr (.inl h)
    · exact .inr (.inr (.inl h))
    · exact .inr (.inr (.inr (.inl h)))
    · exact .inr (.inr (.inr (.inr (.inl h))))
    · exact .inr (.inr (.inr (.inr (.inr (.inr h))))))
  have N₃ := mv N₂
  clear N₂
  generalize hp₁.update D (Obj.mapSeq fun _ => (#[] : Array Value)) = hp₂ at F₂ N₃ ⊢
  have hinst : ∀ {hp : Heap} {nw : List (Addr × Obj)}, News h₀ L hp (ffLed I X dx B S oS nw ⟨0, oI⟩) → InstAt hp X (ffObj dx B I) 125 (some emptyDict) := fun N => InstAt.of_news N (.tail _ (.head _)) (.tail _ (.tail _ (.head _)))
  have hDX : @Ne Nat D X := Nat.ne_of_gt (hlt (X, ffObj dx B I) (.tail _ (.head _)))
  unfold Builtin.List.listExtendWith
  refine wpAny_bind ((hinst N₃).type.here ?_)
  have h1 : Builtin.List.listSameRef (.ref D) (.ref X) = false := by simpa [Builtin.List.listSameRef] using hDX
  have h2 : (Value.ref 125 == Value.type "list") = false := rfl
  have h3 : (Value.ref 125 == Value.type "tuple") = false := rfl
  simp only [h1, h2, h3, Bool.or_false, Bool.false_eq_true, if_false]
  refine wpAny_bind (ff_iter G hdp hA F₂ N₃ fun h₄ tk₄ F₄ N₄ => ?_)
  refine wpAny_bind (wpAny_holding ?_)
  unfold Builtin.List.listLengthHint
  refine wpAny_bind (ff_nolen (G.X.keeps F₄.keep) (hinst N₄) ?_)
  show wpAny _ _ (specialOf (.ref X) (Str.ofString "__length_hint__") >>= _) _ _ _
  refine wpAny_bind (ff_nohint (G.X.keeps F₄.keep) (hinst N₄) ?_)
  refine wpAny_pure ?_
  show wpAny _ _ (rule "list.extend.makes-room" >>= fun _ => Builtin.List.listTouch (.ref D) >>= fun _ => again (.builtin "list.extend.loop" ⟨[.ref D, .ref X, .none], []⟩)) _ _ _
  refine wpAny_bind (wpAny_rule (wpAny_bind ?_))
  show wpAny _ _ (updateSeq D (·.push .none) >>= fun _ => updateSeq D (·.pop)) _ _ _
  have N₄' := mvb N₄
  have hS₄ := (N₄' _ (.head _)).1
  refine wpAny_bind (wpAny_updateSeq hS₄ rfl ?_)
  refine and2E (up' F₄ N₄' (Heap.get?_update_self (Obj.mapSeq (·.push Value.none)) hS₄ rfl) offD) fun F₅ N₅ => ?_
  have hS₅ := (N₅ _ (.head _)).1
  refine wpAny_updateSeq (hz := by seq_fits) hS₅ rfl ?_
  rw [mapSeq_push] at N₅ hS₅
  refine and2E (up' F₅ N₅ (Heap.get?_update_self (Obj.mapSeq (·.pop)) hS₅ rfl) offD) fun F₆ N₆ => ?_
  obtain ⟨c6, e6⟩ : ∃ c, Obj.mapSeq (·.pop) (listOf ((#[] : Array Value).push Value.none) (c1 + 1)) = listOf #[] c := ⟨_, rfl⟩
  rw [e6] at N₆
  have hXD := hlt (X, ffObj dx B I) (.tail _ (.head _))
  have hID := hlt (I, oI) (.head _)
  have o1 := ho.o1
  have o2 := ho.o2
  have o3 := ho.o3
  have o4 := ho.o4
  dsimp only at hXD hID
  refine wpAny_pure ⟨plainId_quiet PySem.F.plain_extend_loop _, ff_extend (A := A.in1) (acc := []) (c := c6) G hh hdp (by show A.units + 1 + 110 ≤ _; omega) hA ho ⟨by omega, by omega, by omega, by omega, by omega⟩ (fun p hp => offD p (.tail _ (.tail _ (.tail _ (.tail _ (.tail _ hp)))))) hl hx hso hn hz (xv.length + 1) 0 oI _ (by omega) (Nat.zero_le _) hI F₆ (mv N₆) (Nat.le_refl _) fun oI' h' tk zs c' hzs F' N' => ?_⟩
  rw [List.drop_zero] at hzs
  exact ⟨rfl, h D zs c' h' tk hzs F' (fun p hp => N' p (.tail _ (.tail _ (.tail _ (.tail _ (.tail _ hp)))))) fun p hp => hlt p (.tail _ (.tail _ (.tail _ (.tail _ (.tail _ hp)))))⟩
end
end Mine
end
section
open PySem PySem.W PySem.Spec PySem.Calls PyProof.Rows
set_option maxRecDepth 100000
set_option maxHeartbeats 2000000
namespace Mine
theorem l0_T5 : True := by
  k_with_none
  trivial
theorem kt_typeCall_dict_0 : checkTypeCall "dict" ⟨[], []⟩ = pure () := by kernel_rfl
theorem kt_newCall_dict_0 : checkBuiltinCall "dict.__new__" ⟨[.type "dict"], []⟩ = pure () := by kernel_rfl
theorem kind_dfk : builtinKind "dict.fromkeys" = some .classMethod := by decide +kernel
theorem va_dfk : Manifest.varargsMethods.contains "dict.fromkeys" = false := by decide +kernel
theorem entry_dfk : entryFor table "dict.fromkeys" = some Builtin.«dict.fromkeys» := entryFor_of_tree (by kernel_rfl)
theorem entry_dfkl : entryFor table "dict.fromkeys.loop" = some Builtin.«dict.fromkeys.loop» := entryFor_of_tree (by kernel_rfl)
theorem plain_dfk : plainId "dict.fromkeys" = true := by decide +kernel
theorem plain_dfkl : plainId "dict.fromkeys.loop" = true := by decide +kernel
noncomputable def dfkSig : Manifest.Signature := (Manifest.sig_dict.lookup "fromkeys").get (by decide +kernel)
theorem sig_dfk : Manifest.signature? "dict.fromkeys" = some dfkSig := by
  rw [signature?_of (id := "dict.fromkeys") (n := ['s', 'y', 'e', 'k', 'm', 'o', 'r', 'f']) (o := ['t', 'c', 'i', 'd']) (by kernel_rfl) PySem.F.owner_dict]; kernel_rfl
theorem chk_dfk (a b : Value) : Bind.checkArgs "dict.fromkeys" { dfkSig with full := toString (Bind.lastOf "dict") ++ toString "." ++ toString (Bind.lastOf "dict.fromkeys") } ⟨[a, b], []⟩ = pure () := by kernel_rfl
theorem type_not_module : isSubtype (.type "type") (.type "module") = pure false := by rw [isSubtype_type]; kernel_rfl
section
variable {prog : Program} {w : World} {A : Around} {E : Value → Shared → Prop} {s : Shared}
theorem code_dict_new_0 {Q₁ : Value → Shared → Prop} (h : Q₁ (.ref s.heap.objs.size) { s with heap := s.heap.push { cls := .type "dict", data := .dict #[] } }) :
    codeAny (model prog w) A (.call (.builtin "dict.__new__") ⟨[.type "dict"], []⟩) (wants Q₁ E) s := by
  refine codeAny_call_builtin PySem.F.kt_plain_dict_new PySem.F.kt_entry_dict_new (wpAny_of_eq kt_newCall_dict_0 ?_)
  have hsub := PySem.F.kt_sub_dict
  have hmro := PySem.F.kt_mro_dict
  obtain ⟨hp, g, d, tk, os⟩ := s
  unfold Builtin.«dict.__new__»
  wp_walk
  exact h
theorem call_dict_0 {Q : Value → Shared → Prop} (h : Q (.ref s.heap.objs.size) { s with heap := s.heap.push { cls := .type "dict", data := .dict #[] } }) :
    wpAny (model prog w) A (call (.type "dict") []) Q E s := by
  refine callType_codes (Q₁ := fun obj s₁ => obj = .ref s.heap.objs.size ∧ s₁ = { s with heap := s.heap.push { cls := .type "dict", data := .dict #[] } }) PySem.F.kt_called_dict kt_typeCall_dict_0 PySem.F.entry_dict_init (code_dict_new_0 ⟨rfl, rfl⟩) ?_
  (intro obj s₁ qr2; (refine and2E qr2 fun qq0 qq1 => ?_; try clear qr2; rcases qq0 with rfl; rcases qq1 with rfl))
  have hnew : (s.heap.push { cls := .type "dict", data := .dict #[] }).DictOf (strKind prog w) s.heap.objs.size [] := Heap.DictOf.new s.heap
  refine ⟨hnew.typeIs, PySem.F.args_dict_init_1 _, ?_⟩
  unfold Builtin.«dict.__init__»
  refine wpAny_bind ?_
  unfold Builtin.Dict.selfAndRest
  refine wpAny_bind (wpAny_notOrdered_dict hnew.typeIs ?_)
  show wpAny _ _ (pure (s.heap.objs.size, ([] : List Value))) _ _ _
  refine wpAny_pure ?_
  show wpAny _ _ (Builtin.Dict.addKeywords s.heap.objs.size [] >>= _) _ _ _
  exact wpAny_bind (wpAny_pure (wpAny_pure ⟨rfl, h⟩))
noncomputable abbrev fkObj : Obj := { cls := .type "builtin_function_or_method", data := .fields #[.builtin "dict.fromkeys", .type "dict"] }
theorem call_bfk {b : Addr} {v : Value} {Q : Value → Shared → Prop} (eb : s.heap.get? b = some fkObj)
    (h : wpAny (model prog w) A.in1 (Builtin.«dict.fromkeys» ⟨[.type "dict", v], []⟩)
      (fun fin s' => match fin with | .done f => wants Q E (.ok f) s' | .again c' => c'.quiet = true ∧ codeAny (model prog w) A c' (wants Q E) s') (fun e s' => wants Q E (.error e) s') s) :
    wpAny (model prog w) A (call (.ref b) [v]) Q E s := by
  refine wpAny_call (codeAny_of_tree ?_)
  show wpAny _ A.in1 (callAny (.ref b) _) _ _ s
  simp -iota only [callAny]
  refine wpAny_bind (wpAny_load eb ?_)
  dsimp only
  simp -iota only [show (Value.type "builtin_function_or_method" == Value.type "method") = false by decide, beq_self_eq_true, Bool.true_or, Bool.or_true, if_true]
  show wpAny _ _ (checkBoundCall "dict.fromkeys" ⟨[.type "dict", v], []⟩ >>= _) _ _ s
  refine wpAny_bind ?_
  unfold checkBoundCall
  rw [sig_dfk]
  dsimp only
  rw [kind_dfk]
  dsimp only
  rw [if_neg (by decide)]
  refine wpAny_bind ?_
  unfold isInstance
  refine wpAny_bind (m := typeOf (.type "dict")) (wpAny_pure ?_)
  refine wpAny_of_eq type_not_module ?_
  rw [va_dfk]
  simp -iota only [Bool.or_self, Bool.false_eq_true, if_false]
  refine wpAny_bind ?_
  refine wpAny_bind (wpAny_pure ?_)
  refine wpAny_pure ?_
  rw [if_pos rfl]
  refine wpAny_bind (wpAny_pure ?_)
  dsimp only
  refine wpAny_of_eq (chk_dfk _ _) ?_
  refine wpAny_pure ⟨plainId_quiet plain_dfk _, ?_⟩
  refine codeAny_builtin entry_dfk ?_
  rw [Around.under_plainId plain_dfk]
  exact h
end
end Mine
end
section
open PySem PySem.W PySem.Spec PySem.Calls PyProof.Rows
set_option maxRecDepth 100000 
set_option maxHeartbeats 2000000 
namespace Mine
theorem l0_C16 : True := by
  k_with_none
  k_with "q" => (all_goals first | assumption | with_unfolding_all exact rfl)
  k_with "ar" => with_reducible first | assumption | (apply Ar.rm1; k_extra "q") | (apply Ar.rm2; k_extra "q") | (apply Ar.n39; k_extra "q") | (apply Ar.subD; k_extra "q") | (apply Ar.neg_; k_extra "q") | (apply Ar.ch3'; k_extra "q") | (apply Ar.ch4'; k_extra "q") | (apply Ar.ch5'; k_extra "q")
  trivial
noncomputable abbrev fkAll (acc : List (Str × Value)) (xs : List Str) : List (Str × Value) := xs.foldl (fun a x => stored a x .none) acc
section
variable {w : World} {mean : ExcName → Option Value} {mg mb : Str → Option Value} {A A₀ : Around} {E : Value → Shared → Prop} {s : Shared} {h₀ : Heap} {L I X dx B S l D : Addr} {m : Str → Option Value} {news : List (Addr × Obj)} {env : Env} {outer : List Env} {oI oS : Obj} {xv : List Value} {xs ys : List Str} {n : Nat}
theorem ff_fromkeys {R : Result → Shared → Prop} (G : Gnd w mean mg mb A₀ h₀ outer env L) (hh : A.handled = none) (hdp : A.depth + 5 ≤ recursionLimit) (hun : A.units + 110 ≤ cLine) (hA : A.frames = some (env :: outer))
    (ho : FFo I X dx B S news) (hD : @Ne Nat D I ∧ @Ne Nat D X ∧ @Ne Nat D dx ∧ @Ne Nat D B ∧ @Ne Nat D S) (offD : ∀ p ∈ news, @Ne Nat p.1 D)
    (hl : SrcA h₀ l xv.toArray news) (hx : Are IsS xv xs) (hso : oS.SetObjOf (strKind PySem.Challenge.rw_ij0107_01.row.prog w) (fun k => ys.contains k) n) (hn : n ≤ 1000) (hz : xv.length ≤ 900) :
    ∀ (k i : Nat) (oI oD : Obj) (acc : List (Str × Value)) (s : Shared), xv.length - i < k → i ≤ xv.length → LiIs oI l i → oD.IsDictOf (strKind PySem.Challenge.rw_ij0107_01.row.prog w) acc → Fr h₀ L s.heap m → News h₀ L s.heap (ffLed I X dx B S oS ((D, oD) :: news) ⟨i, oI⟩) → acc.length ≤ i →
      (∀ oI' oD' h' tk, oD'.IsDictOf (strKind PySem.Challenge.rw_ij0107_01.row.prog w) (fkAll acc ((xs.drop i).filter fun x => !ys.contains x)) → Fr h₀ L h' m → News h₀ L h' (ffLed I X dx B S oS ((D, oD') :: news) ⟨xv.length, oI'⟩) → R (.ok (.ret (.ref D))) { s with heap := h', toks := tk }) →
      codeAny (model PySem.Challenge.rw_ij0107_01.row.prog w) A (.builtin "dict.fromkeys.loop" ⟨[.ref D, .ref X, .none], []⟩) R s := by
  intro k
  induction k with
  | zero => intro i _ _ _ _ h; omega
  | succ k ih =>
    intro i oI oD acc s hk hi hI hoD F N hac fin
    refine codeAny_builtin entry_dfkl ?_
    rw [Around.under_plainId plain_dfkl _]
    show wpAny _ A.in1 (pyNext (.ref X) >>= _) _ _ s
    refine wpAny_bind (ff_next w G.X G.T hh hdp (by show A.units + 1 + 100 ≤ _; omega) G.B hA G.f G.k F N ⟨ho.o1, ho.o2, ho.o3, ho.o4⟩ (List.forall_mem_cons.mpr ⟨hD.1, ho.off⟩) (sa_mono hl fun p hp => .tail _ hp) hI hx hso hn hi ?_ ?_)
    · intro j x t oI' h' tk hij hxs hyc hsk hxv hI' F' N'
      have hjl : j < xv.length := (List.getElem?_eq_some_iff.mp hxv).1
      have zD := N' (D, oD) (.tail _ (.tail _ (.tail _ (.tail _ (.tail _ (.head _))))))
      have hDict : h'.DictOf (strKind PySem.Challenge.rw_ij0107_01.row.prog w) D acc := Heap.dictOf_iff.mpr ⟨oD, zD.1, hoD⟩
      refine wpAny_bind (wpAny_typeOf hDict.typeIs ?_)
      rw [if_pos (by rfl)]
      refine wpAny_bind (wpAny_pure ?_)
      refine wpAny_bind (wpAny_holding ?_)
      refine wpAny_dictSet_pairs (hsz := by have := sizeLine_eq; omega) (strKind_is _ _ x t) hDict fun h₂ hd₂ hs₂ => ?_
      (refine ex1E (Heap.dictOf_iff.mp hd₂) fun o₂ qq1 => ?_; refine and2E qq1 fun ho₂ hd₂ => ?_; try clear qq1)
      refine wpAny_pure ⟨plainId_quiet plain_dfkl _, ?_⟩
      refine ih (j + 1) oI' o₂ (stored acc x .none) _ (by omega) hjl hI' hd₂ (F'.change hs₂ zD.2.1 zD.2.2) ?_ ?_ fun oI₂ oD₂ h₂ tk₂ hd₂ F₂ N₂ => ?_
      · exact news_set (pre := [(I, oI'), (X, ffObj dx B I), (dx, emptyDict), (B, bctObj S), (S, oS)]) N' (by
          intro p hp
          simp -iota only [List.mem_cons, List.not_mem_nil, or_false] at hp
          rcases hp with rfl | rfl | rfl | rfl | rfl
          · exact fun q => hD.1 q.symm
          · exact fun q => hD.2.1 q.symm
          · exact fun q => hD.2.2.1 q.symm
          · exact fun q => hD.2.2.2.1 q.symm
          · exact fun q => hD.2.2.2.2 q.symm) offD hs₂ ho₂
      · have : (stored acc x Value.none).length ≤ acc.length + 1 := by
          unfold stored; split <;> simp
        omega
      · refine fin oI₂ oD₂ h₂ tk₂ ?_ F₂ N₂
        rw [fd_item rfl hij hxs hyc hsk]
        exact hd₂
    · intro oI' h' tk hsk F' N'
      refine wpAny_pure (fin oI' oD h' tk ?_ F' N')
      rw [fd_done hsk]; exact hoD
theorem ff_dedupe {Q : Value → Shared → Prop} (G : Gnd w mean mg mb A₀ h₀ outer env L) (hh : A.handled = none) (hdp : A.depth + 5 ≤ recursionLimit) (hun : A.units + 130 ≤ cLine) (hA : A.frames = some (env :: outer))
    (F : Fr h₀ L s.heap m) (N : News h₀ L s.heap (ffLed I X dx B S oS news ⟨0, oI⟩)) (ho : FFo I X dx B S news) (hl : SrcA h₀ l xv.toArray news) (hI : LiIs oI l 0) (hx : Are IsS xv xs)
    (hso : oS.SetObjOf (strKind PySem.Challenge.rw_ij0107_01.row.prog w) (fun k => ys.contains k) n) (hn : n ≤ 1000) (hz : xv.length ≤ 900)
    (h : ∀ D oD h' tk, oD.IsDictOf (strKind PySem.Challenge.rw_ij0107_01.row.prog w) (fkAll [] (minus xs ys)) → Fr h₀ L h' m → News h₀ L h' ((D, oD) :: news) → (∀ p ∈ news, @LT.lt Nat _ p.1 D) → (D == sysModules) = false → Q (.ref D) { s with heap := h', toks := tk }) :
    wpAny (model PySem.Challenge.rw_ij0107_01.row.prog w) A (call (.ref 165) [.ref X]) Q E s := by
  obtain ⟨XK, T, BL, hf, hke⟩ := id G
  revert XK T
  k_fill
  intro XK T
  have e165 : s.heap.get? 165 = some fkObj := (XK.keeps F.keep) _ _ (by k_is)
  refine call_bfk e165 ?_
  unfold Builtin.«dict.fromkeys»
  refine wpAny_bind (wpAny_pure ?_)
  rw [if_neg (by decide)]
  refine wpAny_bind (wpAny_of_eq PySem.F.kt_sub_dict ?_)
  rw [if_neg (by decide)]
  simp -iota only [List.isEmpty_nil, Bool.not_true, Bool.false_eq_true, if_false]
  refine wpAny_bind (wpAny_rule ?_)
  refine wpAny_bind (wpAny_pure ?_)
  refine wpAny_bind (call_dict_0 ?_)
  have hlt : ∀ p ∈ ffLed I X dx B S oS news ⟨0, oI⟩, @LT.lt Nat _ p.1 s.heap.objs.size := fun p hp => Heap.lt_size (N p hp).1
  have lo := F.notModules (modules_low T.nolimit)
  have hnew : (s.heap.push { cls := .type "dict", data := .dict #[] }).DictOf (strKind PySem.Challenge.rw_ij0107_01.row.prog w) s.heap.objs.size [] := Heap.DictOf.new s.heap
  (refine ex1E (Heap.dictOf_iff.mp hnew) fun oD qq1 => ?_; refine and2E qq1 fun hoD hdD => ?_; try clear qq1)
  have F₁ : Fr h₀ L (s.heap.push { cls := .type "dict", data := .dict #[] }) m := F.push _
  have N₁ : News h₀ L (s.heap.push { cls := .type "dict", data := .dict #[] }) ((s.heap.objs.size, { cls := .type "dict", data := .dict #[] }) :: ffLed I X dx B S oS news ⟨0, oI⟩) := News.push F N _ rfl
  have e1 : oD = { cls := .type "dict", data := .dict #[] } := by
    have := (N₁ _ (.head _)).1
    rw [hoD] at this; exact Option.some.inj this
  subst e1
  have hty : ({ s with heap := s.heap.push { cls := .type "dict", data := .dict #[] } } : Shared).TypeIs (.ref s.heap.objs.size) "dict" := hnew.typeIs
  generalize s.heap.push { cls := .type "dict", data := .dict #[] } = hp₁ at F₁ N₁ hnew hoD hty ⊢
  generalize s.heap.objs.size = D at hlt lo F₁ N₁ hnew hoD hty ⊢
  have mv : ∀ {hp : Heap} {o : Obj}, News h₀ L hp ((D, o) :: ffLed I X dx B S oS news ⟨0, oI⟩) → News h₀ L hp (ffLed I X dx B S oS ((D, o) :: news) ⟨0, oI⟩) := fun N₂ p hp => N₂ p (by
    simp -iota only [ffLed, List.mem_cons] at hp ⊢
    rcases hp with h | h | h | h | h | h | h
    · exact .inr (.inl h)
    · exact .inr (.inr (.inl h))
    · exact .inr (.inr (.inr (.inl h)))
    · exact .inr (.inr (.inr (.inr (.inl h))))
    · exact .inr (.inr (.inr (.inr (.inr (.inl h)))))
    · exact .inl h
    · exact .inr (.inr (.inr (.inr (.inr (.inr h))))))
  have N₂ := mv N₁
  have hinst : InstAt hp₁ X (ffObj dx B I) 125 (some emptyDict) := InstAt.of_news N₂ (.tail _ (.head _)) (.tail _ (.tail _ (.head _)))
  refine wpAny_holding ?_
  refine wpAny_bind (hinst.type.here ?_)
  refine wpAny_bind (wpAny_typeOf hty ?_)
  rw [if_neg (by decide)]
  refine wpAny_bind (wpAny_typeOf hty ?_)
  rw [if_neg (by decide)]
  refine wpAny_bind (ff_iter (A := A.in1) G hdp hA F₁ N₂ fun h₄ tk₄ F₄ N₄ => ?_)
  have hXD := hlt (X, ffObj dx B I) (.tail _ (.head _))
  have hID := hlt (I, oI) (.head _)
  have o1 := ho.o1
  have o2 := ho.o2
  have o3 := ho.o3
  have o4 := ho.o4
  dsimp only at hXD hID
  refine wpAny_pure ⟨plainId_quiet plain_dfkl _, ff_fromkeys (A := A) (acc := []) G hh hdp (by omega) hA ho ⟨by omega, by omega, by omega, by omega, by omega⟩ (fun p hp => Nat.ne_of_lt (hlt p (.tail _ (.tail _ (.tail _ (.tail _ (.tail _ hp)))))) ) hl hx hso hn hz (xv.length + 1) 0 oI _ _ (by omega) (Nat.zero_le _) hI hdD F₄ N₄ (Nat.le_refl _) fun oI' oD' h' tk hzs F' N' => ?_⟩
  rw [List.drop_zero] at hzs
  exact h D oD' h' tk hzs F' (fun p hp => N' p (.tail _ (.tail _ (.tail _ (.tail _ (.tail _ hp)))))) (fun p hp => hlt p (.tail _ (.tail _ (.tail _ (.tail _ (.tail _ hp)))))) lo
end
end Mine
end
section
open PySem PySem.W PySem.Spec PySem.Calls PyProof.Rows
set_option maxRecDepth 100000 
set_option maxHeartbeats 2000000 
namespace Mine
theorem lines_C17_0 : True := by
  k_with_none
  k_with "q" => (all_goals first | assumption | with_unfolding_all exact rfl)
  k_with "ar" => with_reducible first | assumption | (apply Ar.rm2; k_extra "q") | (apply Ar.rl0; k_extra "q")
  k_with "storeName" => (
      k_here
      k_dflt (refine storeL (by k_asm) (by k_asm) ?_ (by rfl) (by rfl))
      k_whole
      intro m1 h' tk F' N'
      (try k_sweep))
  k_with "mine enter" => (
      (case k3 => assumption)
      (case k5 => assumption)
      (case kT => assumption)
      (case k6 => k_is)
      (case k7 => k_is)
      (case k8 => (dsimp only [aA]; omega))
      (case k9 => exact BindsTo.of_eq rfl)
      (case c5 => decide)
      (case kB => exact locs rfl)
      (case c2 => exact rfl)
      (case c3 => exact rfl)
      (case c4 => exact rfl)
      (case' kk => skip)
      k_whole
      intro L' h' ps FL NL hps l0 lL gL
      (try dsimp only)
      (try k_fold))
  trivial
theorem c_kind (w : World) (a b : Str) (t t2 : Tok) : Pure w 2 10 143 [.str a t, .str b t2] (fun _ => True) (fun _ _ v => ∃ t', v = .str (Str.ofString "") t') := by
  unfold Pure
  k_fill
  intro mean mg mb dp un fr gd Q E s X T hT hp hdp hun hret
  refine' enter (binds := [(Str.ofString "name", .str a t), (Str.ofString "x", .str b t2)]) ?k3 ?k5 ?kT ?k6 ?k7 ?k8 ?k9 ?kB ?kk ?c2 ?c3 ?c4 ?c5
  walk_at "mine enter"
  k_steps
  exact leaveP_in (by k_asm) (by k_asm) (by k_mem) (by assumption) fun G T => hret _ _ _ G T ⟨_, rfl⟩
theorem lines_C17_1 : True := by
  k_with "call ref" => (
      k_here
      k_dflt (refine use (news := []) (c_kind w _ _ _ _) (by k_asm) (by k_asm) (by k_asm) (by intro q hq; cases hq) (by assumption) (by k_asm) (by exact rfl) trivial (by dsimp +zetaDelta only [aA, Around.deeper]; omega) (by dsimp +zetaDelta only [aA, Around.deeper]; omega) ?_)
      rintro v h2 tk2 ps2 F2 N2 ok2 G2 ⟨t2', rfl⟩ -
      (try dsimp only [List.nil_append] at N2))
  trivial
theorem c_fspath (w : World) (a b : Str) (t t2 : Tok) : Pure w 3 20 150 [.str a t, .str b t2] (fun _ => True) (fun _ _ v => v = .str b t2) := by
  unfold Pure
  k_fill
  intro mean mg mb dp un fr gd Q E s X T hT hp hdp hun hret
  refine' enter (binds := [(Str.ofString "name", .str a t), (Str.ofString "x", .str b t2)]) ?k3 ?k5 ?kT ?k6 ?k7 ?k8 ?k9 ?kB ?kk ?c2 ?c3 ?c4 ?c5
  walk_at "mine enter"
  k_steps
  exact leaveP_in (by k_asm) (by k_asm) (by k_mem) (by assumption) fun G T => hret _ _ _ G T rfl
end Mine
end
section
open PySem PySem.W PySem.Spec PySem.Calls PyProof.Rows
set_option maxRecDepth 100000 
set_option maxHeartbeats 2000000 
namespace Mine
theorem lines_C18_0 : True := by
  k_with_none
  k_with "q" => (all_goals first | assumption | with_unfolding_all exact rfl)
  k_with "ar" => with_reducible first | assumption | (apply Ar.le0; k_extra "q") | (apply Ar.rm2; k_extra "q") | (apply Ar.sz; k_extra "q") | (apply Ar.rl0; k_extra "q") | (apply Ar.neg_; k_extra "q") | (apply Ar.i7; k_extra "q")
  k_with "storeName" => (
      k_here
      k_dflt (refine storeL (by k_asm) (by k_asm) ?_ (by rfl) (by rfl))
      k_whole
      intro m1 h' tk F' N'
      (try k_sweep))
  k_with "ite" => first | with_reducible refine ite_tt ?_ | with_reducible refine ite_ff ?_
  k_with "execs cons" => first | (with_reducible refine seqT1 ?_; intro tk) | (k_here; (with_reducible refine seqL (by k_asm) ?_); k_whole; intro n1 Kc tk N' hKc) | (with_reducible refine blkT ?_; intro Qd tk hQd)
  k_with "Nxt" => (k_dflt (dsimp only [Nxt]))
  k_with "Kont" => first | (k_dflt (refine hKc _ _ ?_; try clear hKc)) | (k_dflt (refine hQd _ _ ?_; try clear hQd)) | (k_dflt (refine hQc _ _ ?_; try clear hQc)) | (k_dflt (refine kont_app (by assumption) ?_))
  k_with "mine enter" => (
      (case k3 => assumption)
      (case k5 => assumption)
      (case kT => assumption)
      (case k6 => k_is)
      (case k7 => k_is)
      (case k8 => (dsimp only [aA]; omega))
      (case k9 => exact BindsTo.of_eq rfl)
      (case c5 => decide)
      (case kB => exact locs rfl)
      (case c2 => exact rfl)
      (case c3 => exact rfl)
      (case c4 => exact rfl)
      (case' kk => skip)
      k_whole
      intro L' h' ps FL NL hps l0 lL gL
      (try dsimp only)
      (try k_fold))
  trivial
section
variable {prog : Program} {w : World} {A : Around} {E : Value → Shared → Prop} {s : Shared} {x : Str} {t : Tok} {Q : Value → Shared → Prop} {h₀ : Heap} {L : Addr} {m : Str → Option Value} {news : List (Addr × Obj)} {k : Nat} {i : Int}
theorem slice_pre (hi : i = (k : Int)) (hk : k ≤ x.length) : Txt.slice x none (some i) = ⟨(x.cps.toList.take k).toArray⟩ := by
  subst hi
  have e := eq_of_beq (slice_closes_to (x := x) (j := (k : Int)) ⟨by omega, by rw [Array.length_toList]; exact_mod_cast hk⟩)
  rw [e]
  simp
theorem slice_suf (hi : i = (k : Int)) (hk : k ≤ x.length) : Txt.slice x (some i) none = ⟨(x.cps.toList.drop k).toArray⟩ := by
  subst hi
  have e := slice_from_eq (x := x) (i := (k : Int)) (b := (x.length : Int)) (by omega) (by exact_mod_cast hk) rfl
  rw [e]
  have h1 : ((x.length : Int) - (k : Int)).toNat = (x.cps.toList.drop k).length := by
    rw [List.length_drop, Array.length_toList]; show _ = x.length - k; omega
  rw [Int.toNat_natCast, h1, List.take_length]
theorem pre_slice {value slice : Expr} {ui : Tok} (F : Fr h₀ L s.heap m) (N : News h₀ L s.heap news) (hi : i = (k : Int)) (hk : k ≤ x.length) (hz : x.length ≤ 5000)
    (h : ∀ h' t' tk, Fr h₀ L h' m → News h₀ L h' news → Q (.str ⟨(x.cps.toList.take k).toArray⟩ t') { s with heap := h', toks := tk })
    (hs : subscripted slice false (.str x t) (.ref s.heap.objs.size) = operate [.ref s.heap.objs.size, .str x t] (getItem (.str x t) (.ref s.heap.objs.size)) := by with_unfolding_all rfl)
    (ht : ∀ r, letTemporaryGo value (.str x t) r = pure () := by intro _; with_unfolding_all rfl) :
    wpAny (model prog w) A (subscriptTail value slice (.str x t) (.ref s.heap.objs.size)) Q E { s with heap := s.heap.push { cls := .type "slice", data := .fields #[.none, .int i ui, .none] } } := by
  refine slice_strN_ns F N (fun h' t' tk F' N' => ?_) hs ht (by have := sizeLine_eq; omega)
  rw [slice_pre hi hk]
  exact h h' t' tk F' N'
theorem suf_slice {value slice : Expr} {ui : Tok} (F : Fr h₀ L s.heap m) (N : News h₀ L s.heap news) (hi : i = (k : Int)) (hk : k ≤ x.length) (hz : x.length ≤ 5000)
    (h : ∀ h' t' tk, Fr h₀ L h' m → News h₀ L h' news → Q (.str ⟨(x.cps.toList.drop k).toArray⟩ t') { s with heap := h', toks := tk })
    (hs : subscripted slice false (.str x t) (.ref s.heap.objs.size) = operate [.ref s.heap.objs.size, .str x t] (getItem (.str x t) (.ref s.heap.objs.size)) := by with_unfolding_all rfl)
    (ht : ∀ r, letTemporaryGo value (.str x t) r = pure () := by intro _; with_unfolding_all rfl) :
    wpAny (model prog w) A (subscriptTail value slice (.str x t) (.ref s.heap.objs.size)) Q E { s with heap := s.heap.push { cls := .type "slice", data := .fields #[.int i ui, .none, .none] } } := by
  refine slice_strN_sn F N (fun h' t' tk F' N' => ?_) hs ht (by have := sizeLine_eq; omega)
  rw [slice_suf hi hk]
  exact h h' t' tk F' N'
end
theorem lines_C18_1 : True := by
  k_with "subscriptTail Name Slice str ref" => (
      k_here
      k_dflt (first
      | (refine' pre_slice ?k1 ?k2 hr ?k4 hz ?_ ?k9 ?kA; (case k1 => k_asm); (case k2 => k_asm); (case k4 => assumption); (case k9 => with_unfolding_all rfl); (case kA => (intro _; with_unfolding_all rfl)); k_whole)
      | (refine' suf_slice ?k1 ?k2 hr ?k4 hz ?_ ?k9 ?kA; (case k1 => k_asm); (case k2 => k_asm); (case k4 => assumption); (case k9 => with_unfolding_all rfl); (case kA => (intro _; with_unfolding_all rfl)); k_whole))
      intro h' t' tk' F' N')
  k_with "call ref" => (
      k_here
      k_dflt (refine use (news := []) (c_fspath w _ _ _ _) (by k_asm) (by k_asm) (by k_asm) (by intro q hq; cases hq) (by assumption) (by k_asm) (by exact rfl) trivial (by dsimp +zetaDelta only [aA, Around.deeper]; omega) (by dsimp +zetaDelta only [aA, Around.deeper]; omega) ?_)
      rintro v h2 tk2 ps2 F2 N2 ok2 G2 rfl -
      (try dsimp only [List.nil_append] at N2))
  trivial
noncomputable abbrev tupC (vs : Array Value) : Obj := { cls := .type "tuple", data := .seq vs }
noncomputable abbrev headS (p : Str) (k : Nat) : Str := ⟨(p.cps.toList.take k).toArray⟩
theorem ne198 {h₀ h : Heap} {L a : Addr} {news : List (Addr × Obj)} {vs ps : Array Value} (N : News h₀ L h news) (h1 : (a, tupC vs) ∈ news) (h2 : (198, tabObj ps) ∈ news) : a ≠ 198 := fun q => by
  have x := (N _ h1).1
  have y := (N _ h2).1
  dsimp only at x y
  rw [q, y] at x
  cases x
noncomputable def SplitPost (a b : Str) (h h' : Heap) (v : Value) : Prop := ∃ r t1 t2, v = .ref r ∧ h.get? r = none ∧ h'.get? r = some (tupC #[.str a t1, .str b t2])
theorem c_split (w : World) (p : Str) (t : Tok) (k : Nat) (hr : Txt.rfind p (Str.ofString "/") + 1 = (k : Int)) (hk : k ≤ p.length) (hz : p.length ≤ 5000)
    (hne : 0 < k → (headS p k != Txt.mul (Str.ofString "/") ((headS p k).length : Int)) = true) :
    Pure w 4 30 157 [.str p t] (fun _ => True) (SplitPost (if k = 0 then headS p k else Txt.rstripChars (headS p k) (Str.ofString "/")) ⟨(p.cps.toList.drop k).toArray⟩) := by
  unfold Pure
  k_fill
  intro mean mg mb dp un fr gd Q E s X T hT hp hdp hun hret
  refine' enter (binds := [(Str.ofString "p", .str p t)]) ?k3 ?k5 ?kT ?k6 ?k7 ?k8 ?k9 ?kB ?kk ?c2 ?c3 ?c4 ?c5
  walk_at "mine enter"
  refine entL (by first | assumption | with_unfolding_all passes_own) ?_
  intro A1 e1 Qc Ec hQc hEc
  k_steps
  have hln : Str.length ⟨(p.cps.toList.take k).toArray⟩ = k := by
    show ((p.cps.toList.take k).toArray).size = k
    rw [List.size_toArray, List.length_take, Array.length_toList]; show min k p.length = k; omega
  have l0' : @LT.lt Nat _ 198 L' := l0
  rcases Nat.eq_zero_or_pos k with hk0 | hk0
  · refine KXt.truthy (b := false) (by rw [hln, hk0]; rfl) (by omega) fun tk9 => ?_
    k_steps
    rename News _ _ _ _ => N9
    rw [if_pos hk0] at hret
    exact leaveP_in (by k_asm) N9 (by k_mem) (by assumption) fun G T' => hret _ _ _ G T' ⟨_, _, _, rfl, gh_none' (N9 _ (.head _)).2.2 (ne198 N9 (by k_mem) (by k_mem)), (N9 _ (.head _)).1⟩
  · refine KXt.truthy_pos (K := 5000) (by rw [hln]; exact hk0) (by omega) (by omega) fun tk9 => ?_
    have hne' := hne hk0
    k_steps
    · rename News _ _ _ _ => N9
      rw [if_neg (by omega)] at hret
      exact leaveP_in (by k_asm) N9 (by k_mem) (by assumption) fun G T' => hret _ _ _ G T' ⟨_, _, _, rfl, gh_none' (N9 _ (.head _)).2.2 (ne198 N9 (by k_mem) (by k_mem)), (N9 _ (.head _)).1⟩
end Mine
end
section
open PySem PySem.W PySem.Spec PySem.Calls PyProof.Rows
set_option maxRecDepth 100000
set_option maxHeartbeats 2000000
namespace Mine
theorem l0_T6 : True := by
  k_with_none
  k_with "q" => (all_goals first | assumption | with_unfolding_all exact rfl)
  k_with "ar" => with_reducible first | assumption | (apply Ar.notlt; k_extra "q") | (apply Ar.n23; k_extra "q") | (apply Ar.n24; k_extra "q")
  trivial
noncomputable def cut (h : Heap) (n : Nat) : Heap := { h with objs := h.objs.extract 0 n }
theorem cut_size {h : Heap} {n : Nat} (hn : n ≤ h.objs.size) : (cut h n).objs.size = n := by
  show (h.objs.extract 0 n).size = n
  rw [Array.size_extract]; omega
theorem cut_at (h : Heap) (n a : Nat) : (cut h n).objs[a]? = if a < n then h.objs[a]? else none := by
  show (h.objs.extract 0 n)[a]? = _
  rw [Array.getElem?_extract]
  by_cases ha : a < n
  · rw [if_pos ha]
    by_cases hb : a < h.objs.size
    · rw [if_pos (by omega)]; simp
    · rw [if_neg (by omega)]
      rw [Array.getElem?_eq_none (by omega)]
  · rw [if_neg ha, if_neg (by omega)]
theorem cut_lt {h : Heap} {n a : Nat} (ha : a < n) : (cut h n).get? a = h.get? a := by
  unfold Heap.get?
  rw [cut_at, if_pos ha]
theorem cut_of {h : Heap} {n a : Nat} {o : Obj} (e : (cut h n).get? a = some o) : a < n ∧ h.get? a = some o := by
  by_cases ha : a < n
  · exact ⟨ha, by rw [cut_lt ha] at e; exact e⟩
  · unfold Heap.get? at e
    rw [cut_at, if_neg ha] at e
    cases e
noncomputable def above (h : Heap) (n : Nat) : List (Addr × Obj) := (List.range h.objs.size).filterMap fun a => if n < a then (h.get? a).map fun o => (a, o) else none
theorem mem_above {h : Heap} {n : Nat} {p : Addr × Obj} : p ∈ above h n ↔ n < p.1 ∧ h.get? p.1 = some p.2 := by
  unfold above
  rw [List.mem_filterMap]
  constructor
  · (intro qr0; (refine ex1E qr0 fun a qq1 => ?_; try clear qr0; refine and2E qq1 fun qq10 e => ?_; try clear qq1; rcases qq10 with -))
    by_cases hn : n < a
    · rw [if_pos hn] at e
      cases q : h.get? a with
      | none => rw [q] at e; cases e
      | some o => rw [q] at e; cases e; exact ⟨hn, q⟩
    · rw [if_neg hn] at e; cases e
  · (intro qr0; (refine and2E qr0 fun hn e => ?_; try clear qr0))
    exact ⟨p.1, List.mem_range.mpr (Heap.lt_size e), by rw [if_pos hn, e]; rfl⟩
noncomputable def Moves (L : Addr) (h h' : Heap) : Prop := (∀ b o, b ≠ 198 → @Ne Nat b L → h.get? b = some o → h'.get? b = some o)
theorem Moves.trans {L : Addr} {a b c : Heap} (x : Moves L a b) (y : Moves L b c) : Moves L a c := fun d o h1 h2 e => y d o h1 h2 (x d o h1 h2 e)
theorem view_of {h : Heap} {L : Addr} {m : Str → Option Value} (hn : h.Ns L m) (hT : Tab h) (hl : @LT.lt Nat _ 198 L) :
    ∃ base nw ps, Fr base L h m ∧ News base L h ((198, tabObj ps) :: nw) ∧ TabOk ps ∧ (∀ q ∈ nw, q.1 ≠ 198) ∧
      (∀ h' m' ps', Fr base L h' m' → News base L h' ((198, tabObj ps') :: nw) → TabOk ps' → Moves L h h' ∧ Tab h') ∧
      (∀ h₀ : Heap, (∀ b o, h₀.get? b = some o → h.get? b = some o) → h₀.objs.size ≤ L → h₀.get? 198 = none → ∀ b o, h₀.get? b = some o → base.get? b = some o) := by
  (refine ex1E hT fun ps qq1 => ?_; try clear hT; refine and2E qq1 fun hps ok => ?_; try clear qq1)
  have hsz : L < h.objs.size := hn.lt
  have c1 : (cut h L).objs.size = L := cut_size (Nat.le_of_lt hsz)
  refine ⟨gh (cut h L), above h L, ps, ⟨hn, fun b o e => (cut_of (gh_of e)).2, Nat.le_of_eq ((gh_size _).trans c1)⟩, fun p hp => ?_, ok, fun q hq => ?_, fun h' m' ps' F N ok' => ⟨fun b o h1 h2 e => ?_, ps', (N _ (.head _)).1, ok'⟩, fun h₀ hk hs hn0 b o e => ?_⟩
  · rcases List.mem_cons.mp hp with rfl | hp
    · exact ⟨hps, Nat.ne_of_lt hl, gh_198 _⟩
    · have := mem_above.mp hp
      refine ⟨this.2, Nat.ne_of_gt this.1, ?_⟩
      cases q : (gh (cut h L)).get? p.1 with
      | none => rfl
      | some o => exact absurd (cut_of (gh_of q)).1 (Nat.not_lt.mpr (Nat.le_of_lt this.1))
  · have := mem_above.mp hq
    exact Nat.ne_of_gt (Nat.lt_trans hl this.1)
  · rcases Nat.lt_trichotomy b L with hb | hb | hb
    · exact F.keep b o (gh_ne (by rw [cut_lt hb]; exact e) h1)
    · exact absurd hb h2
    · exact (N (b, o) (.tail _ (mem_above.mpr ⟨hb, e⟩))).1
  · have hb : @LT.lt Nat _ b L := Nat.lt_of_lt_of_le (Heap.lt_size e) hs
    refine gh_ne (by rw [cut_lt hb]; exact hk b o e) fun q => ?_
    rw [q, hn0] at e; cases e
end Mine
end
section
open PySem PySem.W PySem.Spec PySem.Calls PyProof.Rows
set_option maxRecDepth 100000
set_option maxHeartbeats 2000000
namespace Mine
theorem l0_T7 : True := by
  k_with_none
  k_with "q" => (all_goals first | assumption | with_unfolding_all exact rfl)
  k_with "ar" => with_reducible first | assumption | (apply Ar.le0; k_extra "q") | (apply Ar.n17; k_extra "q") | (apply Ar.n18; k_extra "q") | (apply Ar.n11; k_extra "q")
  trivial
noncomputable abbrev wk (D U : Nat) : Around := aA D U none none
section
variable {M : Model} {A : Around} {E : Value → Shared → Prop} {s : Shared} {D U : Nat}
theorem weak {α : Type} {m : Sem α} {Q : α → Shared → Prop} (hh : A.handled = none) (hd : A.depth ≤ D) (hu : A.units ≤ U) (h : wpAny M (wk D U) m Q E s) : wpAny M A m Q E s := by
  intro Γ p hΓ
  (refine and5E hΓ fun h1 h2 h3 h4 h5 => ?_; try clear hΓ)
  have x : Γ.In (wk D U) := by
    refine ⟨h1.trans hh, Nat.le_trans h2 hd, ?_, ?_, Nat.le_trans h5 hu⟩
    · intro l hl; cases hl
    · intro g hg; cases hg
  exact h Γ p x
end
section
variable {prog : Program} {w : World} {A : Around} {E : Value → Shared → Prop} {s : Shared}
theorem call_next_gen {a : Addr} {g n : Nat} {gs : GenState} {P : Nat → Shared → Shared → Prop} {Y : Protocol} {Q : Value → Shared → Prop} (hh : A.handled = none)
    (hl : s.heap.NoLimit) (hroom : A.depth < recursionLimit) (hg : s.heap.IsGen a g) (hgs : s.gens[g]? = some gs)
    (hgo : gs.Goes (model prog w) A.in1.in1 (fun n s₀ r s₁ => r = .ok (.ret .none) ∧ P n s₀ s₁) Y n (.send .none) (s.setGen g .running))
    (hY : ∀ v s₁ gs', Y (n - 1) (s.setGen g .running) v s₁ (fun r' s'' => match n with
        | 0 => False
        | m + 1 => gs'.Goes (model prog w) A.in1.in1 (fun n s₀ r s₁ => r = .ok (.ret .none) ∧ P n s₀ s₁) Y m r' s'') → Q v (s₁.setGen g gs'))
    (hP : ∀ s₁, P n (s.setGen g .running) s₁ → ∀ h' e, Heap.MadeExcOf s₁.heap h' e (.type "StopIteration") [] → E (.ref e) { s₁.setGen g .finished with heap := h' }) :
    wpAny (model prog w) A (call (.builtin "next") [.ref a]) Q E s := by
  refine call_function_entry (by decide +kernel) (by decide +kernel) kdk_entry_next (kdk_args_next _) ?_
  unfold Builtin.«next»
  refine wpAny_bind (m := someArgs "next" 1 2 _) (wpAny_of_eq (a := [Value.ref a]) (by first | rfl | kernel_rfl!) ?_)
  dsimp only
  refine wpAny_bind (wpAny_specialOf (name := Str.ofString "__next__") hg.typeIs slot_gen_next.lookup ?_)
  refine wpAny_ite_split (fun hab => absurd hab (by decide)) (fun _ => ?_)
  refine wpAny_bind (wpAny_callSpecial?_slot (name := Str.ofString "__next__") hg.typeIs slot_gen_next
    (wpAny_call_entry slot_gen_next hg.typeIs entry_gen_next ?_ (args_gen_next _)))
  show wpAny _ _ (Builtin.Generator.genWake (.ref a) (.send .none)) _ _ s
  unfold Builtin.Generator.genWake
  refine wpAny_bind (wpAny_holding (wpAny_genNumber hg (wpAny_bind (wpAny_genState hgs ?_))))
  cases gs with
  | running => exact hgo.elim
  | finished => exact hgo.elim
  | _ =>
    refine wpAny_bind (wpAny_roomToWake hl hroom ?_)
    show wpAny _ _ (.resume g (.send .none) [] _) _ _ s
    refine wpAny_resume hgs hgo (fun x s₁ hx => ?_) (fun v s₁ gs' hv => ?_)
    · (refine and2E hx fun qq0 hp => ?_; try clear hx; rcases qq0 with rfl)
      show wpAny _ _ (newExc (.type "StopIteration") [] >>= _) _ _ _
      refine wpAny_bind ?_
      simp -iota only [newExc, newTuple]
      refine wpAny_bind (wpAny_newObj_type ?_ (by size_fits))
      refine wpAny_bind (m := firstArgMember _ _) (wpAny_of_eq (a := Value.none) (by first | rfl | (simp -iota only [firstArgMember]; rfl)) ?_)
      refine wpAny_newObj_type ?_ (by size_fits)
      simp -iota only [raiseNew]
      refine wpAny_bind (wpAny_bind (wpAny_handled ?_))
      rw [show A.in1.in1.handled = none from hh]
      refine wpAny_throw ?_
      have hsz := Heap.size_push s₁.heap { cls := .type "tuple", data := .seq ([] : List Value).toArray }
      have h := hP s₁ hp _ _ ⟨fun b o e => Heap.get?_push_of_some _ (Heap.get?_push_of_some _ e), Heap.get?_none_of_le (by rw [hsz]; exact Nat.le_succ _), _, Heap.get?_push_size _ rfl, Heap.get?_none_of_le (Nat.le_refl _), Heap.get?_push_of_some _ (Heap.get?_push_size _ rfl)⟩
      exact h
    · exact wpAny_pure ⟨v, rfl, wpAny_pure ⟨v, rfl, hY v s₁ gs' hv⟩⟩
end
noncomputable def PathIs (h : Heap) (L : Addr) (p : Str) : Prop := ∃ m t, h.Ns L m ∧ m (Str.ofString "path") = some (.str p t)
structure Gok (h₀ : Heap) (L : Addr) (h : Heap) (p : Str) : Prop where
  path : PathIs h L p
  tab : Tab h
  keep : ∀ b o, h₀.get? b = some o → h.get? b = some o
noncomputable def GP (L : Addr) (n : Nat) (s₀ s₁ : Shared) : Prop := n = 0 ∧ ∃ h' tk, s₁ = { s₀ with heap := h', toks := tk } ∧ Moves L s₀.heap h' ∧ Tab h' ∧ (∃ m, h'.Ns L m)
noncomputable def GR (L : Addr) : GenEnd := fun n s₀ r s₁ => r = .ok (.ret .none) ∧ GP L n s₀ s₁
noncomputable def GY (h₀ : Heap) (L : Addr) (q : Nat → Str) : Protocol := fun n s₀ v s₁ kap =>
  ∃ t h' tk, v = .str (q (n + 1)) t ∧ s₁ = { s₀ with heap := h', toks := tk } ∧ Moves L s₀.heap h' ∧ Tab h' ∧ PathIs h' L (q (n + 1)) ∧ ∀ s'', Gok h₀ L s''.heap (q (n + 1)) → kap (.send .none) s''
noncomputable def GGo (prog : Program) (w : World) (D U : Nat) (h₀ : Heap) (L : Addr) (q : Nat → Str) (gs : GenState) (p : Str) (n : Nat) : Prop :=
  ∀ s, Gok h₀ L s.heap p → gs.Goes (model prog w) (wk D U) (GR L) (GY h₀ L q) n (.send .none) s
section
variable {prog : Program} {w : World} {A : Around} {E : Value → Shared → Prop} {s : Shared} {D U : Nat} {h₀ : Heap} {L a : Addr} {q : Nat → Str} {gs : GenState} {p : Str} {g n : Nat}
theorem in2_wk (h : 2 ≤ U) : (wk D (U - 2)).in1.in1 = wk D U := by
  show aA D (U - 2 + 1 + 1) none none = aA D U none none
  rw [show U - 2 + 1 + 1 = U by omega]
theorem gen_item {Q : Value → Shared → Prop} (hh : A.handled = none) (hd : A.depth ≤ D) (hu : A.units + 2 ≤ U) (hD : D < recursionLimit) (hl : s.heap.NoLimit) (hg : s.heap.IsGen a g) (hgs : s.gens[g]? = some gs) (G : Gok h₀ L s.heap p)
    (hgo : GGo prog w D U h₀ L q gs p (n + 1))
    (h : ∀ t h' tk gs', Moves L s.heap h' → Tab h' → PathIs h' L (q (n + 1)) → GGo prog w D U h₀ L q gs' (q (n + 1)) n → Q (.str (q (n + 1)) t) { s with heap := h', toks := tk, gens := (s.gens.setIfInBounds g gs') }) :
    wpAny (model prog w) A (call (.builtin "next") [.ref a]) Q E s := by
  refine weak (D := D) (U := U - 2) hh hd (by omega) ?_
  have e : (wk D (U - 2)).in1.in1 = wk D U := in2_wk (by omega)
  refine call_next_gen rfl hl hD hg hgs (Y := GY h₀ L q) (P := GP L) (n := n + 1) (by rw [e]; exact hgo _ ⟨G.path, G.tab, G.keep⟩) ?_ ?_
  · (intro v s₁ gs' qr3; (refine ex3E qr3 fun t h' tk qq3 => ?_; try clear qr3; refine and6E qq3 fun qq30 qq31 mv tb pi k => ?_; try clear qq3; rcases qq30 with rfl; rcases qq31 with rfl))
    have := h t h' tk gs' mv tb pi (fun s'' G'' => by have := k s'' G''; rw [e] at this; exact this)
    have e2 : (s.gens.setIfInBounds g .running).setIfInBounds g gs' = s.gens.setIfInBounds g gs' := Array.setIfInBounds_setIfInBounds _
    show Q (.str (q (n + 1)) t) { s with heap := h', toks := tk, gens := (s.gens.setIfInBounds g .running).setIfInBounds g gs' }
    rw [e2]
    exact this
  · (intro s₁ qr1; (refine and2E qr1 fun hn ux => ?_; try clear qr1)); cases hn
theorem gen_stop {Q : Value → Shared → Prop} (hh : A.handled = none) (hd : A.depth ≤ D) (hu : A.units + 2 ≤ U) (hD : D < recursionLimit) (hl : s.heap.NoLimit) (hg : s.heap.IsGen a g) (hgs : s.gens[g]? = some gs) (G : Gok h₀ L s.heap p)
    (hgo : GGo prog w D U h₀ L q gs p 0) (h8 : h₀.get? 198 = none) (hL : h₀.objs.size ≤ L)
    (h : ∀ h₁ tk h' e, Moves L s.heap h₁ → Tab h₁ → (∃ m, h₁.Ns L m) → Heap.MadeExcOf h₁ h' e (.type "StopIteration") [] → E (.ref e) { s with heap := h', toks := tk, gens := (s.gens.setIfInBounds g .finished) }) :
    wpAny (model prog w) A (call (.builtin "next") [.ref a]) Q E s := by
  refine weak (D := D) (U := U - 2) hh hd (by omega) ?_
  have e : (wk D (U - 2)).in1.in1 = wk D U := in2_wk (by omega)
  refine call_next_gen rfl hl hD hg hgs (Y := GY h₀ L q) (P := GP L) (n := 0) (by rw [e]; exact hgo _ ⟨G.path, G.tab, G.keep⟩) ?_ ?_
  · (intro v s₁ gs' qr3; (refine ex3E qr3 fun t h' tk qq3 => ?_; try clear qr3; refine and6E qq3 fun qq30 qq31 mv tb pi k => ?_; try clear qq3; rcases qq30 with rfl; rcases qq31 with rfl))
    exact (k { s with heap := h' } ⟨pi, tb, fun b o e => by
      by_cases h1 : b = 198
      · rw [h1, h8] at e; cases e
      · by_cases h2 : b = L
        · exact absurd (Heap.lt_size e) (by rw [h2]; exact Nat.not_lt.mpr hL)
        · exact mv b o h1 h2 (G.keep b o e)⟩).elim
  · (intro s₁ qr1 h' e hx; (refine and2E qr1 fun ux qq1 => ?_; try clear qr1; refine ex2E qq1 fun h₁ tk qq12 => ?_; try clear qq1; refine and4E qq12 fun qq120 mv tb ns => ?_; try clear qq12; rcases qq120 with rfl))
    have e2 : (s.gens.setIfInBounds g .running).setIfInBounds g .finished = s.gens.setIfInBounds g .finished := Array.setIfInBounds_setIfInBounds _
    have := h h₁ tk h' e mv tb ns hx
    show E (.ref e) { s with heap := h', toks := tk, gens := (s.gens.setIfInBounds g .running).setIfInBounds g .finished }
    rw [e2]
    exact this
end
end Mine
end
section
open PySem PySem.W PySem.Spec PySem.Calls PyProof.Rows
set_option maxRecDepth 100000 
set_option maxHeartbeats 2000000 
namespace Mine
structure AncQ (q : Nat → Str) (N : Nat) : Prop where
  yes : ∀ n, 1 ≤ n → n ≤ N → 1 ≤ (Txt.rstripChars (q n) (Str.ofString "/")).length
  no : Txt.rstripChars (q 0) (Str.ofString "/") = Str.empty
  len : ∀ n, n ≤ N → (q n).length ≤ 5000
  step : ∀ n, n + 1 ≤ N → ∃ k : Nat, Txt.rfind (q (n + 1)) (Str.ofString "/") + 1 = (k : Int) ∧ k ≤ (q (n + 1)).length ∧ (0 < k → (headS (q (n + 1)) k != Txt.mul (Str.ofString "/") ((headS (q (n + 1)) k).length : Int)) = true) ∧
    q n = if k = 0 then headS (q (n + 1)) k else Txt.rstripChars (headS (q (n + 1)) k) (Str.ofString "/")
noncomputable def GenObj (o : Obj) (g : Nat) : Prop := ∃ nm qn, o.cls = .type "generator" ∧ o.data = .fields #[.int g 0, nm, qn] ∧ o.slots = #[]
noncomputable def PathObj (o : Obj) (p : Str) : Prop := ∃ m t, LCg.NsObj o m ∧ m (Str.ofString "path") = some (.str p t)
theorem fn_if {m : Str → Option Value} {x : Str} {v : Option Value} (h : m x = v) : m = fun y => if y = x then v else m y := by
  funext y
  by_cases e : y = x
  · rw [if_pos e, e, h]
  · rw [if_neg e]
inductive GView (w : World) (mean : ExcName → Option Value) (mg mb : Str → Option Value) (b₀ : Heap) (L : Addr) (h : Heap) (p : Str) : Prop
  | mk (base : Heap) (nw : List (Addr × Obj)) (ps : Array Value) (m : Str → Option Value) (t : Tok) (FB : Fr base L h (fun y => if y = Str.ofString "path" then some (.str p t) else m y)) (NB : News base L h ((198, tabObj ps) :: nw)) (ok : TabOk ps) (off : ∀ q ∈ nw, q.1 ≠ 198)
    (back : ∀ h' m' ps', Fr base L h' m' → News base L h' ((198, tabObj ps') :: nw) → TabOk ps' → Moves L h h' ∧ Tab h') (upb : ∀ b o, b₀.get? b = some o → base.get? b = some o) (XB : (hd.heap_1_1 w.params).In base) (TB : Top topProg LO mean mg mb base) : GView w mean mg mb b₀ L h p
inductive ASt (b₀ : Heap) (L : Addr) (q : Nat → Str) (n : Nat) (s₀ : Shared) : Shared → Prop
  | mk (h : Heap) (tk : Nat) (mv : Moves L s₀.heap h) (G : Gok b₀ L h (q n)) : ASt b₀ L q n s₀ ⟨h, s₀.gens, s₀.drawn, tk, s₀.os⟩
theorem gview {w : World} {mean : ExcName → Option Value} {mg mb : Str → Option Value} {b₀ h : Heap} {L : Addr} {p : Str} (X₀ : (hd.heap_1_1 w.params).In b₀) (T₀ : Top topProg LO mean mg mb b₀) (hb8 : b₀.get? 198 = none) (hbL : b₀.objs.size ≤ L) (l198 : @LT.lt Nat _ 198 L) (G : Gok b₀ L h p) : GView w mean mg mb b₀ L h p := by
  (refine ex2E G.path fun m1 t1 qq2 => ?_; refine and2E qq2 fun hns1 hm1 => ?_; try clear qq2)
  (refine ex3E (view_of hns1 G.tab l198) fun base nw ps qq3 => ?_; refine and6E qq3 fun FB NB ok off back upb => ?_; try clear qq3)
  have up := upb b₀ G.keep hbL hb8
  rw [fn_if hm1] at FB
  exact .mk base nw ps m1 t1 FB NB ok off back up (X₀.keeps up) (T₀.keeps up)
theorem seg_all {M : Model} {A : Around} {R : GenEnd} {Y : Protocol} {c : Code} {t : Sem Fin} {fs : List Frame} {N : Nat} (I : Nat → Shared → Shared → Prop)
    (h : ∀ n, n ≤ N → (∀ m, m + 1 = n → ∀ s₀ s, I m s₀ s → Seg M A R Y m s₀ c t fs s) → ∀ s₀ s, I n s₀ s → Seg M A R Y n s₀ c t fs s) (s₀ s : Shared) (hI : I N s₀ s) : Seg M A R Y N s₀ c t fs s := by
  have key : ∀ n, n ≤ N → ∀ s₀ s, I n s₀ s → Seg M A R Y n s₀ c t fs s := by
    intro n
    induction n with
    | zero => intro hn; exact h 0 hn fun m e => (nomatch e)
    | succ n ih => intro hn; exact h (n + 1) hn fun m e => by cases e; exact ih (by omega)
  exact key N (Nat.le_refl _) s₀ s hI
theorem lines_C19_0 : True := by
  k_with_none
  k_with "q" => (all_goals first | assumption | with_unfolding_all exact rfl)
  k_with "ar" => with_reducible first | assumption | (apply Ar.le0; k_extra "q") | (apply Ar.rm2; k_extra "q") | (apply Ar.snq; k_extra "q") | (apply Ar.rl0; k_extra "q")
  k_with "truthy str" => (
      k_here
      k_dflt (first | (refine KXt.truthy_pos (K := 5000) hy (by omega) (by omega) ?_) | (refine KXt.truthy (b := false) (by rw [hno]; rfl) (by rw [hno]; decide) ?_))
      intro k')
  k_with "call ref" => (
      k_here
      k_dflt (refine use2 [] nw (c_split w _ _ k hr hk hln hne) (by k_asm) (by k_asm) (by k_asm) (by intro q hq; cases hq) off ok (by k_asm) (by exact rfl) trivial (by first | (change D + 4 ≤ _; omega) | (change D + 1 + 4 ≤ _; omega) | (change D + 2 + 4 ≤ _; omega)) (by first | (change U + 30 ≤ _; omega) | (change U + 1 + 30 ≤ _; omega) | (change U + 2 + 30 ≤ _; omega) | (change U + 3 + 30 ≤ _; omega) | (change U + 4 + 30 ≤ _; omega)) ?_)
      (intro v h3 tk3 ps3 F3 N3 ok3 G3 qr8 hnew; (refine ex3E qr8 fun r t3 t4 qq3 => ?_; try clear qr8; refine and3E qq3 fun qq30 hrn hrg => ?_; try clear qq3; rcases qq30 with rfl))
      rw [← hqn] at hrg
      replace N3 := news_add (hnew _ hrn) hrg N3
      dsimp only [List.nil_append] at N3)
  trivial
section
variable {w : World} {mean : ExcName → Option Value} {mg mb : Str → Option Value} {A : Around} {E : Value → Shared → Prop} {s : Shared} {h₀ b₀ : Heap} {L : Addr} {m : Str → Option Value} {news : List (Addr × Obj)} {q : Nat → Str} {N D U : Nat} {x : Str} {t : Tok}
theorem anc_call (w : World) {Q : Value → Shared → Prop} (hq : AncQ q N) (h0 : Txt.rstripChars x (Str.ofString "/") = q N) (hx : x.length ≤ 5000)
    (X₀ : (hd.heap_1_1 w.params).In b₀) (T₀ : Top topProg LO mean mg mb b₀) (hb8 : b₀.get? 198 = none) (F : Fr h₀ L s.heap m) (NN : News h₀ L s.heap news) (hb : ∀ b o, b₀.get? b = some o → s.heap.get? b = some o) (hbL : b₀.objs.size ≤ s.heap.objs.size)
    (hdp : A.depth + 1 ≤ recursionLimit) (hD : D + 10 ≤ recursionLimit) (hU : U + 80 ≤ cLine) (h198 : @LT.lt Nat _ 198 b₀.objs.size)
    (h : ∀ G Lg g gs oL oG h' tk, Fr h₀ L h' m → News h₀ L h' ((G, oG) :: (Lg, oL) :: news) → @LT.lt Nat _ Lg G → (∀ p ∈ news, @LT.lt Nat _ p.1 Lg) → GenObj oG g → PathObj oL x → g = s.gens.size → b₀.objs.size ≤ Lg →
      GGo PySem.Challenge.rw_ij0107_01.row.prog w D U b₀ Lg q gs x N → Q (.ref G) { s with heap := h', toks := tk, gens := s.gens.push gs }) :
    wpAny (model PySem.Challenge.rw_ij0107_01.row.prog w) A (call (.ref 164) [.str x t]) Q E s := by
  revert X₀ T₀
  k_fill
  intro X₀ T₀
  have X' := X₀.keeps hb
  refine wpAny_call (codeAny_call_generator (fd := fnOf _ _ _ _ _ _ _ _ _ _ _ _) (by omega) ((X' _ _ (by k_is))) rfl rfl rfl rfl (codeRec_of X' (by k_is)) ?_)
  refine BindsTo.of_eq (binds := [(Str.ofString "path", .str x t)]) rfl _ _ _ _ ?_
  refine wpAny_newFunctionEnv (by decide) (locs rfl) (fun h₁ hns hsb => ?_) rfl
  have hk₁ : ∀ b o, s.heap.get? b = some o → h₁.get? b = some o := fun b o e => hsb.extBut b o (Nat.ne_of_lt (Heap.lt_size e)) (Heap.get?_push_of_some _ e)
  refine ⟨T₀.nolimit.keeps (fun b o e => hk₁ b o (hb b o e)), ?_⟩
  have hsz : s.heap.objs.size < h₁.objs.size := hns.lt
  (refine ex3E (id hns) fun oL es ep qq3 => ?_; refine and4E qq3 fun hoL hdL hkL hfL => ?_; try clear qq3)
  have up : ∀ (o : Obj) b o', s.heap.get? b = some o' → (h₁.push o).get? b = some o' := fun o b o' e => Heap.get?_push_of_some _ (hk₁ b o' e)
  refine h h₁.objs.size s.heap.objs.size s.gens.size (.fresh (.func _ (envOf (Str.ofString "_ancestry") _ s.heap.objs.size 164 _))) oL { cls := .type "generator", data := .fields #[.int s.gens.size 0, .str (Str.ofString "_ancestry") (s.toks + 1), .str (Str.ofString "_ancestry") (s.toks + 1 + 1)] } _ _ ?_ ?_ ?_ ?_ ?_ ?_ ?_ ?_ ?_
  · exact F.keeps (up _)
  · exact newsC (Heap.get?_push_size _ rfl) ⟨Nat.ne_of_gt (Nat.lt_trans F.ns.lt hsz), Heap.get?_none_of_le (Nat.le_of_lt (Nat.lt_of_le_of_lt F.above (Nat.lt_trans F.ns.lt hsz)))⟩ (newsC (Heap.get?_push_of_some _ hoL) ⟨Nat.ne_of_gt F.ns.lt, next_is_new F⟩ fun p hp => ⟨up _ _ _ (NN p hp).1, (NN p hp).2⟩)
  · exact hsz
  · exact fun p hp => Heap.lt_size (NN p hp).1
  · exact ⟨_, _, rfl, rfl, rfl⟩
  · exact ⟨_, t, ⟨es, ep, hdL, hkL, hfL⟩, rfl⟩
  · rfl
  · exact hbL
  generalize hLg : s.heap.objs.size = Lg at hbL ⊢
  clear hns hoL up hsz hk₁ hsb hfL hkL hdL
  intro s' G
  refine ⟨rfl, seg_func (seg_execs_cons (seg_wrap ?_))⟩
  have l198 : @LT.lt Nat _ 198 Lg := Nat.lt_of_lt_of_le h198 hbL
  obtain ⟨base, nw, ps, m1, t1, FB, NB, ok, off, back, upb, XB, TB⟩ := gview X₀ T₀ hb8 hbL l198 G
  k_steps
  rename News base Lg _ ((198, tabObj ps) :: nw) => N1
  rename Fr base Lg _ _ => F1
  refine and2E (back _ _ _ F1 N1 ok) fun mv1 tb1 => ?_
  have G1 : Gok b₀ Lg _ (q N) := ⟨⟨_, _, F1.ns, by rw [← h0]; rfl⟩, tb1, fun b o e => F1.keep b o (upb b o e)⟩
  refine seg_execs_cons (seg_While fun p => ?_)
  refine seg_all (N := N) (ASt b₀ Lg q) ?_ _ _ (.mk _ _ mv1 G1)
  clear G1 mv1 tb1 F1 N1 back upb XB TB off ok G
  (intro n hn ih s₀ _ qr5; obtain ⟨h2, tk2, mv2, G⟩ := qr5)
  obtain ⟨base, nw, ps, m1, t1, FB, NB, ok, off, back, upb, XB, TB⟩ := gview X₀ T₀ hb8 hbL l198 G
  refine seg_whileLoop ?_
  have hln := hq.len n hn
  cases n with
  | zero =>
    have hno := hq.no
    k_steps
    rename News base Lg _ _ => N1
    rename Fr base Lg _ _ => F1
    refine and2E (back _ _ _ F1 N1 ok) fun mv1 tb1 => ?_
    refine seg_execs_nil (seg_leaf (.ok .next) (seg_end (.ok (.ret .none)) ⟨rfl, rfl, _, _, rfl, mv2.trans mv1, tb1, _, F1.ns⟩))
  | succ n =>
    have hy := hq.yes (n + 1) (by omega) hn
    k_steps
    refine seg_execs_cons (seg_Expr_Yield rfl rfl rfl ?_)
    k_steps
    rename News base Lg _ _ => N1
    rename Fr base Lg _ _ => F1
    refine and2E (back _ _ _ F1 N1 ok) fun mv1 tb1 => ?_
    rename_i kap hkap
    refine ⟨_, _, _, rfl, rfl, mv2.trans mv1, tb1, ⟨_, _, F1.ns, rfl⟩, fun s'' G9 => hkap _ s'' ?_⟩
    clear hkap mv1 tb1 F1 N1 back upb XB TB off ok G mv2 base nw
    obtain ⟨base, nw, ps, m1, t1, FB, NB, ok, off, back, upb, XB, TB⟩ := gview X₀ T₀ hb8 hbL l198 G9
    refine seg_execs_cons (seg_wrap ?_)
    (refine ex1E (hq.step n hn) fun k qq1 => ?_; refine and4E qq1 fun hr hk hne hqn => ?_; try clear qq1)
    k_steps
    rename News base Lg _ _ => N1
    rename Fr base Lg _ _ => F1
    refine and2E (back _ _ _ F1 (fun p hp => N1 p (.tail _ hp)) (by assumption)) fun mv1 tb1 => ?_
    exact seg_execs_nil (seg_again (by rfl) (ih n rfl _ _ (.mk _ _ mv1 ⟨⟨_, _, F1.ns, rfl⟩, tb1, fun b o e => F1.keep b o (upb b o e)⟩)))
end
end Mine
end
section
open PySem PySem.W PySem.Spec PySem.Calls PyProof.Rows
set_option maxRecDepth 100000
set_option maxHeartbeats 2000000
namespace Mine
theorem l0_T8 : True := by
  k_with_none
  trivial
section
variable {prog : Program} {w : World} {A : Around} {E : Value → Shared → Prop} {s : Shared} {h₀ : Heap} {L : Addr} {env : Env} {Q : Flow → Shared → Prop} {iter : Expr} {body : List Stmt}
inductive TupEnd (h₀ : Heap) (L : Addr) (m : Str → Option Value) (led : List (Addr × Obj)) (gens : Array GenState) (drawn : Drawn) (os : OsState) : Flow → Shared → Prop
  | mk (h' : Heap) (tk' : Nat) (F : Fr h₀ L h' m) (N : News h₀ L h' led) : TupEnd h₀ L m led gens drawn os .next ⟨h', gens, drawn, tk', os⟩
theorem for_tuple {pos px : Pos} {x : Str} {D : Addr} {vs : Array Value} {m : Str → Option Value} {news : List (Addr × Obj)}
    (hh : A.handled = none) (hLe : env.locals = L) (hx : env.kindOf x = some .local) (hp : (env.scope.kind == .class || (env.scope.kind == .module && env.locals != env.globals)) = false)
    (F : Fr h₀ L s.heap m) (N : News h₀ L s.heap news) (hm : (D, ({ cls := .type "tuple", data := .seq vs } : Obj)) ∈ news)
    (hev : ∀ (Q' : Value → Shared → Prop), Q' (.ref D) s → wpAny (model prog w) A (eval iter env) Q' E s)
    (turn : ∀ (i : Nat) v I oI m' h tk, vs[i]? = some v → m' x = some v → (∀ y, y ≠ x → m' y = m y) → Fr h₀ L h m' → News h₀ L h ((I, oI) :: news) →
      wpAny (model prog w) A (execs body env) (TupEnd h₀ L m' ((I, oI) :: news) s.gens s.drawn s.os) E { s with heap := h, toks := tk })
    (done : ∀ m' h tk, (∀ y, y ≠ x → m' y = m y) → Fr h₀ L h m' → News h₀ L h news → Q .next { s with heap := h, toks := tk })
    (hs : ∀ x, foldedSetIterable iter env x = pure x := by intro _; rfl) (hE : PassesOwn (model prog w) A env E := by passes_own) :
    wpAny (model prog w) A (exec (.For (.Name x px) iter body [] pos) env) Q E s := by
  subst hLe
  refine for_walks (h₀ := h₀) (L := env.locals) (hev _ ?_) hs hE
  have hts : s.heap.IsTuple D vs := ⟨_, (N _ hm).1, rfl, _, rfl⟩
  have hlt : D < s.heap.objs.size := Heap.lt_size (N _ hm).1
  have hne : D ≠ s.heap.objs.size := Nat.ne_of_lt hlt
  refine wpAny_pyIter_tuple hts ?_
  have up : ∀ b o, s.heap.get? b = some o → (s.heap.push { cls := .type "tuple_iterator", data := .fields #[.ref D, .int 0 0] }).get? b = some o := fun b o e => Heap.get?_push_of_some _ e
  refine ⟨_, _, vs.size, fun i v => vs[i]? = some v, fun i h => h.IsTupleIter s.heap.objs.size D i ∧ h.IsTuple D vs, fun _ m' nw => nw = news ∧ ∀ y, y ≠ x → m' y = m y, m, news, Walks.tuple (prog := prog) (w := w) hh s.heap.objs.size D hne vs, fun i h st => ?_, ?_, ?_, ⟨⟨_, Heap.get?_push_size _ rfl, rfl, rfl⟩, hts.at fun o e => up _ _ e⟩,
    F.keeps up, N.grown up, Nat.ne_of_lt F.ns.lt, next_is_new F, fun p hp => Nat.ne_of_lt (Heap.lt_size (N p hp).1), ⟨rfl, fun _ _ => rfl⟩, ?_, ?_⟩
  · (refine ex1E st.1 fun o qq1 => ?_; refine and2E qq1 fun e ux => ?_; try clear qq1); exact ⟨o, e⟩
  · (intro i h h' o m' nw st e e' hk N' qr11; (refine and2E qr11 fun qq0 ux => ?_; try clear qr11; rcases qq0 with rfl))
    (refine and2E st fun qq0 ux => ?_; try clear st; refine ex1E qq0 fun o' qq01 => ?_; try clear qq0; refine and2E qq01 fun q r => ?_; try clear qq01)
    rw [e] at q; cases q
    exact ⟨⟨o, e', r⟩, ⟨_, (N' _ hm).1, rfl, _, rfl⟩⟩
  · intro i v s' Q' E' hP st hq
    exact wpAny_of_eq (rfl : letOwnedTupleGo (.Name x px) _ v = pure ()) hq
  · (intro i v oI m' nw h tk _ hP qr9 F' N' off; (refine and2E qr9 fun qq0 hm' => ?_; try clear qr9; rcases qq0 with rfl))
    refine wpAny_assign_Name (wpAny_storeName_local hx F'.ns (fun h₂ hn₂ hs₂ => ?_) hp)
    have hL₀ : h₀.get? env.locals = none := Heap.get?_none_of_le F'.above
    have F₂ : Fr h₀ env.locals h₂ (fun z => if z = x then some v else m' z) := ⟨hn₂, fun b o e => hs₂.extBut b o (fun q => by rw [q, hL₀] at e; cases e) (F'.keep b o e), F'.above⟩
    refine wpAny_mono (turn i v _ oI _ h₂ _ hP (if_pos rfl) (fun y hy => (if_neg hy).trans (hm' y hy)) F₂ fun p hp => ⟨hs₂.extBut _ _ (N' p hp).2.1 (N' p hp).1, (N' p hp).2⟩) (fun f s₃ h₃ => ?_) fun _ _ z => z
    obtain ⟨h', tk', F₃, N₃⟩ := h₃
    exact ⟨h', tk', _, nw, F₃, N₃, off, rfl, fun y hy => (if_neg hy).trans (hm' y hy)⟩
  · (intro m' nw h tk qr4 F' N'; (refine and2E qr4 fun qq0 hm' => ?_; try clear qr4; rcases qq0 with rfl))
    exact done m' h tk hm' F' N'
end
end Mine
end
section
open PySem PySem.W PySem.Spec PySem.Calls PyProof.Rows
set_option maxRecDepth 100000 
set_option maxHeartbeats 2000000 
namespace Mine
theorem size_le {h₀ h : Heap} {L : Addr} {m : Str → Option Value} (F : Fr h₀ L h m) : h₀.objs.size ≤ h.objs.size := Nat.le_trans F.above (Nat.le_of_lt F.ns.lt)
theorem fn_ext {m m' : Str → Option Value} {x : Str} (h : ∀ y, y ≠ x → m' y = m y) : m' = fun y => if y = x then m' x else m y := by
  funext y
  by_cases e : y = x
  · rw [if_pos e, e]
  · rw [if_neg e, h y e]
section
variable {prog : Program} {w : World} {A : Around} {E : Value → Shared → Prop} {s : Shared}
theorem GenObj.is {h : Heap} {a : Addr} {o : Obj} {g : Nat} (x : GenObj o g) (e : h.get? a = some o) : h.IsGen a g := by
  (refine ex2E x fun nm qn qq2 => ?_; try clear x; refine and3E qq2 fun h1 h2 h3 => ?_; try clear qq2)
  exact ⟨o, nm, qn, e, h1, h2, h3⟩
theorem iter_genK {a : Addr} {g : Nat} {Q : Value → Shared → Prop} (hg : s.heap.IsGen a g) (h : Q (.ref a) s) : wpAny (model prog w) A (call (.builtin "iter") [.ref a]) Q E s := by
  refine call_function_entry (by decide +kernel) (by decide +kernel) kdk_entry_iter (kdk_args_iter _) ?_
  unfold Builtin.«iter»
  refine wpAny_bind (m := someArgs "iter" 1 2 _) (wpAny_of_eq (a := [Value.ref a]) (by first | rfl | kernel_rfl!) ?_)
  show wpAny _ _ (pyIter (.ref a) >>= _) _ _ _
  refine wpAny_bind (wpAny_pyIter_gen hg ?_)
  exact wpAny_pure ⟨_, rfl, h⟩
end
theorem lines_C20_0 : True := by
  k_with_none
  k_with "q" => (all_goals first | assumption | with_unfolding_all exact rfl)
  k_with "ar" => with_reducible first | assumption | (apply Ar.rm2; k_extra "q") | (apply Ar.rl0; k_extra "q") | (apply Ar.rl2; k_extra "q") | (apply Ar.rl3; k_extra "q") | (apply Ar.rl4; k_extra "q") | (apply Ar.nel; k_extra "q") | (apply Ar.pg0; k_extra "q")
  k_with "storeName" => (
      k_here
      k_dflt (refine storeL (by k_asm) (by k_asm) ?_ (by rfl) (by rfl))
      k_whole
      intro m1 h' tk F' N'
      (try k_sweep))
  k_with "ite" => first | with_reducible refine ite_tt ?_ | with_reducible refine ite_ff ?_
  k_with "execs cons" => first | (with_reducible refine seqT1 ?_; intro tk) | (with_reducible refine seqT ?_; intro Kc tk hKc) | (with_reducible refine blkA ?_; intro A1 e1 E1 Qd tk hQd)
  k_with "Nxt" => (k_dflt (dsimp only [Nxt]))
  k_with "Kont" => first | (k_dflt (refine hKc _ _ ?_; try clear hKc)) | (k_dflt (refine hQd _ _ ?_; try clear hQd)) | (k_dflt (refine hQc _ _ ?_; try clear hQc)) | (k_dflt (refine kont_app (by assumption) ?_))
  k_with "mine n" => (
      (case k6 => k_is)
      (case k7 => k_is)
      (case k8 => ((try dsimp +zetaDelta only [aA, Around.deeper]); omega))
      (case k9 => exact BindsTo.of_eq rfl)
      (case kB => exact locs rfl)
      (case c2 => exact rfl)
      (case c3 => exact rfl)
      (case c4 => exact rfl)
      (case c5 => decide))
  k_with "call builtin:iter" => (
      k_here
      k_dflt (refine iter_genK (GenObj.is hgo (News.get (by k_asm) (by k_mem))) ?_))
  k_with "call ref" => (
      k_here
      with_reducible show wpAny _ _ (call (Value.ref 164) _) _ _ _
      k_dflt (refine anc_call (D := D) (U := U) w hq h0 hx G.X G.T h8 (by k_asm) (by k_asm) (fun b o e => Fr.keep (h₀ := g) (L := L2) (by k_asm) b o (FG2 b o e)) (Nat.le_trans hsz0 (size_le (h₀ := g) (L := L2) (by k_asm))) (by dsimp +zetaDelta only [Around.deeper]; omega) hD hU h198 ?_)
      intro Ga Lg gn gs oL oG h3 tk3 F3 N3 l1 l2 hgo hpo hgn hbl hgg
      (try k_lt l2))
  trivial
theorem lx_C20_0 : True := by
  k_with "k_room" => (first | ((try simp only [depth_under_make, depth_under_kw, depth_in1, depth_deeper, depth_caller]); omega) | (simp +zetaDelta only [depth_under_make, depth_under_kw, depth_in1, depth_deeper, depth_caller]; omega))
  trivial
noncomputable def IslO (o : Obj) (dx G : Addr) (cnt nxt : Int) : Prop := ∃ t1 t2 t3 t4, o = { cls := .ref 85, dict := some dx, data := .plain, slots := #[some (.int cnt t1), some (.ref G), some (.int nxt t2), some (.int 1 t3), some (.int (-1) t4)] }
theorem lx_C20_1 : True := by
  k_with "k_all" => (intro p hp; have q9 : @LT.lt Nat _ p.1 Lg := l2 p hp; refine neN ?_; (try dsimp only); omega)
  trivial
theorem par_call (w : World) {mean : ExcName → Option Value} {mg mb : Str → Option Value} {A A₀ : Around} {E : Value → Shared → Prop} {s : Shared} {h₀ : Heap} {L : Addr} {m : Str → Option Value} {news : List (Addr × Obj)} {env : Env} {outer : List Env} {q : Nat → Str} {N D U : Nat} {x : Str} {t : Tok} {Q : Value → Shared → Prop}
    (hq : AncQ q N) (h0 : Txt.rstripChars x (Str.ofString "/") = q N) (hx : x.length ≤ 5000) (G : Gnd w mean mg mb A₀ h₀ outer env L) (h8 : h₀.get? 198 = none) (h198 : @LT.lt Nat _ 198 h₀.objs.size)
    (hh : A.handled = none) (hdp : A.depth + 8 ≤ recursionLimit) (hun : A.units + 200 ≤ cLine) (hA : A.frames = some (env :: outer)) (hD : D + 10 ≤ recursionLimit) (hU : U + 80 ≤ cLine)
    (F : Fr h₀ L s.heap m) (NN : News h₀ L s.heap news) (h : ∀ (X dx G Lg : Addr) gn gs oX oG oL h' tk, Fr h₀ L h' m → News h₀ L h' ((X, oX) :: (dx, emptyDict) :: (G, oG) :: (Lg, oL) :: news) → @LT.lt Nat _ Lg G → @LT.lt Nat _ G dx → @LT.lt Nat _ dx X → (∀ p ∈ news, @LT.lt Nat _ p.1 Lg) → GenObj oG gn → PathObj oL x → gn = s.gens.size → h₀.objs.size ≤ Lg →
      GGo PySem.Challenge.rw_ij0107_01.row.prog w D U h₀ Lg q gs x N → IslO oX dx G 0 1 → Q (.ref X) { s with heap := h', toks := tk, gens := s.gens.push gs }) : 
    wpAny (model PySem.Challenge.rw_ij0107_01.row.prog w) A (call (.ref 136) [.str x t]) Q E s := by
  obtain ⟨ah, ad, af, ag, au⟩ := A
  dsimp only at hh hdp hun hA
  subst hh hA
  obtain ⟨XK, T, BL, hf, hke⟩ := id G
  revert XK T
  k_fill
  intro XK T
  refine wpAny_call ?_
  refine' code_def (binds := [(Str.ofString "path", .str x t)]) BL F XK NN T rfl hf hke ?k6 ?k7 ?k8 ?k9 ?kB ?kk ?c2 ?c3 ?c4 ?c5
  walk_at "mine n"
  intro g L2 h2 FG F2 N2 BG XG TG
  refine ent_cut (by first | assumption | with_unfolding_all passes_own) ?_
  intro Qc Ec hQc hEc
  have FG2 := FG.keep
  have hsz0 : h₀.objs.size ≤ g.objs.size := Nat.le_trans FG.above (Nat.le_of_lt FG.ns.lt)
  k_steps
  refine' for_tuple rfl ?kl rfl rfl ?kF ?kN ?km ?ke ?kt ?kd
  (case kF => k_asm)
  (case kl => exact rfl)
  (case kN => k_asm)
  (case km => k_mem)
  (case ke => (intro Q' hQ; k_steps; exact hQ))
  case kt =>
    intro i v I2 oI2 m2 h6 tk6 hv hma hmo F6 N6
    rw [fn_if hma] at F6
    rcases i with _ | _ | i
    · obtain rfl : Value.int 1 tk3 = v := Option.some.inj hv
      k_steps
      exact .mk _ _ (by rw [fn_if hma]; k_asm) (by k_asm)
    · obtain rfl : Value.none = v := Option.some.inj hv
      k_steps
      exact .mk _ _ (by rw [fn_if hma]; k_asm) (by k_asm)
    · cases hv
  case kd =>
    intro m2 h6 tk6 hmo F6 N6
    rw [fn_ext hmo] at F6
    k_steps
    rename News h₀ L _ _ => N9
    rename @LT.lt Nat _ _ _ ∧ @LT.lt Nat _ Lg _ ∧ AllLt _ news => l3
    rename @LT.lt Nat _ _ _ => l4


    exact h _ _ Ga Lg gn gs _ oG oL _ _ (by k_asm) (fun p hp => N9 p (.tail _ hp)) l1 l3.1 l4 l2 hgo hpo hgn hbl hgg ⟨_, _, _, _, rfl⟩
end Mine
end
section
open PySem PySem.W PySem.Spec PySem.Calls PyProof.Rows
set_option maxRecDepth 100000 
set_option maxHeartbeats 2000000 
namespace Mine
theorem l0_T9 : True := by
  k_with_none
  trivial
section
variable {prog : Program} {w : World} {A : Around} {E : Value → Shared → Prop} {s : Shared} {D U gn n : Nat} {h₀ g : Heap} {L2 Lg Ga : Addr} {m : Str → Option Value} {q : Nat → Str} {gs : GenState} {p : Str} {front nw : List (Addr × Obj)} {oG oL : Obj} {ps : Array Value}
theorem moved_up {h h' : Heap} (F : Fr g L2 h m) (N : News g L2 h (front ++ (Lg, oL) :: (198, tabObj ps) :: nw)) (h1 : ∀ q ∈ front ++ nw, q.1 ≠ 198 ∧ @Ne Nat q.1 Lg) (mv : Moves Lg h h') {oL' : Obj} {ps' : Array Value} (eL : h'.get? Lg = some oL') (eT : h'.get? 198 = some (tabObj ps')) :
    Fr g L2 h' m ∧ News g L2 h' (front ++ (Lg, oL') :: (198, tabObj ps') :: nw) := by
  have nL := N (Lg, oL) (List.mem_append_right _ (.head _))
  have n8 := N (198, tabObj ps) (List.mem_append_right _ (.tail _ (.head _)))
  dsimp only at nL n8
  refine ⟨⟨?_, fun b o e => mv b o (fun q => ?_) (fun q => ?_) (F.keep b o e), F.above⟩, fun r hr => ?_⟩
  · (refine ex3E F.ns fun o2 a1 a2 qq3 => ?_; refine and2E qq3 fun hL a3 => ?_; try clear qq3)
    exact ⟨o2, a1, a2, mv L2 o2 (fun q => n8.2.1 q.symm) (fun q => nL.2.1 q.symm) hL, a3⟩
  · rw [q, n8.2.2] at e; cases e
  · have : b = Lg := q
    rw [this, nL.2.2] at e; cases e
  · simp only [List.mem_append, List.mem_cons] at hr
    rcases hr with hr | rfl | rfl | hr
    · have z := N r (List.mem_append_left _ hr)
      have y := h1 r (List.mem_append_left _ hr)
      exact ⟨mv _ _ y.1 y.2 z.1, z.2⟩
    · exact ⟨eL, nL.2⟩
    · exact ⟨eT, n8.2⟩
    · have z := N r (List.mem_append_right _ (.tail _ (.tail _ hr)))
      have y := h1 r (List.mem_append_right _ hr)
      exact ⟨mv _ _ y.1 y.2 z.1, z.2⟩
theorem path_obj {h : Heap} (x : PathIs h Lg p) : ∃ oL, h.get? Lg = some oL ∧ PathObj oL p := by
  (refine ex2E x fun m t qq2 => ?_; try clear x; refine and2E qq2 fun qq20 hm => ?_; try clear qq2; refine ex3E qq20 fun o es ep qq203 => ?_; try clear qq20; refine and4E qq203 fun e hd hk hf => ?_; try clear qq203)
  exact ⟨o, e, m, t, ⟨es, ep, hd, hk, hf⟩, hm⟩
theorem gen_itemK {Q : Value → Shared → Prop} (hh : A.handled = none) (hd : A.depth ≤ D) (hu : A.units + 2 ≤ U) (hD : D < recursionLimit) (F : Fr g L2 s.heap m) (N : News g L2 s.heap (front ++ (Lg, oL) :: (198, tabObj ps) :: nw)) (h1 : ∀ q ∈ front ++ nw, q.1 ≠ 198 ∧ @Ne Nat q.1 Lg)
    (ok : TabOk ps) (hG : (Ga, oG) ∈ front) (hgo : GenObj oG gn) (hpo : PathObj oL p) (hgs : s.gens[gn]? = some gs) (hgg : GGo prog w D U h₀ Lg q gs p (n + 1)) (kp : ∀ b o, h₀.get? b = some o → s.heap.get? b = some o) (hl : s.heap.NoLimit)
    (h : ∀ t h' tk gs' oL' ps', Fr g L2 h' m → News g L2 h' (front ++ (Lg, oL') :: (198, tabObj ps') :: nw) → TabOk ps' → PathObj oL' (q (n + 1)) → GGo prog w D U h₀ Lg q gs' (q (n + 1)) n → Q (.str (q (n + 1)) t) { s with heap := h', toks := tk, gens := s.gens.setIfInBounds gn gs' }) :
    wpAny (model prog w) A (call (.builtin "next") [.ref Ga]) Q E s := by
  have nG := N (Ga, oG) (List.mem_append_left _ hG)
  have nL := N (Lg, oL) (List.mem_append_right _ (.head _))
  have n8 := N (198, tabObj ps) (List.mem_append_right _ (.tail _ (.head _)))
  have hpi : PathIs s.heap Lg p := by (refine ex2E hpo fun m t qq2 => ?_; try clear hpo; refine and2E qq2 fun x y => ?_; try clear qq2); exact ⟨m, t, x.ns nL.1, y⟩
  (refine ex2E hgo fun nm qn qq2 => ?_; try clear hgo; refine and3E qq2 fun g1 g2 g3 => ?_; try clear qq2)
  refine gen_item hh hd hu hD hl ⟨oG, nm, qn, nG.1, g1, g2, g3⟩ hgs ⟨hpi, ⟨ps, n8.1, ok⟩, kp⟩ hgg fun t h' tk gs' mv tb pi gg => ?_
  (refine ex1E tb fun ps' qq1 => ?_; try clear tb; refine and2E qq1 fun eT ok' => ?_; try clear qq1)
  (refine ex1E (path_obj pi) fun oL' qq1 => ?_; refine and2E qq1 fun eL hpo' => ?_; try clear qq1)
  refine and2E (moved_up F N h1 mv eL eT) fun F' N' => ?_
  exact h t h' tk gs' oL' ps' F' N' ok' hpo' gg
theorem gen_stopK {Q : Value → Shared → Prop} (hh : A.handled = none) (hd : A.depth ≤ D) (hu : A.units + 2 ≤ U) (hD : D < recursionLimit) (F : Fr g L2 s.heap m) (N : News g L2 s.heap (front ++ (Lg, oL) :: (198, tabObj ps) :: nw)) (h1 : ∀ q ∈ front ++ nw, q.1 ≠ 198 ∧ @Ne Nat q.1 Lg)
    (ok : TabOk ps) (hG : (Ga, oG) ∈ front) (hgo : GenObj oG gn) (hpo : PathObj oL p) (hgs : s.gens[gn]? = some gs) (hgg : GGo prog w D U h₀ Lg q gs p 0) (kp : ∀ b o, h₀.get? b = some o → s.heap.get? b = some o) (hl : s.heap.NoLimit) (h8 : h₀.get? 198 = none) (hL : h₀.objs.size ≤ Lg)
    (h : ∀ h₁ tk h' e oL' ps', Fr g L2 h₁ m → News g L2 h₁ (front ++ (Lg, oL') :: (198, tabObj ps') :: nw) → TabOk ps' → Heap.MadeExcOf h₁ h' e (.type "StopIteration") [] → E (.ref e) { s with heap := h', toks := tk, gens := s.gens.setIfInBounds gn .finished }) :
    wpAny (model prog w) A (call (.builtin "next") [.ref Ga]) Q E s := by
  have nG := N (Ga, oG) (List.mem_append_left _ hG)
  have nL := N (Lg, oL) (List.mem_append_right _ (.head _))
  have n8 := N (198, tabObj ps) (List.mem_append_right _ (.tail _ (.head _)))
  have hpi : PathIs s.heap Lg p := by (refine ex2E hpo fun m t qq2 => ?_; try clear hpo; refine and2E qq2 fun x y => ?_; try clear qq2); exact ⟨m, t, x.ns nL.1, y⟩
  (refine ex2E hgo fun nm qn qq2 => ?_; try clear hgo; refine and3E qq2 fun g1 g2 g3 => ?_; try clear qq2)
  refine gen_stop hh hd hu hD hl ⟨oG, nm, qn, nG.1, g1, g2, g3⟩ hgs ⟨hpi, ⟨ps, n8.1, ok⟩, kp⟩ hgg h8 hL fun h₁ tk h' e mv tb ns hx => ?_
  (refine ex1E tb fun ps' qq1 => ?_; try clear tb; refine and2E qq1 fun eT ok' => ?_; try clear qq1)
  (refine ex4E ns fun mm oL' ux ux qq4 => ?_; try clear ns; refine and2E qq4 fun eL ux => ?_; try clear qq4)
  refine and2E (moved_up F N h1 mv eL eT) fun F' N' => ?_
  exact h h₁ tk h' e oL' ps' F' N' ok' hx
theorem gens_set {gens : Array GenState} {gs' : GenState} (h : gens[gn]? = some gs) : (gens.setIfInBounds gn gs')[gn]? = some gs' := by
  have := (Array.getElem?_eq_some_iff.mp h).1
  simp [this]
end
end Mine
end
section
open PySem PySem.W PySem.Spec PySem.Calls PyProof.Rows
set_option maxRecDepth 100000 
set_option maxHeartbeats 2000000 
namespace Mine
theorem lines_C21_0 : True := by
  k_with_none
  k_with "q" => (all_goals first | assumption | with_unfolding_all exact rfl)
  k_with "ar" => with_reducible first | assumption | (apply Ar.rm1; k_extra "q") | (apply Ar.rm2; k_extra "q") | (apply Ar.rl0; k_extra "q") | (apply Ar.rq1; k_extra "q") | (apply Ar.tr3; k_extra "q") | (apply Ar.tr4; k_extra "q") | (apply Ar.nel; k_extra "q") | (apply Ar.neg_; k_extra "q") | (apply Ar.ch3; k_extra "q") | (apply Ar.ch3'; k_extra "q") | (apply Ar.ch4; k_extra "q") | (apply Ar.ch4'; k_extra "q") | (apply Ar.ch5; k_extra "q")
  k_with "storeName" => (
      k_here
      k_dflt (refine storeL (by k_asm) (by k_asm) ?_ (by rfl) (by rfl))
      k_whole
      intro m1 h' tk F' N'
      (try k_sweep))
  k_with "ite" => first | with_reducible refine ite_tt ?_ | with_reducible refine ite_ff ?_
  k_with "execs cons" => first | (with_reducible refine seqT1 ?_; intro tk) | (with_reducible refine seqT ?_; intro Kc tk hKc) | (with_reducible refine blkA ?_; intro A1 e1 E1 Qd tk hQd)
  k_with "Nxt" => (k_dflt (dsimp only [Nxt]))
  k_with "Kont" => first | (k_dflt (refine hKc _ _ ?_; try clear hKc)) | (k_dflt (refine hQd _ _ ?_; try clear hQd)) | (k_dflt (refine hQc _ _ ?_; try clear hQc)) | (k_dflt (refine kont_app (by assumption) ?_))
  k_with "mine n" => (
      (case k6 => k_is)
      (case k7 => k_is)
      (case k8 => ((try dsimp +zetaDelta only [aA, Around.deeper]); omega))
      (case k9 => exact BindsTo.of_eq rfl)
      (case kB => exact locs rfl)
      (case c2 => exact rfl)
      (case c3 => exact rfl)
      (case c4 => exact rfl)
      (case c5 => decide))
  trivial
noncomputable def islLed (X dx G Lg : Addr) (oX oG oL : Obj) (ps : Array Value) (nw : List (Addr × Obj)) : List (Addr × Obj) := (X, oX) :: (dx, emptyDict) :: (G, oG) :: (Lg, oL) :: (198, tabObj ps) :: nw
structure IslOrd (X dx G Lg : Addr) (nw : List (Addr × Obj)) : Prop where
  o1 : @LT.lt Nat _ Lg G
  o2 : @LT.lt Nat _ G dx
  o3 : @LT.lt Nat _ dx X
  o0 : @LT.lt Nat _ 198 Lg
  off : ∀ p ∈ nw, @LT.lt Nat _ p.1 Lg
  o8 : ∀ p ∈ nw, p.1 ≠ 198
theorem IslOrd.offs {X dx Ga Lg : Addr} {nw : List (Addr × Obj)} {a b c : Obj} (o : IslOrd X dx Ga Lg nw) : ∀ q ∈ [(X, a), (dx, b), (Ga, c)] ++ nw, q.1 ≠ 198 ∧ @Ne Nat q.1 Lg := by
  obtain ⟨o1, o2, o3, o0, off, o8⟩ := o
  intro q hq
  simp only [List.cons_append, List.nil_append, List.mem_cons] at hq
  have ne : ∀ {x : Nat}, 198 < x → x ≠ 198 := fun h e => by omega
  rcases hq with rfl | rfl | rfl | hq
  · exact ⟨ne (x := X) (by omega), by dsimp only; omega⟩
  · exact ⟨ne (x := dx) (by omega), by dsimp only; omega⟩
  · exact ⟨ne (x := Ga) (by omega), by dsimp only; omega⟩
  · exact ⟨o8 q hq, Nat.ne_of_lt (off q hq)⟩
section
variable {prog : Program} {w : World} {A : Around} {E : Value → Shared → Prop} {s : Shared} {D U gn n : Nat} {h₀ g : Heap} {X dx L2 Lg Ga : Addr} {m : Str → Option Value} {q : Nat → Str} {gs : GenState} {p : Str} {nw : List (Addr × Obj)} {oX od oG oL : Obj} {ps : Array Value}
theorem gen_item3 {Q : Value → Shared → Prop} (hh : A.handled = none) (hd : A.depth ≤ D) (hu : A.units + 2 ≤ U) (hD : D < recursionLimit) (F : Fr g L2 s.heap m) (N : News g L2 s.heap ((X, oX) :: (dx, od) :: (Ga, oG) :: (Lg, oL) :: (198, tabObj ps) :: nw)) (o : IslOrd X dx Ga Lg nw)
    (ok : TabOk ps) (hgo : GenObj oG gn) (hpo : PathObj oL p) (hgs : s.gens[gn]? = some gs) (hgg : GGo prog w D U h₀ Lg q gs p (n + 1)) (kp : ∀ b o, h₀.get? b = some o → g.get? b = some o) (hl : g.NoLimit)
    (h : ∀ t h' tk gs' oL' ps', Fr g L2 h' m → News g L2 h' ((X, oX) :: (dx, od) :: (Ga, oG) :: (Lg, oL') :: (198, tabObj ps') :: nw) → TabOk ps' → PathObj oL' (q (n + 1)) → GGo prog w D U h₀ Lg q gs' (q (n + 1)) n → (∀ G, G = s.gens.setIfInBounds gn gs' → G[gn]? = some gs' → Q (.str (q (n + 1)) t) { s with heap := h', toks := tk, gens := G })) :
    wpAny (model prog w) A (call (.builtin "next") [.ref Ga]) Q E s :=
  gen_itemK (front := [(X, oX), (dx, od), (Ga, oG)]) hh hd hu hD F N o.offs ok (.tail _ (.tail _ (.head _))) hgo hpo hgs hgg (fun b o e => F.keep b o (kp b o e)) (hl.keeps F.keep) fun t h' tk gs' oL' ps' F' N' ok' hp' hg' => h t h' tk gs' oL' ps' F' N' ok' hp' hg' _ rfl (gens_set hgs)
theorem gen_stop3 {Q : Value → Shared → Prop} (hh : A.handled = none) (hd : A.depth ≤ D) (hu : A.units + 2 ≤ U) (hD : D < recursionLimit) (F : Fr g L2 s.heap m) (N : News g L2 s.heap ((X, oX) :: (dx, od) :: (Ga, oG) :: (Lg, oL) :: (198, tabObj ps) :: nw)) (o : IslOrd X dx Ga Lg nw)
    (ok : TabOk ps) (hgo : GenObj oG gn) (hpo : PathObj oL p) (hgs : s.gens[gn]? = some gs) (hgg : GGo prog w D U h₀ Lg q gs p 0) (kp : ∀ b o, h₀.get? b = some o → g.get? b = some o) (hl : g.NoLimit) (h8 : h₀.get? 198 = none) (hL : h₀.objs.size ≤ Lg)
    (h : ∀ h₁ tk h' e oL' ps' G, G = s.gens.setIfInBounds gn .finished → Fr g L2 h₁ m → News g L2 h₁ ((X, oX) :: (dx, od) :: (Ga, oG) :: (Lg, oL') :: (198, tabObj ps') :: nw) → TabOk ps' → Heap.MadeExcOf h₁ h' e (.type "StopIteration") [] → E (.ref e) { s with heap := h', toks := tk, gens := G }) :
    wpAny (model prog w) A (call (.builtin "next") [.ref Ga]) Q E s :=
  gen_stopK (front := [(X, oX), (dx, od), (Ga, oG)]) hh hd hu hD F N o.offs ok (.tail _ (.tail _ (.head _))) hgo hpo hgs hgg (fun b o e => F.keep b o (kp b o e)) (hl.keeps F.keep) h8 hL fun h₁ tk h' e oL' ps' => h h₁ tk h' e oL' ps' _ rfl
end
theorem lx_C21_0 : True := by
  k_with "k_all" => (intro p hp; have q9 : @LT.lt Nat _ p.1 Lg := hoff p hp; refine neN ?_; (try dsimp only); omega)
  trivial
theorem lx_C21_1 : True := by
  k_with "k_room" => (first | ((try simp only [depth_under_make, depth_under_kw, depth_in1, depth_deeper, depth_caller]); omega) | (simp +zetaDelta only [depth_under_make, depth_under_kw, depth_in1, depth_deeper, depth_caller]; omega))
  trivial
theorem lines_C21_1 : True := by
  k_with "WhlIf" => (
      first
      | refine WhlIf.yes (decide_eq_true (by omega)) ?_
      | refine WhlIf.no (decide_eq_false (by omega)) ?_)
  k_with "call builtin:next" => (
      k_here
      k_dflt (refine gen_item3 (D := D) (U := U) rfl (by dsimp +zetaDelta only [Around.deeper]; omega) (by dsimp +zetaDelta only [Around.deeper]; omega) (by omega) (by k_asm) (by k_asm) ho ok hgo hpo hgs hgg FG.keep TG.nolimit ?_)
      clear hpo hgs hgg ok
      intro t9 h9 tk9 gs9 oL9 ps9 F9 N9 ok hpo hgg G9 hG9 hgs)
  trivial
theorem isl_more_item (w : World) {mean : ExcName → Option Value} {mg mb : Str → Option Value} {A A₀ : Around} {E : Value → Shared → Prop} {s : Shared} {h₀ : Heap} {L X dx Ga Lg : Addr} {m : Str → Option Value} {nw : List (Addr × Obj)} {env : Env} {outer : List Env} {q : Nat → Str} {n D U gn : Nat} {oX oG oL : Obj} {ps : Array Value} {gs : GenState} {p : Str} {c : Int} {Q : Option Value → Shared → Prop}
    (G : Gnd w mean mg mb A₀ h₀ outer env L) (hh : A.handled = none) (hdp : A.depth + 8 ≤ D) (hun : A.units + 40 ≤ U) (hA : A.frames = some (env :: outer)) (hD : D + 10 ≤ recursionLimit) (hU : U + 80 ≤ cLine)
    (F : Fr h₀ L s.heap m) (N : News h₀ L s.heap (islLed X dx Ga Lg oX oG oL ps nw)) (o : IslOrd X dx Ga Lg nw) (ok : TabOk ps) (hoX : IslO oX dx Ga c c) (hc : 0 ≤ c ∧ c ≤ 1000) (hgo : GenObj oG gn) (hpo : PathObj oL p) (hgs : s.gens[gn]? = some gs) (hgg : GGo PySem.Challenge.rw_ij0107_01.row.prog w D U h₀ Lg q gs p (n + 1))
    (h : ∀ t h' tk gs' oX' oL' ps', Fr h₀ L h' m → News h₀ L h' (islLed X dx Ga Lg oX' oG oL' ps' nw) → TabOk ps' → IslO oX' dx Ga (c + 1) (c + 1) → PathObj oL' (q (n + 1)) → GGo PySem.Challenge.rw_ij0107_01.row.prog w D U h₀ Lg q gs' (q (n + 1)) n → Q (some (.str (q (n + 1)) t)) { s with heap := h', toks := tk, gens := s.gens.setIfInBounds gn gs' }) :
    wpAny (model PySem.Challenge.rw_ij0107_01.row.prog w) A (pyNext (.ref X)) Q E s := by
  obtain ⟨ah, ad, af, ag, au⟩ := A
  dsimp only at hh hdp hun hA
  subst hh hA
  obtain ⟨XK, T, BL, hf, hke⟩ := id G
  have ho := o
  obtain ⟨o1, o2, o3, o0, hoff, ho8⟩ := o
  (refine ex4E hoX fun t1 t2 t3 t4 qq4 => ?_; try clear hoX; rcases qq4 with rfl)
  revert XK T
  k_fill
  intro XK T
  have hinst := InstAt.of_news N (.head _) (.tail _ (.head _))
  refine owit_next F XK hinst (by k_is) (by k_is) (wpAny_call ?_)
  refine' code_def (binds := [(Str.ofString "self", .ref X)]) BL F XK N T rfl hf hke ?k6 ?k7 ?k8 ?k9 ?kB ?kk ?c2 ?c3 ?c4 ?c5
  walk_at "mine n"
  intro g L2 h2 FG F2 N2 BG XG TG
  refine entL (by first | assumption | with_unfolding_all passes_own) ?_
  intro A1 e1 Qc Ec hQc hEc
  dsimp only [islLed] at N2
  k_steps
  subst hG9
  exact h _ _ _ _ _ _ _ (by k_asm) (by k_asm) ok ⟨_, _, _, _, rfl⟩ hpo hgg
end Mine
end
section
open PySem PySem.W PySem.Spec PySem.Calls PyProof.Rows
set_option maxRecDepth 100000 
set_option maxHeartbeats 2000000 
namespace Mine
theorem lines_C22_0 : True := by
  k_with_none
  k_with "q" => (all_goals first | assumption | with_unfolding_all exact rfl)
  k_with "ar" => with_reducible first | assumption | (apply Ar.rm1; k_extra "q") | (apply Ar.rm2; k_extra "q") | (apply Ar.rl0; k_extra "q") | (apply Ar.rq1; k_extra "q") | (apply Ar.nel; k_extra "q") | (apply Ar.ch3; k_extra "q") | (apply Ar.ch4; k_extra "q") | (apply Ar.ch5; k_extra "q")
  k_with "storeName" => (
      k_here
      k_dflt (refine storeL (by k_asm) (by k_asm) ?_ (by rfl) (by rfl))
      k_whole
      intro m1 h' tk F' N'
      (try k_sweep))
  k_with "ite" => first | with_reducible refine ite_tt ?_ | with_reducible refine ite_ff ?_
  k_with "execs cons" => first | (with_reducible refine seqT1 ?_; intro tk) | (with_reducible refine seqT ?_; intro Kc tk hKc) | (with_reducible refine blkA ?_; intro A1 e1 E1 Qd tk hQd)
  k_with "Nxt" => (k_dflt (dsimp only [Nxt]))
  k_with "Kont" => first | (k_dflt (refine hKc _ _ ?_; try clear hKc)) | (k_dflt (refine hQd _ _ ?_; try clear hQd)) | (k_dflt (refine hQc _ _ ?_; try clear hQc)) | (k_dflt (refine kont_app (by assumption) ?_))
  k_with "mine n" => (
      (case k6 => k_is)
      (case k7 => k_is)
      (case k8 => ((try dsimp +zetaDelta only [aA, Around.deeper]); omega))
      (case k9 => exact BindsTo.of_eq rfl)
      (case kB => exact locs rfl)
      (case c2 => exact rfl)
      (case c3 => exact rfl)
      (case c4 => exact rfl)
      (case c5 => decide))
  trivial
theorem lx_C22_0 : True := by
  k_with "k_all" => (intro p hp; have q9 : @LT.lt Nat _ p.1 Lg := hoff p hp; refine neN ?_; (try dsimp only); omega)
  trivial
theorem lx_C22_1 : True := by
  k_with "k_room" => (first | ((try simp only [depth_under_make, depth_under_kw, depth_in1, depth_deeper, depth_caller]); omega) | (simp +zetaDelta only [depth_under_make, depth_under_kw, depth_in1, depth_deeper, depth_caller]; omega))
  trivial
theorem lines_C22_1 : True := by
  k_with "WhlIf" => (
      first
      | refine WhlIf.yes (decide_eq_true (by omega)) ?_
      | refine WhlIf.no (decide_eq_false (by omega)) ?_)
  k_with "call builtin:next" => (
      k_here
      k_dflt (first
      | (refine gen_item3 (D := D) (U := U) rfl (by dsimp +zetaDelta only [Around.deeper]; omega) (by dsimp +zetaDelta only [Around.deeper]; omega) (by omega) (by k_asm) (by k_asm) ho ok hgo hpo hgs hgg FG.keep TG.nolimit ?_
         clear hpo hgs hgg ok
         intro t9 h9 tk9 gs9 oL9 ps9 F9 N9 ok hpo hgg G9 hG9 hgs)
      | (refine gen_stop3 (D := D) (U := U) rfl (by dsimp +zetaDelta only [Around.deeper]; omega) (by dsimp +zetaDelta only [Around.deeper]; omega) (by omega) (by k_asm) (by k_asm) ho ok hgo hpo hgs hgg FG.keep TG.nolimit h8 hbl ?_
         clear hpo hgs hgg ok
         intro h5 tk5 h6 e5 oL5 ps5 G5 hG5 F5 N5 ok hE5)))
  trivial
theorem isl_first_item (w : World) {mean : ExcName → Option Value} {mg mb : Str → Option Value} {A A₀ : Around} {E : Value → Shared → Prop} {s : Shared} {h₀ : Heap} {L X dx Ga Lg : Addr} {m : Str → Option Value} {nw : List (Addr × Obj)} {env : Env} {outer : List Env} {q : Nat → Str} {n D U gn : Nat} {oX oG oL : Obj} {ps : Array Value} {gs : GenState} {p : Str} {Q : Option Value → Shared → Prop}
    (G : Gnd w mean mg mb A₀ h₀ outer env L) (hh : A.handled = none) (hdp : A.depth + 8 ≤ D) (hun : A.units + 40 ≤ U) (hA : A.frames = some (env :: outer)) (hD : D + 10 ≤ recursionLimit) (hU : U + 80 ≤ cLine)
    (F : Fr h₀ L s.heap m) (N : News h₀ L s.heap (islLed X dx Ga Lg oX oG oL ps nw)) (o : IslOrd X dx Ga Lg nw) (ok : TabOk ps) (hoX : IslO oX dx Ga 0 1) (hgo : GenObj oG gn) (hpo : PathObj oL p) (hgs : s.gens[gn]? = some gs) (hgg : GGo PySem.Challenge.rw_ij0107_01.row.prog w D U h₀ Lg q gs p (n + 2))
    (h : ∀ t h' tk gs₁ gs' oX' oL' ps', Fr h₀ L h' m → News h₀ L h' (islLed X dx Ga Lg oX' oG oL' ps' nw) → TabOk ps' → IslO oX' dx Ga 2 2 → PathObj oL' (q (n + 1)) → GGo PySem.Challenge.rw_ij0107_01.row.prog w D U h₀ Lg q gs' (q (n + 1)) n → Q (some (.str (q (n + 1)) t)) { s with heap := h', toks := tk, gens := (s.gens.setIfInBounds gn gs₁).setIfInBounds gn gs' }) :
    wpAny (model PySem.Challenge.rw_ij0107_01.row.prog w) A (pyNext (.ref X)) Q E s := by
  obtain ⟨ah, ad, af, ag, au⟩ := A
  dsimp only at hh hdp hun hA
  subst hh hA
  obtain ⟨XK, T, BL, hf, hke⟩ := id G
  have ho := o
  obtain ⟨o1, o2, o3, o0, hoff, ho8⟩ := o
  (refine ex4E hoX fun t1 t2 t3 t4 qq4 => ?_; try clear hoX; rcases qq4 with rfl)
  revert XK T
  k_fill
  intro XK T
  have hinst := InstAt.of_news N (.head _) (.tail _ (.head _))
  refine owit_next F XK hinst (by k_is) (by k_is) (wpAny_call ?_)
  refine' code_def (binds := [(Str.ofString "self", .ref X)]) BL F XK N T rfl hf hke ?k6 ?k7 ?k8 ?k9 ?kB ?kk ?c2 ?c3 ?c4 ?c5
  walk_at "mine n"
  intro g L2 h2 FG F2 N2 BG XG TG
  refine entL (by first | assumption | with_unfolding_all passes_own) ?_
  intro A1 e1 Qc Ec hQc hEc
  dsimp only [islLed] at N2
  k_steps
  subst_vars
  exact h _ _ _ _ _ _ _ _ (by k_asm) (by k_asm) ok ⟨_, _, _, _, rfl⟩ hpo hgg
end Mine
end
section
open PySem PySem.W PySem.Spec PySem.Calls PyProof.Rows
set_option maxRecDepth 100000
set_option maxHeartbeats 2000000
namespace Mine
theorem l0_T10 : True := by
  k_with_none
  trivial
section
variable {M : Model} {A : Around} {E : Value → Shared → Prop} {s : Shared}
theorem noted_first {base h : Heap} {env : Env} {outer : List Env} {L e : Addr} {cls : Value} {args : List Value} {Q : Unit → Shared → Prop}
    (hfr : A.frames = some (env :: outer)) (hf : env.frame = some L) (hkb : base.StaysIn h) (hl : h.FunFrames base (env :: outer)) (hx : Heap.MadeExcOf h s.heap e cls args)
    (hQ : ∀ h' t, Heap.HeldW base (env :: outer) e cls (.ref t) L h' → s.heap.UpToSlots h' → Q () { s with heap := h' }) : wpAny M A (noteFrame (.ref e) env) Q E s := by
  (refine ex1E hx.there fun t qq1 => ?_; refine and3E qq1 fun he htn ht => ?_; try clear qq1)
  have fresh : ∀ b, h.get? b = none → base.get? b = none := fun b hb => by
    cases hq : base.get? b with
    | none => rfl
    | some o' => have := hkb b o' hq; rw [hb] at this; cases this
  unfold noteFrame
  simp only [hf]
  refine wpAny_bind (wpAny_field he rfl (x := .none) rfl ?_)
  rw [if_neg (by decide)]
  refine wpAny_entryW (a0 := .ref t) hfr (hl.of_keeps fun b o hb _ => ⟨o, hx.keeps b o hb, rfl⟩) hf he (fun b o hb => hx.keeps b o (hkb b o hb)) (fresh e hx.new) rfl (by simp) rfl fun h' hN => ?_
  (refine and4E hN fun k1 k2 k3 k4 => ?_; try clear hN)
  exact hQ h' t ⟨k1, fresh e hx.new, k2, k3⟩ k4
end
structure InHand (e tb : Addr) (oe ot : Obj) (cls : Value) : Prop where
  c : oe.cls = cls
  d : ∃ vs t, oe.data = .fields vs ∧ vs[0]? = some (.ref t) ∧ vs[1]? = some (.ref tb)
  td : ∃ ts, ot.data = .fields ts ∧ ts[3]? = some .none
  ne : tb ≠ e
section
variable {prog : Program} {w : World} {A₀ : Around} {E : Value → Shared → Prop} {s' : Shared} {base g h : Heap} {outer : List Env} {L a e : Addr} {m : Str → Option Value} {name : Str} {scope : Scope} {cd : Value} {vs : List Value} {news : List (Addr × Obj)}
  {p : Program} {loose : List Str} {mean : ExcName → Option Value} {mg mb : Str → Option Value} {x : Str} {np pos : Pos} {b₀ : Stmt} {suite : List Stmt} {rest : List ExceptHandler} {Q : Flow → Shared → Prop} {KF : Frag}
theorem caught_fresh {X T' : String} (K : Below A₀ base outer g) (hx : Heap.MadeExcOf h s'.heap e (.type X) vs) (F : Fr g L h m) (N : News g L h news) (XB : KF.In base) (TB : Top p loose mean mg mb base) (hv : bootBuiltins x = some (.type T'))
    (hexc : isSubtype (.type T') (.type "BaseException") = pure true) (hnt : isSubtype (.type ((Manifest.find? T').elim "type" fun y => y.metatype)) (.type "tuple") = pure false) (hsub : isSubtype (.type X) (.type T') = pure true)
    (k : ∀ h' g' tb oe ot, KtsTurn (outer.filterMap (·.frame)) g g' → Fr g' L h' m → News g' L h' ((e, oe) :: (tb, ot) :: news) → InHand e tb oe ot (.type X) → Below A₀ base outer g' → KF.In g' → Top p loose mean mg mb g' → (∀ q ∈ news, q.1 ≠ e ∧ q.1 ≠ tb) →
      wpAny (model prog w) ((A₀.deeper (envOf name scope L a cd)).mark (some (.ref e))) (execs (b₀ :: suite) (envOf name scope L a cd)) Q E { s' with heap := h' })
    (h1 : x ∉ startupNames := by decide +kernel) (h2 : x ∉ loose := by decide +kernel) (h3 : x ∉ (recsOf p).map (·.name) := by decide +kernel) (h4 : x ∉ (litsOf p).map (·.1) := by decide +kernel) (h4c : x ∉ (clssOf p loose).map (·.name) := by decide +kernel) (hn : x ≠ "__name__" := by decide +kernel)
    (hk : scope.kind = .function := by rfl)
    (hxg : (envOf name scope L a cd).kindOf x = some .globalImplicit := by rfl) (hd : (x == ("__debug__" : Str)) = false := by decide)
    (hE : PassesOwnAt (model prog w) ((A₀.deeper (envOf name scope L a cd)).mark (some (.ref e))) (A₀.deeper (envOf name scope L a cd)) (envOf name scope L a cd) E := by passes_own) :
    wpAny (model prog w) (A₀.deeper (envOf name scope L a cd)) (noteFrame (.ref e) (envOf name scope L a cd))
      (fun _ s₂ => wpAny (model prog w) (A₀.deeper (envOf name scope L a cd)) (setFlight (.ref e) none) (fun _ s₃ =>
        wpAny (model prog w) (A₀.deeper (envOf name scope L a cd)) (handleBy (.ref e) (envOf name scope L a cd) (.ExceptHandler (some (.Name x np)) none (b₀ :: suite) pos :: rest)) Q E s₃) E s₂) E s' := by
  have K' := K.push (name := name) (a := a) (cd := cd) F hk
  have hin : ∀ env ∈ (envOf name scope L a cd :: outer), ∀ b, env.frame = some b → b ∈ (envOf name scope L a cd :: outer).filterMap (·.frame) := fun env he b hb => List.mem_filterMap.mpr ⟨env, he, hb⟩
  generalize hB : hideAll h ((envOf name scope L a cd :: outer).filterMap (·.frame)) = B
  have st : base.StaysIn B := fun b o q => by
    rw [← hB]
    exact hideAll_get _ (K'.stays b o q) fun hm => by rw [(K'.frames.mem hm).1] at q; cases q
  have hl : ∀ q ∈ news, B.get? q.1 = some q.2 := fun q hq => by
    rw [← hB]
    refine hideAll_get _ (N q hq).1 fun hm => ?_
    (refine ex1E (List.mem_filterMap.mp hm) fun env qq1 => ?_; refine and2E qq1 fun he hf => ?_; try clear qq1)
    rcases List.mem_cons.mp he with rfl | he
    · exact (N q hq).2.1 (Option.some.inj hf).symm
    · (refine ex1E ((K.frames.mem (List.mem_filterMap.mpr ⟨env, he, hf⟩)).2) fun o qq1 => ?_; refine and2E qq1 fun ho ux => ?_; try clear qq1)
      rw [(N q hq).2.2] at ho; cases ho
  have hBG : ∀ b o, h.get? b = some o → b ∉ (envOf name scope L a cd :: outer).filterMap (·.frame) → B.get? b = some o := fun b o e nm => by rw [← hB]; exact hideAll_get _ e nm
  have hBL : B.get? L = none := by rw [← hB]; exact hideAll_none _ (List.mem_filterMap.mpr ⟨_, .head _, rfl⟩)
  refine noted_first K'.stack rfl (fun b o q => by rw [← hB] at q; exact of_hideAll _ q) (hB ▸ funFrames_hide K'.frames hin) hx fun h₄ t hheld hsm₄ => ?_
  refine wpAny_landsW hheld fun h₅ hfl hsm₅ => ?_
  have up5 : h.UpToSlots h₅ := (Heap.UpToSlots.of_keeps hx.keeps).trans (hsm₄.trans hsm₅)
  (refine ex1E (kts_ground K F hBG hfl.1 up5) fun g₅ qq1 => ?_; refine and3E qq1 fun T₅ F₅ K₅ => ?_; try clear qq1)
  have P₅ : Top p loose mean mg mb g₅ := TB.keeps K₅.stays
  (refine ex1E hfl.there fun ob qq1 => ?_; refine and2E qq1 fun hob hobc => ?_; try clear qq1)
  refine wpAny_handleBy_builtin (X := X) (T := T') (b := true) hexc hnt hsub (ld_builtin_at F₅ P₅.g (P₅.free x h1 h2 h3 h4 h4c) P₅.b ((P₅.builtins x hn).trans hv) ⟨rfl, ⟨ob, hob, hobc⟩, ?_⟩ hk hxg hd)
  rw [if_pos rfl]
  refine lands_againW hfl fun h₆ hfl₆ hsm₆ => ?_
  have up6 := up5.trans hsm₆
  (refine ex1E (kts_ground K F hBG hfl₆.1 up6) fun g₆ qq1 => ?_; refine and3E qq1 fun T₆ F₆ K₆ => ?_; try clear qq1)
  (refine and4E hfl₆ fun k1 k2 k3 qq3 => ?_; try clear hfl₆; refine ex5E qq3 fun oe ws T oT ts qq35 => ?_; try clear qq3; refine and9E qq35 fun q1 qq351 q4 q5 q6 q7 q8 q9 q10 => ?_; try clear qq35; refine and2E qq351 fun q2 q3 => ?_; try clear qq351)
  have ne : ∀ q ∈ news, q.1 ≠ e ∧ q.1 ≠ T := by
    intro q hq
    refine ⟨fun z => ?_, fun z => ?_⟩
    · have := hl q hq; rw [z, k2] at this; cases this
    · have := hl q hq; rw [z, q6] at this; cases this
  have frh : ∀ {b : Addr} {o : Obj}, B.get? b = none → h₆.get? b = some o → (∃ vs, o.data = .fields vs) → b ≠ L ∧ g₆.get? b = none := by
    intro b o hb ho hd'
    have nf : b ∉ (envOf name scope L a cd :: outer).filterMap (·.frame) := fun hm => by
      (refine and2E (k3.mem hm) fun ux qq1 => ?_; refine ex1E qq1 fun o' qq11 => ?_; try clear qq1; refine and2E qq11 fun ho' hnf => ?_; try clear qq11)
      rw [ho] at ho'; cases ho'
      (refine ex1E hd' fun vs hv => ?_; try clear hd')
      exact hnf vs hv
    refine ⟨fun z => nf (z ▸ List.mem_filterMap.mpr ⟨_, .head _, rfl⟩), T₆.none_ _ ?_⟩
    cases q : g.get? b with
    | none => rfl
    | some o' => have := hBG b o' (F.keep b o' q) nf; rw [hb] at this; cases this
  refine wpAny_passesOwnAt hE (k h₆ g₆ T oe oT T₆ F₆ (fun q hq => ?_) ⟨q2, ⟨ws, t, q4, q3, q5⟩, ⟨ts, q9, q10⟩, q7⟩ K₆ (XB.keeps K₆.stays) (TB.keeps K₆.stays) ne)
  rcases List.mem_cons.mp hq with rfl | hq
  · exact ⟨q1, frh k2 q1 ⟨_, q4⟩⟩
  rcases List.mem_cons.mp hq with rfl | hq
  · exact ⟨q8, frh q6 q8 ⟨_, q9⟩⟩
  · exact ⟨k1 _ _ (hl q hq), (fun z => by have := hl q hq; rw [z, hBL] at this; cases this), T₆.none_ _ (N q hq).2.2⟩
theorem raise_again {s : Shared} {tb : Addr} {oe ot : Obj} {cls : Value} {kl : List (Addr × Obj)} {rpos : Pos} {Qf : Flow → Shared → Prop} (K : Below A₀ base outer g) (F : Fr g L s.heap m) (N : News g L s.heap news) (he : (e, oe) ∈ news) (ht : (tb, ot) ∈ news) (H : InHand e tb oe ot cls)
    (hs : ∀ q ∈ kl, q ∈ news ∧ q.1 ≠ e ∧ q.1 ≠ tb)
    (k : ∀ h' B a0, base.StaysIn B → (∀ q ∈ kl, B.get? q.1 = some q.2 ∧ base.get? q.1 = none) → Heap.HeldW B (envOf name scope L a cd :: outer) e cls a0 L h' → g.UpToSlots h' → E (.ref e) { s with heap := h' })
    (hk : scope.kind = .function := by rfl) :
    wpAny (model prog w) ((A₀.deeper (envOf name scope L a cd)).mark (some (.ref e))) (exec (.Raise none none rpos) (envOf name scope L a cd)) Qf E s := by
  have K' := K.push (name := name) (a := a) (cd := cd) F hk
  have hin : ∀ env ∈ (envOf name scope L a cd :: outer), ∀ b, env.frame = some b → b ∈ e :: tb :: (envOf name scope L a cd :: outer).filterMap (·.frame) := fun env he b hb => .tail _ (.tail _ (List.mem_filterMap.mpr ⟨env, he, hb⟩))
  have Ne := N _ he
  have Nt := N _ ht
  dsimp only at Ne Nt
  obtain ⟨hc, ⟨vs, t, hd, h0, h1⟩, ⟨ts, htd, ht3⟩, hne⟩ := H
  generalize hB : hideAll s.heap (e :: tb :: (envOf name scope L a cd :: outer).filterMap (·.frame)) = B
  have nfr : ∀ {b : Addr} {o : Obj}, s.heap.get? b = some o → g.get? b = none → b ≠ L → b ∉ (envOf name scope L a cd :: outer).filterMap (·.frame) := by
    intro b o hb hg hL hm
    rcases kts_mem hm with z | z
    · exact hL z
    · (refine and2E (K.frames.mem z) fun ux qq1 => ?_; refine ex1E qq1 fun o' qq11 => ?_; try clear qq1; refine and2E qq11 fun ho' ux => ?_; try clear qq11)
      rw [hg] at ho'; cases ho'
  have st : base.StaysIn B := fun b o q => by
    rw [← hB]
    refine hideAll_get _ (K'.stays b o q) fun hm => ?_
    rcases List.mem_cons.mp hm with z | hm
    · have := K.stays b o q; rw [z, Ne.2.2] at this; cases this
    rcases List.mem_cons.mp hm with z | hm
    · have := K.stays b o q; rw [z, Nt.2.2] at this; cases this
    · rw [(K'.frames.mem hm).1] at q; cases q
  have hl : ∀ q ∈ kl, B.get? q.1 = some q.2 ∧ base.get? q.1 = none := fun q hq => by
    refine and3E (hs q hq) fun hq n1 n2 => ?_
    have Nq := N q hq
    refine ⟨?_, fresh_of_stays K.stays Nq.2.2⟩
    rw [← hB]
    refine hideAll_get _ Nq.1 fun hm => ?_
    rcases List.mem_cons.mp hm with z | hm
    · exact n1 z
    rcases List.mem_cons.mp hm with z | hm
    · exact n2 z
    · exact nfr Nq.1 Nq.2.2 Nq.2.1 hm
  have hfl : Heap.FlyingW B (envOf name scope L a cd :: outer) e cls (.ref t) s.heap := by
    refine ⟨fun b o q => by rw [← hB] at q; exact of_hideAll _ q, by rw [← hB]; exact hideAll_none _ (.head _), hB ▸ funFrames_hide K'.frames hin, oe, vs, tb, ot, ts, Ne.1, ⟨hc, h0⟩, hd, h1, by rw [← hB]; exact hideAll_none _ (.tail _ (.head _)), hne, Nt.1, htd, ht3⟩
  show wpAny _ _ (standAt rpos >>= fun _ => raiseStmt (envOf name scope L a cd) none none) _ _ _
  refine wpAny_bind (wpAny_standAt ?_)
  unfold raiseStmt
  refine wpAny_bind (wpAny_handled ?_)
  show wpAny _ _ (rule "raise.bare" >>= _) _ _ _
  refine wpAny_bind (wpAny_rule ?_)
  refine wpAny_bind (wpAny_field Ne.1 hd h1 ?_)
  rw [if_neg (show ¬ ((Value.ref tb == Value.none) = true) from by simp)]
  refine wpAny_bind (setFlight_onW hfl fun h' hh hs' => wpAny_throw (k h' B _ st hl hh ((Heap.UpToSlots.of_keeps F.keep).trans hs')))
theorem leave_again {s : Shared} {B : Heap} {a0 cls : Value} {Q1 : Unit → Shared → Prop} (hh : Heap.HeldW B (envOf name scope L a cd :: outer) e cls a0 L s.heap) (hu : g.UpToSlots s.heap)
    (hQ : ∀ h', Heap.FlyingW B outer e cls a0 h' → g.UpToSlots h' → Q1 () { s with heap := h' }) :
    wpAny (model prog w) (A₀.deeper (envOf name scope L a cd)) (leaving (envOf name scope L a cd) (.ref e)) Q1 E s := by
  unfold leaving
  refine wpAny_bind (wpAny_noteFrame_againW rfl hh.2.2.2 ?_)
  refine wpAny_landsW hh fun h' hfl hs => ?_
  (refine and4E hfl fun k1 k2 qq2 k4 => ?_; try clear hfl; refine and3E qq2 fun ux ux k3 => ?_; try clear qq2)
  exact hQ h' ⟨k1, k2, k3, k4⟩ (hu.trans hs)
end
section
theorem sub_stop2 : isSubtype (.type "StopIteration") (.type "StopIteration") = pure true := by rw [isSubtype_type]; kernel_rfl
theorem stop_here2 {M : Model} {A : Around} {Q : Option Value → Shared → Prop} {E : Value → Shared → Prop} {s : Shared} {h₀ g B : Heap} {L e : Addr} {m : Str → Option Value} {l : List Env} {a0 : Value} {kl : List (Addr × Obj)}
    (hB : h₀.StaysIn B) (hl : ∀ q ∈ kl, B.get? q.1 = some q.2 ∧ h₀.get? q.1 = none) (hfl : Heap.FlyingW B l e (.type "StopIteration") a0 s.heap) (hsm : g.UpToSlots s.heap) (F : Fr h₀ L g m) (ne : ∀ q ∈ kl, q.1 ≠ L)
    (k : Fr h₀ L s.heap m → News h₀ L s.heap kl → Q none s) : OwitStop M A Q E (.ref e) s := by
  have hf' := flyingW_base hB hfl
  (refine ex1E hf'.there fun ob qq1 => ?_; refine and2E qq1 fun hob hobc => ?_; try clear qq1)
  have hT : s.TypeIs (.ref e) "StopIteration" := (show ∃ o, s.heap.get? e = some o ∧ o.cls = .type "StopIteration" from ⟨ob, hob, hobc⟩)
  unfold OwitStop
  refine wpAny_isInstance hT sub_stop2 ?_
  show (if true = true then Q none s else E (.ref e) s)
  rw [if_pos rfl]
  exact k (F.of_stays hf'.1 hsm) fun q hq => ⟨hfl.1 _ _ (hl q hq).1, ne q hq, (hl q hq).2⟩
end
end Mine
end
section
open PySem PySem.W PySem.Spec PySem.Calls PyProof.Rows
set_option maxRecDepth 100000 
set_option maxHeartbeats 2000000 
namespace Mine
theorem lines_C23_0 : True := by
  k_with_none
  k_with "q" => (all_goals first | assumption | with_unfolding_all exact rfl)
  k_with "ar" => with_reducible first | assumption | (apply Ar.rm1; k_extra "q") | (apply Ar.rm2; k_extra "q") | (apply Ar.rl0; k_extra "q") | (apply Ar.rq1; k_extra "q") | (apply Ar.nel; k_extra "q") | (apply Ar.ch3; k_extra "q") | (apply Ar.ch4; k_extra "q") | (apply Ar.ch5; k_extra "q") | (apply Ar.pm0; k_extra "q") | (apply Ar.pm1e; k_extra "q")
  k_with "ite" => first | with_reducible refine ite_tt ?_ | with_reducible refine ite_ff ?_
  k_with "execs cons" => first | with_reducible refine seq_cut1 ?_ | (with_reducible refine seq_cut ?_; intro Kc hKc) | (with_reducible refine blk_cut ?_; intro Qd hQd)
  k_with "Nxt" => (k_dflt (dsimp only [Nxt]))
  k_with "Kont" => first | (k_dflt (refine hKc _ _ ?_; try clear hKc)) | (k_dflt (refine hQd _ _ ?_; try clear hQd)) | (k_dflt (refine hQc _ _ ?_; try clear hQc)) | (k_dflt (refine kont_app (by assumption) ?_))
  k_with "mine n" => (
      (case k6 => k_is)
      (case k7 => k_is)
      (case k8 => ((try dsimp only [aA, Around.deeper]); omega))
      (case k9 => exact BindsTo.of_eq rfl)
      (case kB => exact locs rfl)
      (case c2 => exact rfl)
      (case c3 => exact rfl)
      (case c4 => exact rfl)
      (case c5 => decide))
  trivial
theorem lx_C23_0 : True := by
  k_with "k_all" => (intro p hp; have q9 : @LT.lt Nat _ p.1 Lg := hoff p hp; refine neN ?_; (try dsimp only); omega)
  trivial
theorem lx_C23_1 : True := by
  k_with "k_room" => ((try simp only [depth_under_make, depth_under_kw, depth_in1, depth_deeper, depth_caller]); omega)
  trivial
theorem lines_C23_1 : True := by
  k_with "WhlIf" => (
      first
      | refine WhlIf.yes (decide_eq_true (by omega)) ?_
      | refine WhlIf.no (decide_eq_false (by omega)) ?_)
  k_with "call builtin:next" => (
      k_here
      k_dflt (first
      | (refine gen_item3 (D := D) (U := U) rfl (by dsimp only [Around.deeper]; omega) (by dsimp only [Around.deeper]; omega) (by omega) (by k_asm) (by k_asm) ho ok hgo hpo hgs hgg FG.keep TG.nolimit ?_
         clear hpo hgs hgg ok
         intro t9 h9 tk9 gs9 oL9 ps9 F9 N9 ok hpo hgg G9 hG9 hgs)
      | (refine gen_stop3 (D := D) (U := U) rfl (by dsimp only [Around.deeper]; omega) (by dsimp only [Around.deeper]; omega) (by omega) (by k_asm) (by k_asm) ho ok hgo hpo hgs hgg FG.keep TG.nolimit h8 hbl ?_
         clear hpo hgs hgg ok
         intro h5 tk5 h6 e5 oL5 ps5 G5 hG5 F5 N5 ok hE5)))
  trivial
theorem sub_base : isSubtype (.type "BaseException") (.type "BaseException") = pure true := by rw [isSubtype_type]; kernel_rfl
theorem sub_stop_base : isSubtype (.type "StopIteration") (.type "BaseException") = pure true := by rw [isSubtype_type]; kernel_rfl
theorem nt_base : isSubtype (.type ((Manifest.find? "BaseException").elim "type" fun y => y.metatype)) (.type "tuple") = pure false := by
  rw [show ((Manifest.find? "BaseException").elim "type" fun y => y.metatype) = "type" by kernel_rfl, isSubtype_type]; kernel_rfl
theorem isl_more_stop (w : World) {mean : ExcName → Option Value} {mg mb : Str → Option Value} {A A₀ : Around} {E : Value → Shared → Prop} {s : Shared} {h₀ : Heap} {L X dx Ga Lg : Addr} {m : Str → Option Value} {nw : List (Addr × Obj)} {env : Env} {outer : List Env} {q : Nat → Str} {n D U gn : Nat} {oX oG oL : Obj} {ps : Array Value} {gs : GenState} {p : Str} {c : Int} {Q : Option Value → Shared → Prop}
    (G : Gnd w mean mg mb A₀ h₀ outer env L) (hh : A.handled = none) (hdp : A.depth + 8 ≤ D) (hun : A.units + 40 ≤ U) (hA : A.frames = some (env :: outer)) (hD : D + 10 ≤ recursionLimit) (hU : U + 80 ≤ cLine)
    (F : Fr h₀ L s.heap m) (N : News h₀ L s.heap (islLed X dx Ga Lg oX oG oL ps nw)) (o : IslOrd X dx Ga Lg nw) (ok : TabOk ps) (hoX : IslO oX dx Ga c c) (hc : 0 ≤ c ∧ c ≤ 1000) (hgo : GenObj oG gn) (hpo : PathObj oL p) (hgs : s.gens[gn]? = some gs) (hgg : GGo PySem.Challenge.rw_ij0107_01.row.prog w D U h₀ Lg q gs p 0) (h8 : h₀.get? 198 = none) (hbl : h₀.objs.size ≤ Lg)
    (h : ∀ h' tk ps' G', G' = s.gens.setIfInBounds gn .finished → Fr h₀ L h' m → News h₀ L h' ((198, tabObj ps') :: nw) → TabOk ps' → Q none { s with heap := h', toks := tk, gens := G' }) :
    wpAny (model PySem.Challenge.rw_ij0107_01.row.prog w) A (pyNext (.ref X)) Q E s := by
  obtain ⟨ah, ad, af, ag, au⟩ := A
  dsimp only at hh hdp hun hA
  subst hh hA
  obtain ⟨XK, T, BL, hf, hke⟩ := id G
  have ho := o
  obtain ⟨o1, o2, o3, o0, hoff, ho8⟩ := o
  (refine ex4E hoX fun t1 t2 t3 t4 qq4 => ?_; try clear hoX; rcases qq4 with rfl)
  revert XK T
  k_fill
  intro XK T
  have hinst := InstAt.of_news N (.head _) (.tail _ (.head _))
  refine owit_next F XK hinst (by k_is) (by k_is) (wpAny_call ?_)
  refine' code_def (binds := [(Str.ofString "self", .ref X)]) BL F XK N T rfl hf hke ?k6 ?k7 ?k8 ?k9 ?kB ?kk ?c2 ?c3 ?c4 ?c5
  walk_at "mine n"
  intro g L2 h2 FG F2 N2 BG XG TG
  dsimp only [islLed] at N2
  k_steps
  refine caught_fresh BG hE5 F5 N5 XK T PyProof.Rows.Boot.«BaseException» sub_base nt_base sub_stop_base ?_
  intro h7 g7 tb oe ot T7 F7 N7 IH K7 X7 P7 ne7
  have hne7 : @Ne Nat X e5 ∧ @Ne Nat X tb := ne7 (X, _) (.head _)
  k_steps
  rename Fr g7 L2 _ _ => F8
  rename News g7 L2 _ _ => N8
  have hqL : ∀ q ∈ (198, tabObj ps5) :: nw, q.1 ≠ L := by
    intro q hq
    rcases List.mem_cons.mp hq with rfl | hq
    · exact (N (198, tabObj ps) (.tail _ (.tail _ (.tail _ (.tail _ (.head _)))))).2.1
    · exact (N q (.tail _ (.tail _ (.tail _ (.tail _ (.tail _ hq)))))).2.1
  have ug : g.UpToSlots g7 := fun b o e _ => T7.up e
  refine raise_again (kl := (198, tabObj ps5) :: nw) K7 F8 N8 (by k_mem) (by k_mem) IH (fun q hq => ⟨.tail _ (.tail _ (.tail _ (.tail _ (.tail _ (.tail _ hq))))), ne7 q (.tail _ (.tail _ (.tail _ (.tail _ hq))))⟩) ?_
  intro h9 B a0 hB hkl hh hu
  refine leave_again hh (ug.trans hu) fun h10 hfl hu10 => ?_
  refine stop_here2 hB hkl hfl hu10 FG hqL fun F10 N10 => ?_
  exact h _ _ _ _ hG5 F10 N10 ok
theorem isl_first_stop (w : World) {mean : ExcName → Option Value} {mg mb : Str → Option Value} {A A₀ : Around} {E : Value → Shared → Prop} {s : Shared} {h₀ : Heap} {L X dx Ga Lg : Addr} {m : Str → Option Value} {nw : List (Addr × Obj)} {env : Env} {outer : List Env} {q : Nat → Str} {n D U gn : Nat} {oX oG oL : Obj} {ps : Array Value} {gs : GenState} {p : Str} {Q : Option Value → Shared → Prop}
    (G : Gnd w mean mg mb A₀ h₀ outer env L) (hh : A.handled = none) (hdp : A.depth + 8 ≤ D) (hun : A.units + 40 ≤ U) (hA : A.frames = some (env :: outer)) (hD : D + 10 ≤ recursionLimit) (hU : U + 80 ≤ cLine)
    (F : Fr h₀ L s.heap m) (N : News h₀ L s.heap (islLed X dx Ga Lg oX oG oL ps nw)) (o : IslOrd X dx Ga Lg nw) (ok : TabOk ps) (hoX : IslO oX dx Ga 0 1) (hgo : GenObj oG gn) (hpo : PathObj oL p) (hgs : s.gens[gn]? = some gs) (hgg : GGo PySem.Challenge.rw_ij0107_01.row.prog w D U h₀ Lg q gs p 1) (h8 : h₀.get? 198 = none) (hbl : h₀.objs.size ≤ Lg)
    (h : ∀ h' tk ps' G', G' = s.gens.setIfInBounds gn .finished → Fr h₀ L h' m → News h₀ L h' ((198, tabObj ps') :: nw) → TabOk ps' → Q none { s with heap := h', toks := tk, gens := G' }) :
    wpAny (model PySem.Challenge.rw_ij0107_01.row.prog w) A (pyNext (.ref X)) Q E s := by
  obtain ⟨ah, ad, af, ag, au⟩ := A
  dsimp only at hh hdp hun hA
  subst hh hA
  obtain ⟨XK, T, BL, hf, hke⟩ := id G
  have ho := o
  obtain ⟨o1, o2, o3, o0, hoff, ho8⟩ := o
  (refine ex4E hoX fun t1 t2 t3 t4 qq4 => ?_; try clear hoX; rcases qq4 with rfl)
  revert XK T
  k_fill
  intro XK T
  have hinst := InstAt.of_news N (.head _) (.tail _ (.head _))
  refine owit_next F XK hinst (by k_is) (by k_is) (wpAny_call ?_)
  refine' code_def (binds := [(Str.ofString "self", .ref X)]) BL F XK N T rfl hf hke ?k6 ?k7 ?k8 ?k9 ?kB ?kk ?c2 ?c3 ?c4 ?c5
  walk_at "mine n"
  intro g L2 h2 FG F2 N2 BG XG TG
  dsimp only [islLed] at N2
  k_steps
  refine caught_fresh BG hE5 F5 N5 XK T PyProof.Rows.Boot.«BaseException» sub_base nt_base sub_stop_base ?_
  intro h7 g7 tb oe ot T7 F7 N7 IH K7 X7 P7 ne7
  have hne7 : @Ne Nat X e5 ∧ @Ne Nat X tb := ne7 (X, _) (.head _)
  k_steps
  rename Fr g7 L2 _ _ => F8
  rename News g7 L2 _ _ => N8
  have hqL : ∀ q ∈ (198, tabObj ps5) :: nw, q.1 ≠ L := by
    intro q hq
    rcases List.mem_cons.mp hq with rfl | hq
    · exact (N (198, tabObj ps) (.tail _ (.tail _ (.tail _ (.tail _ (.head _)))))).2.1
    · exact (N q (.tail _ (.tail _ (.tail _ (.tail _ (.tail _ hq)))))).2.1
  have ug : g.UpToSlots g7 := fun b o e _ => T7.up e
  refine raise_again (kl := (198, tabObj ps5) :: nw) K7 F8 N8 (by k_mem) (by k_mem) IH (fun q hq => ⟨.tail _ (.tail _ (.tail _ (.tail _ (.tail _ (.tail _ hq))))), ne7 q (.tail _ (.tail _ (.tail _ (.tail _ hq))))⟩) ?_
  intro h9 B a0 hB hkl hh hu
  refine leave_again hh (ug.trans hu) fun h10 hfl hu10 => ?_
  refine stop_here2 hB hkl hfl hu10 FG hqL fun F10 N10 => ?_
  exact h _ _ _ _ (by rw [hG5]; subst hG9; exact Array.setIfInBounds_setIfInBounds _) F10 N10 ok
end Mine
end
section
open PySem PySem.W PySem.Spec PySem.Calls PyProof.Rows PyProof.Rows.LCg PyProof.Rows.LCt
set_option maxRecDepth 100000
set_option maxHeartbeats 2000000
namespace Mine
theorem l0_T11 : True := by
  k_with_none
  k_with "q" => (all_goals first | assumption | with_unfolding_all exact rfl)
  k_with "ar" => with_reducible first | assumption | (apply Ar.sn1; k_extra "q") | (apply Ar.neg_; k_extra "q") | (apply Ar.ch3'; k_extra "q") | (apply Ar.ch4'; k_extra "q") | (apply Ar.ch5'; k_extra "q") | (apply Ar.addL'; k_extra "q") | (apply Ar.n15; k_extra "q") | (apply Ar.n30; k_extra "q") | (apply Ar.i31; k_extra "q") | (apply Ar.i30; k_extra "q")
  trivial
noncomputable def down (q : Nat → Str) : Nat → List Str
  | 0 => []
  | n + 1 => q (n + 1) :: down q n
noncomputable abbrev slashed (x : Str) : Str := x ++ Str.ofString "/"
section
variable {w : World} {mean : ExcName → Option Value} {mg mb : Str → Option Value} {A A₀ : Around} {E : Value → Shared → Prop} {s : Shared} {h₀ : Heap} {L X dx Ga Lg I C Dl : Addr} {m m₂ : Str → Option Value} {news : List (Addr × Obj)} {env : Env} {outer : List Env} {q : Nat → Str} {N D U gn : Nat}
  {oX oG oL oI oC : Obj} {ps : Array Value} {gs : GenState} {p : Str} {ys : List Value} {x y : Str} {px py pe pc pb pos : Pos} {kk : Addr} {i0 i1 : Expr} {ifs : List Expr} {scope : Scope} {cl : List (Str × Addr)}
noncomputable abbrev pLed (X dx Ga Lg I C Dl : Addr) (oX oG oL oI oC : Obj) (ps : Array Value) (ys : List Value) (news : List (Addr × Obj)) : List (Addr × Obj) := islLed X dx Ga Lg oX oG oL ps ((I, oI) :: (C, oC) :: (Dl, lst ys) :: news)
theorem ord_same {oC' : Obj} {zs : List Value} (o : IslOrd X dx Ga Lg ((I, oI) :: (C, oC) :: (Dl, lst ys) :: news)) : IslOrd X dx Ga Lg ((I, oI) :: (C, oC') :: (Dl, lst zs) :: news) := by
  obtain ⟨o1, o2, o3, o0, off, o8⟩ := o
  exact ⟨o1, o2, o3, o0, allC (off (I, oI) (.head _)) (allC (off (C, oC) (.tail _ (.head _))) (allC (off (Dl, lst ys) (.tail _ (.tail _ (.head _)))) fun r hr => off r (.tail _ (.tail _ (.tail _ hr))))),
    allC (o8 (I, oI) (.head _)) (allC (o8 (C, oC) (.tail _ (.head _))) (allC (o8 (Dl, lst ys) (.tail _ (.tail _ (.head _)))) fun r hr => o8 r (.tail _ (.tail _ (.tail _ hr)))))⟩
inductive PAt (prog : Program) (w : World) (h₀ : Heap) (L : Addr) (m : Str → Option Value) (X dx Ga Lg I C Dl : Addr) (oG oI : Obj) (ys : List Value) (news : List (Addr × Obj)) (q : Nat → Str) (N D U gn : Nat) (gens₀ : Array GenState) (drawn : Drawn) (os : OsState) (k : Nat) : Shared → Prop
  | mk (h : Heap) (tk : Nat) (gens : Array GenState) (gs : GenState) (oX oL oC : Obj) (m₂ : Str → Option Value) (ps : Array Value) (zs : List Value) (zt : List Str) (p : Str) (F : Fr h₀ L h m) (NN : News h₀ L h (pLed X dx Ga Lg I C Dl oX oG oL oI oC ps (ys ++ zs) news)) (ok : TabOk ps) (hoC : NsObj oC m₂) (hpo : PathObj oL p) (hgs : gens[gn]? = some gs)
    (hgz : ∀ z, gens.setIfInBounds gn z = gens₀.setIfInBounds gn z) (hz : Are IsS zs zt)
    (hst : (k = N + 1 ∧ IslO oX dx Ga 0 1 ∧ zs = [] ∧ zt = [] ∧ GGo prog w D U h₀ Lg q gs p (N + 1)) ∨ (k + 1 ≤ N ∧ IslO oX dx Ga ((N + 1 - k : Nat) : Int) ((N + 1 - k : Nat) : Int) ∧ zt ++ (down q k).map slashed = (down q N).map slashed ∧ zs.length + k = N ∧ GGo prog w D U h₀ Lg q gs p k)) :
    PAt prog w h₀ L m X dx Ga Lg I C Dl oG oI ys news q N D U gn gens₀ drawn os k ⟨h, gens, drawn, tk, os⟩
inductive ParEnd (h₀ : Heap) (L : Addr) (m : Str → Option Value) (I C Dl : Addr) (oI : Obj) (ys : List Value) (news : List (Addr × Obj)) (xs : List Str) (gens : Array GenState) (drawn : Drawn) (os : OsState) : Result → Shared → Prop
  | mk (f : Flow) (h' : Heap) (tk' : Nat) (oC' : Obj) (m₂' : Str → Option Value) (zs : List Value) (ps' : Array Value) (F : Fr h₀ L h' m) (NN : News h₀ L h' ((198, tabObj ps') :: (I, oI) :: (C, oC') :: (Dl, lst (ys ++ zs)) :: news)) (ok : TabOk ps') (hoC : NsObj oC' m₂') (hz : Are IsS zs xs) :
    ParEnd h₀ L m I C Dl oI ys news xs gens drawn os (.ok f) ⟨h', gens, drawn, tk', os⟩
theorem inner_parents (G : Gnd w mean mg mb A₀ h₀ outer env L) (hh : A.handled = none) (hdp : A.depth + 8 ≤ D) (hun : A.units + 40 ≤ U) (hA : A.frames = some (env :: outer)) (hD : D + 10 ≤ recursionLimit) (hU : U + 80 ≤ cLine) (h8 : h₀.get? 198 = none) (hbl : h₀.objs.size ≤ Lg)
    (F : Fr h₀ L s.heap m) (NN : News h₀ L s.heap (pLed X dx Ga Lg I C Dl oX oG oL oI oC ps ys news)) (hoC : NsObj oC m₂) (o : IslOrd X dx Ga Lg ((I, oI) :: (C, oC) :: (Dl, lst ys) :: news)) (ok : TabOk ps) (hoX : IslO oX dx Ga 0 1) (hgo : GenObj oG gn) (hpo : PathObj oL p) (hgs : s.gens[gn]? = some gs)
    (hgg : GGo PySem.Challenge.rw_ij0107_01.row.prog w D U h₀ Lg q gs p (N + 1)) (ne : (@Ne Nat I C) ∧ (@Ne Nat I Dl) ∧ (@Ne Nat C Dl)) (off : Off3 I C Dl news) (hN : N ≤ 900) (hys : ys.length ≤ 1000)
    (hy : scope.names.lookup y = some .local) (hkind : scope.kind = .function) (hd : (y == ("__debug__" : Str)) = false) (hq : ∀ n, n ≤ N → (q n).length ≤ 5000) :
    codeAny (model PySem.Challenge.rw_ij0107_01.row.prog w) A (.compLoop (two (.BinOp (.Name y pe) .Add (.Constant (.str (Str.ofString "/")) kk pc) pb) x y px py i0 i1 ifs scope pos) 1 (.ref X) (.ref Dl) (compEnvC scope cl C env))
      (ParEnd h₀ L m I C Dl oI ys news ((down q N).map slashed) (s.gens.setIfInBounds gn .finished) s.drawn s.os) s := by
  refine loop_two1 (PAt PySem.Challenge.rw_ij0107_01.row.prog w h₀ L m X dx Ga Lg I C Dl oG oI ys news q N D U gn s.gens s.drawn s.os) ?_ (N + 1) (.mk s.heap s.toks s.gens gs oX oL oC m₂ ps [] [] p F (by rw [List.append_nil]; exact NN) ok hoC hpo hgs (fun _ => rfl) .nil (.inl ⟨rfl, hoX, rfl, rfl, hgg⟩))
  (intro k s' qr2; obtain ⟨h, tk, gens, gs, oX, oL, oC, m₂, ps, zs, zt, p, F, NN, ok, hoC, hpo, hgs, hgz, hz, hst⟩ := qr2)
  have off3 := off.mem
  have hord : IslOrd X dx Ga Lg ((I, oI) :: (C, oC) :: (Dl, lst (ys ++ zs)) :: news) := ord_same o
  obtain ⟨o1, o2, o3, o0, hoff₀, ho8₀⟩ := id hord
  -- a text that came: it is named, a slash is set behind it, it goes to the list
  have step : ∀ (n : Nat) (t : Tok) (h' : Heap) (tk' : Nat) (gens' : Array GenState) (gs' : GenState) (oX' oL' : Obj) (ps' : Array Value) (E' : Value → Shared → Prop), n + 1 ≤ N → n < k → Fr h₀ L h' m → News h₀ L h' (pLed X dx Ga Lg I C Dl oX' oG oL' oI oC ps' (ys ++ zs) news) → TabOk ps' →
      IslO oX' dx Ga ((N + 1 - n : Nat) : Int) ((N + 1 - n : Nat) : Int) → PathObj oL' (q (n + 1)) → gens'[gn]? = some gs' → (∀ z, gens'.setIfInBounds gn z = s.gens.setIfInBounds gn z) → GGo PySem.Challenge.rw_ij0107_01.row.prog w D U h₀ Lg q gs' (q (n + 1)) n → zt ++ (down q (n + 1)).map slashed = (down q N).map slashed → zs.length + (n + 1) = N →
      wpAny (model PySem.Challenge.rw_ij0107_01.row.prog w) A (assign (.Name y py) (compEnvC scope cl C env) (.str (q (n + 1)) t)) (fun _ s₂ => wpAny (model PySem.Challenge.rw_ij0107_01.row.prog w) A (eval (.BinOp (.Name y pe) .Add (.Constant (.str (Str.ofString "/")) kk pc) pb) (compEnvC scope cl C env)) (fun x s₃ =>
        wpAny (model PySem.Challenge.rw_ij0107_01.row.prog w) A (call (.builtin "list.append") [.ref Dl, x]) (fun _ s₄ => ∃ m', m' < k ∧ PAt PySem.Challenge.rw_ij0107_01.row.prog w h₀ L m X dx Ga Lg I C Dl oG oI ys news q N D U gn s.gens s.drawn s.os m' s₄) E' s₃) E' s₂) E' { s with heap := h', toks := tk', gens := gens' } := by
    intro n t h' tk' gens' gs' oX' oL' ps' E' hnN hnk F' N' ok' hX' hp' hg' hgz' hgg' hzt hzl
    have zI := N' (I, oI) (.tail _ (.tail _ (.tail _ (.tail _ (.tail _ (.head _))))))
    have zC := N' (C, oC) (.tail _ (.tail _ (.tail _ (.tail _ (.tail _ (.tail _ (.head _)))))))
    have zD := N' (Dl, lst (ys ++ zs)) (.tail _ (.tail _ (.tail _ (.tail _ (.tail _ (.tail _ (.tail _ (.head _))))))))
    dsimp only at zI zC zD
    refine wpAny_assign_Name (wpAny_storeName_local (lookup_relabel_local hy) (hoC.ns zC.1) (fun h₃ hn₃ hs₃ => ?_) (by simp [compEnvC, relabel, hkind]))
    refine wpAny_BinOp (wpAny_Name (wpAny_loadName_local (v := .str (q (n + 1)) t) (by simp [compEnvC, relabel, hkind]) (lookup_relabel_local hy) hn₃ (by simp) ?_) hd)
    refine wpAny_Constant_str ?_
    refine add_str (fun t₄ tk₄ => ?_) (by have := hq (n + 1) hnN; have e : (Str.ofString "/").length = 1 := by decide +kernel
                                          have := sizeLine_eq; omega)
    have hD₃ : h₃.get? Dl = some (lst (ys ++ zs)) := hs₃.extBut _ _ (fun q => ne.2.2 q.symm) zD.1
    refine append_at (hsz := by have := sizeLine_eq; show (ys ++ zs).toArray.size ≤ sizeLine; rw [List.size_toArray, List.length_append]; omega) hD₃ fun h₄ hs₄ hD₄ => ?_
    have hkeep : ∀ b o, @Ne Nat b C → @Ne Nat b Dl → h'.get? b = some o → h₄.get? b = some o := fun b o h1 h2 e => hs₄.extBut b o h2 (hs₃.extBut b o h1 e)
    (refine ex1E (ns_obj (hn₃.at' fun o e => hs₄.extBut C o ne.2.2 e)) fun oC' qq1 => ?_; refine and2E qq1 fun heC hoC' => ?_; try clear qq1)
    refine ⟨n, hnk, .mk h₄ _ gens' gs' oX' oL' oC' _ ps' (zs ++ [.str (slashed (q (n + 1))) t₄]) (zt ++ [slashed (q (n + 1))]) (q (n + 1)) ⟨?_, fun b o e => ?_, F'.above⟩ ?_ ok' hoC' hp' hg' hgz' (hz.append (.cons ⟨t₄, rfl⟩ .nil)) (.inr ⟨by omega, hX', ?_, ?_, hgg'⟩)⟩
    · (refine ex3E F'.ns fun o2 a1 a2 qq3 => ?_; refine and2E qq3 fun hL a3 => ?_; try clear qq3)
      exact ⟨o2, a1, a2, hkeep L o2 (fun q => zC.2.1 q.symm) (fun q => zD.2.1 q.symm) hL, a3⟩
    · refine hkeep b o (fun q => ?_) (fun q => ?_) (F'.keep b o e)
      · have : b = C := q
        rw [this, zC.2.2] at e; cases e
      · have : b = Dl := q
        rw [this, zD.2.2] at e; cases e
    · have c1 := hoff₀ (C, oC) (.tail _ (.head _))
      have c2 := hoff₀ (Dl, lst (ys ++ zs)) (.tail _ (.tail _ (.head _)))
      have c3 := ho8₀ (C, oC) (.tail _ (.head _))
      have c4 := ho8₀ (Dl, lst (ys ++ zs)) (.tail _ (.tail _ (.head _)))
      dsimp only at c1 c2 c3 c4
      have old : ∀ r : Addr × Obj, r ∈ pLed X dx Ga Lg I C Dl oX' oG oL' oI oC ps' (ys ++ zs) news → @Ne Nat r.1 C → @Ne Nat r.1 Dl → h₄.get? r.1 = some r.2 ∧ r.1 ≠ L ∧ h₀.get? r.1 = none := fun r hr n1 n2 => ⟨hkeep _ _ n1 n2 (N' r hr).1, (N' r hr).2⟩
      refine newsZ (old _ (.head _) ?_ ?_) (newsZ (old _ (.tail _ (.head _)) ?_ ?_) (newsZ (old _ (.tail _ (.tail _ (.head _))) ?_ ?_) (newsZ (old _ (.tail _ (.tail _ (.tail _ (.head _)))) ?_ ?_)
        (newsZ (old _ (.tail _ (.tail _ (.tail _ (.tail _ (.head _))))) (fun q => c3 q.symm) (fun q => c4 q.symm)) (newsZ ⟨hkeep _ _ ne.1 ne.2.1 zI.1, zI.2⟩ (newsC heC zC.2 (newsZ ⟨?_, zD.2⟩
        fun r hr => old r (.tail _ (.tail _ (.tail _ (.tail _ (.tail _ (.tail _ (.tail _ (.tail _ hr)))))))) (off3 r hr).2.1 (off3 r hr).2.2)))))))
      case refine_9 =>
        rw [hD₄, ← List.append_assoc]
        exact congrArg some (lst_snoc (ys ++ zs) _)
      all_goals (dsimp only; omega)
    · rw [List.append_assoc]; exact hzt
    · rw [List.length_append, List.length_singleton]; omega
  have done : ∀ (h' : Heap) (tk' : Nat) (ps' : Array Value) (gens' : Array GenState), gens' = gens.setIfInBounds gn .finished → Fr h₀ L h' m → News h₀ L h' ((198, tabObj ps') :: (I, oI) :: (C, oC) :: (Dl, lst (ys ++ zs)) :: news) → TabOk ps' → zt = (down q N).map slashed →
      ParEnd h₀ L m I C Dl oI ys news ((down q N).map slashed) (s.gens.setIfInBounds gn .finished) s.drawn s.os (.ok .next) { s with heap := h', toks := tk', gens := gens' } := by
    intro h' tk' ps' gens' eg F' N' ok' e
    rw [eg.trans (hgz _)]
    exact .mk _ h' tk' oC _ zs ps' F' N' ok' hoC (e ▸ hz)
  rcases hst with ⟨ek, hX, ez, et, hgg⟩ | ⟨hkN, hX, hzt, hzl, hgg⟩
  · rcases Nat.eq_zero_or_pos N with e0 | e0
    · refine isl_first_stop (n := 0) w G hh hdp hun hA hD hU F NN hord ok hX hgo hpo hgs (by rw [e0] at hgg; exact hgg) h8 hbl fun h' tk' ps' gens' eg F' N' ok' => done h' tk' ps' gens' eg F' N' ok' ?_
      rw [et, e0]; rfl
    · have e1 : N = N - 1 + 1 := (Nat.sub_add_cancel e0).symm
      refine isl_first_item (n := N - 1) w G hh hdp hun hA hD hU F NN hord ok hX hgo hpo hgs (by rw [e1] at hgg; exact hgg) fun t h' tk' gs₁ gs' oX' oL' ps' F' N' ok' hX' hp' hg' => ?_
      exact step (N - 1) t h' tk' _ gs' oX' oL' ps' _ (by omega) (by omega) F' N' ok' (by rw [show N + 1 - (N - 1) = 2 by omega]; exact hX') hp' (gens_set (gens_set hgs)) (fun z => by show ((gens.setIfInBounds gn gs₁).setIfInBounds gn gs').setIfInBounds gn z = _; rw [Array.setIfInBounds_setIfInBounds, Array.setIfInBounds_setIfInBounds]; exact hgz z) hg' (by rw [et, ← e1]; rfl) (by rw [ez, List.length_nil]; omega)
  · rcases Nat.eq_zero_or_pos k with e0 | e0
    · refine isl_more_stop (n := 0) w G hh hdp hun hA hD hU F NN hord ok hX ⟨by omega, by omega⟩ hgo hpo hgs (by rw [e0] at hgg; exact hgg) h8 hbl fun h' tk' ps' gens' eg F' N' ok' => done h' tk' ps' gens' eg F' N' ok' ?_
      rw [e0] at hzt
      simpa [down] using hzt
    · have e1 : k = k - 1 + 1 := (Nat.sub_add_cancel e0).symm
      refine isl_more_item (n := k - 1) w G hh hdp hun hA hD hU F NN hord ok hX ⟨by omega, by omega⟩ hgo hpo hgs (by rw [e1] at hgg; exact hgg) fun t h' tk' gs' oX' oL' ps' F' N' ok' hX' hp' hg' => ?_
      refine step (k - 1) t h' tk' _ gs' oX' oL' ps' _ (by omega) (by omega) F' N' ok' ?_ hp' (gens_set hgs) (fun z => by show (gens.setIfInBounds gn gs').setIfInBounds gn z = _; rw [Array.setIfInBounds_setIfInBounds]; exact hgz z) hg' (by rw [← e1]; exact hzt) (by omega)
      have e : ((N + 1 - k : Nat) : Int) + 1 = ((N + 1 - (k - 1) : Nat) : Int) := by omega
      rw [← e]; exact hX'
end
end Mine
end
section
open PySem PySem.W PySem.Spec PySem.Calls PyProof.Rows
set_option maxRecDepth 100000
set_option maxHeartbeats 2000000
namespace Mine
theorem l0_T12 : True := by
  k_with_none
  trivial
noncomputable def GoodX (cw : ClaimW) (cl : Str → Option Addr) (args : List WData) (s₁ : Shared) (tabs : List (Addr × Addr)) (r : Result) (s' : Shared) : Prop :=
  (∃ v d, r = .ok (.ret v) ∧ ReadsW cw.records cl s'.heap v d [] ∧ cw.post args d args = true) ∧ (∀ b o, (ghostOf s₁.heap tabs).get? b = some o → s'.heap.get? b = some o) ∧ s'.os = s₁.os ∧ AllBare s'.gens ∧ GrownAll tabs s'.heap
theorem kn_postG {M : Model} {A : Around} {cd : Code} {s s₁ : Shared} {cw : ClaimW} {cl : Str → Option Addr} {mean : ExcName → Option Value} {args : List WData} {tabs : List (Addr × Addr)} (hT : TabsAt tabs s₁.heap) (hr : ∀ a x, cw.raises a x = false)
    (h : codeAny M A cd (GoodX cw cl args s₁ tabs) s) : codeAny M A cd (GoodWG cw cl mean args s₁) s := by
  refine codeAny_mono h fun r s' hx => ?_
  obtain ⟨⟨v, d, rfl, hv, hp⟩, hk, hos, hg, hgr⟩ := hx
  have tab : ∀ b o, b ∈ tabs.map (·.2) → s₁.heap.get? b = some o → isCodeTable s₁.heap b ∧ o = tabObj #[] ∧ ∃ ps, s'.heap.get? b = some (tabObj ps) := by
    intro b o hb e
    obtain ⟨q, hq, rfl⟩ := List.mem_map.mp hb
    obtain ⟨c1, c2⟩ := hT q hq
    rw [c2] at e
    exact ⟨(c1.tab c2).isCodeTable, (Option.some.inj e).symm, GrownAll.get hgr q hq⟩
  refine ⟨.inl ⟨v, d, [], rfl, fun x => hr _ x, hv, hp, fun _ => ⟨List.nodup_nil, fun _ m => (nomatch m)⟩⟩, ⟨?_, ?_⟩, hos, hg⟩
  · intro b o e
    by_cases hb : b ∈ tabs.map (·.2)
    · obtain ⟨c1, rfl, ps, c3⟩ := tab b o hb e
      exact .inr (.inl ⟨c1, rfl, #[], ps, rfl, by simpa using c3⟩)
    · exact .inl (hk b o (ghost_ne e hb))
  · intro b o e
    by_cases hb : b ∈ tabs.map (·.2)
    · obtain ⟨_, _, ps, c3⟩ := tab b o hb e
      exact ⟨_, c3⟩
    · exact ⟨o, hk b o (ghost_ne e hb)⟩
end Mine
end
section
open PySem PySem.W PySem.Spec PySem.Calls PyProof.Rows
set_option maxRecDepth 100000 
set_option maxHeartbeats 2000000 
namespace Mine
theorem lines_T13_0 : True := by
  k_with_none
  k_with "q" => (all_goals first | assumption | with_unfolding_all exact rfl)
  k_with "ar" => with_reducible first | assumption | (apply Ar.rl0; k_extra "q")
  k_with "mine n" => (
      (case k6 => k_is)
      (case k7 => k_is)
      (case k8 => ((try dsimp only [aA, Around.deeper]); omega))
      (case k9 => exact BindsTo.of_eq rfl)
      (case kB => exact locs rfl)
      (case c2 => exact rfl)
      (case c3 => exact rfl)
      (case c4 => exact rfl)
      (case c5 => decide))
  trivial
theorem isl_iter (w : World) {mean : ExcName → Option Value} {mg mb : Str → Option Value} {A A₀ : Around} {E : Value → Shared → Prop} {s : Shared} {h₀ : Heap} {L X dx Ga Lg : Addr} {m : Str → Option Value} {nw : List (Addr × Obj)} {env : Env} {outer : List Env} {oX oG oL : Obj} {ps : Array Value} {c z : Int} {Q : Value → Shared → Prop}
    (G : Gnd w mean mg mb A₀ h₀ outer env L) (hdp : A.depth + 5 ≤ recursionLimit) (hA : A.frames = some (env :: outer)) (F : Fr h₀ L s.heap m) (N : News h₀ L s.heap (islLed X dx Ga Lg oX oG oL ps nw)) (hoX : IslO oX dx Ga c z)
    (h : ∀ h' tk, Fr h₀ L h' m → News h₀ L h' (islLed X dx Ga Lg oX oG oL ps nw) → Q (.ref X) { s with heap := h', toks := tk }) :
    wpAny (model PySem.Challenge.rw_ij0107_01.row.prog w) A (pyIter (.ref X)) Q E s := by
  obtain ⟨XK, T, BL, hf, hke⟩ := G
  (refine ex4E hoX fun t1 t2 t3 t4 qq4 => ?_; try clear hoX; rcases qq4 with rfl)
  revert XK T
  k_fill
  intro XK T
  have hinst := InstAt.of_news N (.head _) (.tail _ (.head _))
  refine owit_iter F XK hinst (by k_is) (by k_is) (wpAny_call ?_)
  refine' code_def (binds := [(Str.ofString "self", .ref X)]) BL F XK N T hA hf hke ?k6 ?k7 ?k8 ?k9 ?kB ?kk ?c2 ?c3 ?c4 ?c5
  walk_at "mine n"
  intro g L2 h2 FG F2 N2 BG XG TG
  dsimp only [islLed] at N2
  k_steps
  exact h _ _ (by k_asm) (by k_asm)
end Mine
end
section
open PySem PySem.W PySem.Spec PySem.Calls PyProof.Rows
set_option maxRecDepth 100000
set_option maxHeartbeats 2000000
namespace Mine
theorem l0_LW : True := by
  k_with_none
  k_with "q" => (all_goals first | assumption | with_unfolding_all exact rfl)
  k_with "ar" => with_reducible first | assumption | (apply Ar.le2; k_extra "q") | (apply Ar.le3; k_extra "q") | (apply Ar.n33; k_extra "q") | (apply Ar.n49; k_extra "q")
  trivial
noncomputable def lawPack : (b : List Stmt) ×' (sc : Scope) ×' (∀ p : Params, ∃ oc od dV kV doc pm an cdv ct osl name qual pa, (hd.heap_1_1 p).lookup (258 : Addr) = some ⟨oc, od, .func (fnOf name qual pa b sc dV kV doc pm an cdv ct), osl⟩) :=
  ⟨_, _, fun _ => ⟨_, _, _, _, _, _, _, _, _, _, _, _, _, rfl⟩⟩
noncomputable abbrev lawBody : List Stmt := lawPack.1
noncomputable abbrev lawScope : Scope := lawPack.2.1
noncomputable abbrev lawEnv (L f : Addr) (cd : Value) : Env := envOfC (Str.ofString "law") lawScope L f cd
noncomputable abbrev lawSt (i : Nat) : Stmt := lawBody.getD i (.Pass ⟨0, 0, 0, 0⟩)
noncomputable abbrev lawForBody : List Stmt := match lawSt 12 with
  | .For _ _ b _ _ => b
  | _ => []
noncomputable abbrev lawFor (i : Nat) : Stmt := lawForBody.getD i (.Pass ⟨0, 0, 0, 0⟩)
noncomputable abbrev lA (dp un : Nat) (env : Env) (outer : List Env) (gd : Option (List Code)) : Around := aA dp un (some (env :: outer)) gd
noncomputable abbrev lLed (L : Addr) (o1 o2 o3 o4 o5 o6 : Obj) (ps : Array Value) (back : List (Addr × Obj)) : List (Addr × Obj) :=
  (L + 1 + 1 + 1 + 1 + 1 + 1, o6) :: (L + 1 + 1 + 1 + 1 + 1, o5) :: (L + 1 + 1 + 1 + 1, o4) :: (L + 1 + 1 + 1, o3) :: (L + 1 + 1, o2) :: (L + 1, o1) :: (198, tabObj ps) :: back
noncomputable abbrev cellIs (o : Obj) (v : Option Value) : Prop := o.data = .cell v
noncomputable abbrev apL (L a : Addr) : Prop := @Ne Nat a 198 ∧ @Ne Nat a (L + 1) ∧ @Ne Nat a (L + 1 + 1) ∧ @Ne Nat a (L + 1 + 1 + 1) ∧ @Ne Nat a (L + 1 + 1 + 1 + 1) ∧ @Ne Nat a (L + 1 + 1 + 1 + 1 + 1) ∧ @Ne Nat a (L + 1 + 1 + 1 + 1 + 1 + 1)
theorem News.sub {h₀ h : Heap} {L : Addr} {big small : List (Addr × Obj)} (N : News h₀ L h big) (hs : ∀ p ∈ small, p ∈ big) : News h₀ L h small := fun p hp => N p (hs p hp)
noncomputable def numsOf (ns : List Int) : List Int := if ((ns.take 2).map fun k => k.fmod (10 ^ 9)).length < 2 then ((ns.take 2).map fun k => k.fmod (10 ^ 9)) ++ [202] else (ns.take 2).map fun k => k.fmod (10 ^ 9)
noncomputable def namesF (a : List Str) (n : Int) : List Str := if a.contains (lawName n) then a else a ++ [lawName n]
noncomputable def namesOf (ns : List Int) : List Str := ns.foldl namesF []
theorem namesOf_len (l : List Int) : (namesOf l).length ≤ l.length := by
  have key : ∀ (l : List Int) (a : List Str), (l.foldl namesF a).length ≤ a.length + l.length := by
    intro l
    induction l with
    | nil => intro a; simp
    | cons n l ih =>
      intro a
      have h1 : (namesF a n).length ≤ a.length + 1 := by
        unfold namesF
        split
        · omega
        · rw [List.length_append, List.length_singleton]; omega
      have h2 := ih (namesF a n)
      rw [List.foldl_cons, List.length_cons]; omega
  have := key l []
  rw [List.length_nil, Nat.zero_add] at this
  exact this
theorem fr_eq {h₀ h : Heap} {L : Addr} {m m' : Str → Option Value} (F : Fr h₀ L h m) (e : ∀ z, m z = m' z) : Fr h₀ L h m' := (funext e : _ = _) ▸ F
theorem numsOf_len (ns : List Int) : (numsOf ns).length ≤ 2 := by
  unfold numsOf
  split <;> rename_i h
  · rw [List.length_append, List.length_singleton]; omega
  · rw [List.length_map, List.length_take]; omega
theorem numsOf_in (ns : List Int) : ∀ n ∈ numsOf ns, 0 ≤ n ∧ n < 1000000000 := by
  have key : ∀ n ∈ (ns.take 2).map (fun k => k.fmod (10 ^ 9)), 0 ≤ n ∧ n < 1000000000 := by
    intro n hn
    (refine ex1E (List.mem_map.mp hn) fun k qq1 => ?_; refine and2E qq1 fun ux qq11 => ?_; try clear qq1; rcases qq11 with rfl)
    exact ⟨fmod_lo _ (by decide), fmod_hi k (n := 1000000000) (by decide)⟩
  intro n hn
  unfold numsOf at hn
  split at hn
  · rcases List.mem_append.mp hn with hn | hn
    · exact key n hn
    · rw [List.mem_singleton.mp hn]; exact ⟨by decide, by decide⟩
  · exact key n hn
theorem lled_parts {P : Addr × Obj → Prop} {L : Addr} {o1 o2 o3 o4 o5 o6 : Obj} {ps : Array Value} {back : List (Addr × Obj)} (h : ∀ q ∈ lLed L o1 o2 o3 o4 o5 o6 ps back, P q) : (∀ q ∈ lLed L o1 o2 o3 o4 o5 o6 ps [], P q) ∧ ∀ q ∈ back, P q :=
  List.forall_mem_append.mp (show ∀ q ∈ lLed L o1 o2 o3 o4 o5 o6 ps [] ++ back, P q from h)
theorem lled_join {P : Addr × Obj → Prop} {L : Addr} {o1 o2 o3 o4 o5 o6 : Obj} {ps : Array Value} {back : List (Addr × Obj)} (a : ∀ q ∈ lLed L o1 o2 o3 o4 o5 o6 ps [], P q) (b : ∀ q ∈ back, P q) : ∀ q ∈ lLed L o1 o2 o3 o4 o5 o6 ps back, P q :=
  show ∀ q ∈ lLed L o1 o2 o3 o4 o5 o6 ps [] ++ back, P q from List.forall_mem_append.mpr ⟨a, b⟩
theorem lled_put {P : Addr × Obj → Prop} {L : Addr} {o1 o2 o3 o4 o5 o6 : Obj} {ps : Array Value} {back objs : List (Addr × Obj)} {x : Addr × Obj} (hx : P x) (h : ∀ q ∈ lLed L o1 o2 o3 o4 o5 o6 ps (back ++ objs), P q) : ∀ q ∈ lLed L o1 o2 o3 o4 o5 o6 ps (back ++ x :: objs), P q :=
  have p := lled_parts h
  have b := List.forall_mem_append.mp p.2
  lled_join p.1 (List.forall_mem_append.mpr ⟨b.1, List.forall_mem_cons.mpr ⟨hx, b.2⟩⟩)
theorem lled_ps {P : Addr → Prop} {L : Addr} {o1 o2 o3 o4 o5 o6 : Obj} {ps ps' : Array Value} {back : List (Addr × Obj)} (h : ∀ q ∈ lLed L o1 o2 o3 o4 o5 o6 ps back, P q.1) : ∀ q ∈ lLed L o1 o2 o3 o4 o5 o6 ps' back, P q.1 := by
  have p := lled_parts h
  refine lled_join ?_ p.2
  have c := p.1
  simp only [lLed, List.forall_mem_cons] at c ⊢
  exact c
theorem lled_ap {L r : Addr} {o1 o2 o3 o4 o5 o6 : Obj} {ps : Array Value} {back : List (Addr × Obj)} (h : ∀ q ∈ lLed L o1 o2 o3 o4 o5 o6 ps back, @Ne Nat r q.1) : apL L r := by
  simp only [lLed, List.forall_mem_cons] at h
  (refine and8E h fun h6 h5 h4 h3 h2 h1 h0 ux => ?_; try clear h)
  exact ⟨h0, h1, h2, h3, h4, h5, h6⟩
end Mine
end
section
open PySem PySem.W PySem.Spec PySem.Calls PyProof.Rows
set_option maxRecDepth 100000
set_option maxHeartbeats 2000000
namespace Mine
theorem l0_Q1 : True := by
  k_with_none
  k_with "q" => (all_goals first | assumption | with_unfolding_all exact rfl)
  k_with "ar" => with_reducible first | assumption | (apply Ar.sz; k_extra "q") | (apply Ar.szp; k_extra "q") | (apply Ar.sn; k_extra "q")
  trivial
section
variable {prog : Program} {w : World} {A : Around} {E : Value → Shared → Prop} {s : Shared} {h₀ : Heap} {L : Addr} {m : Str → Option Value} {news : List (Addr × Obj)} {g : Obj → List (Addr × Obj)}
theorem iadd_lists {l b : Addr} {its its2 : Array Value} {n : Nat} {Q : Value → Shared → Prop} (F : Fr h₀ L s.heap m) (N : News h₀ L s.heap news) (U : UpdF l (listOf its n) news g) (hb : ∃ n2, s.heap.get? b = some (listOf its2 n2))
    (hz : its.size + its2.size ≤ 4000) (h : ∀ h' n', Fr h₀ L h' m → News h₀ L h' (g (listOf (its ++ its2) n')) → Q (.ref l) { s with heap := h' }) :
    wpAny (model prog w) A (inplaceOp .Add (.ref l) (.ref b)) Q E s := by
  (refine ex2E U.split fun pre post qq2 => ?_; refine and4E qq2 fun hnl hg ha hc => ?_; try clear qq2)
  have hm := N (l, listOf its n) (by rw [hnl]; exact List.mem_append_right _ (.head _))
  (refine ex1E hb fun n2 qq1 => ?_; try clear hb; revert qq1; intro hb)
  have ta : s.TypeIs (.ref l) "list" := ⟨_, hm.1, rfl⟩
  have tb : s.TypeIs (.ref b) "list" := ⟨_, hb, rfl⟩
  have hsl := PySem.F.slot_list_iadd.lookup
  have hq : isSeqSlot (some (.builtin "list.__iadd__")) = true := by decide +kernel
  unfold inplaceOp
  refine wpAny_holding ?_
  have hfi : fillsInplaceSlot (.type "list") "add" (Operator.Add == .Add) = pure false := by
    unfold fillsInplaceSlot
    show (typeLookup (.type "list") (dunderI "add") >>= fun fi => pure (fi.isSome && !isSeqSlot fi)) = pure false
    rw [hsl, pure_bind, hq]; rfl
  have hsi : seqSlot? (.type "list") (dunderI "add") = pure (some (.builtin "list.__iadd__")) := PySem.seqSlot_of hsl hq
  refine wpAny_bind (wpAny_typeOf ta (wpAny_bind (wpAny_of_eq hfi ?_)))
  show wpAny _ A (if false = true then _ else _) Q E s
  rw [if_neg Bool.false_ne_true]
  refine wpAny_bind (wpAny_binaryOp1_none (nm := "add") ta tb noFill_list_add ?_)
  refine wpAny_bind (wpAny_of_eq hsi ?_)
  refine wpAny_bind (wpAny_rule ?_)
  have hs0 : ¬(!its.isEmpty && Builtin.List.listTooLong (its.size + its2.size)) = true := by
    have : Builtin.List.listTooLong (its.size + its2.size) = false := by
      unfold Builtin.List.listTooLong
      simp only [decide_eq_false_iff_not]
      first | omega | (have := sizeLine_eq; omega)
    rw [this]; simp
  have hsz := sizeLine_eq
  refine (call_meets PySem.F.slot_list_iadd ta PySem.F.entry_list_iadd (PySem.F.args_list_iadd_2 _ _) (AutoSeq1.list___iadd___list_list_0 l its n b its2 n2 hs0 (by omega) (by omega)) ?_)
  refine ⟨hm.1, hb, ?_⟩

  have hs := Heap.SameBut.update (h := s.heap) (a := l) (f := Obj.mapSeq fun x => x ++ its2)
  obtain ⟨c, e⟩ : ∃ c, Obj.mapSeq (fun x => x ++ its2) (listOf its n) = listOf (its ++ its2) c := ⟨_, rfl⟩
  have ho' : (s.heap.update l (Obj.mapSeq fun x => x ++ its2)).get? l = some (listOf (its ++ its2) c) := by
    rw [Heap.get?_update_self _ hm.1 (by rw [e]; rfl), e]
  exact h _ c (F.change hs hm.2.1 hm.2.2) (hg _ ▸ (show News h₀ L s.heap (pre ++ (l, listOf its n) :: post) from hnl ▸ N).setIn ha hc hs ho')
theorem append_listK {l : Addr} {vs : List Value} {n : Nat} {x : Value} {Q : Value → Shared → Prop} (F : Fr h₀ L s.heap m) (N : News h₀ L s.heap news) (U : UpdF l (listOf vs.toArray n) news g) (hz : vs.length ≤ 4000)
    (h : ∀ h', Fr h₀ L h' m → News h₀ L h' (g (listOf (vs ++ [x]).toArray (n + 1))) → Q .none { s with heap := h' }) : wpAny (model prog w) A (call (.builtin "list.append") [.ref l, x]) Q E s := by
  (refine ex2E U.split fun pre post qq2 => ?_; refine and4E qq2 fun hnl hg ha hc => ?_; try clear qq2)
  have hm := N (l, listOf vs.toArray n) (by rw [hnl]; exact List.mem_append_right _ (.head _))
  refine append_at (hsz := by have := sizeLine_eq; rw [List.size_toArray]; omega) hm.1 fun h' hs ho => ?_
  rw [List.push_toArray] at ho
  exact h _ (F.change hs hm.2.1 hm.2.2) (hg _ ▸ (show News h₀ L s.heap (pre ++ (l, listOf vs.toArray n) :: post) from hnl ▸ N).setIn ha hc hs ho)
theorem add_listsK {l b : Addr} {vs us : List Value} {Q : Value → Shared → Prop} (F : Fr h₀ L s.heap m) (N : News h₀ L s.heap news) (hl : s.heap.IsList l vs.toArray) (hb : s.heap.IsList b us.toArray) (hz : vs.length + us.length ≤ 4000)
    (h : ∀ D h', Fr h₀ L h' m → News h₀ L h' ((D, listOf (vs ++ us).toArray 0) :: news) → (∀ p ∈ news, @LT.lt Nat _ p.1 D) → Q (.ref D) { s with heap := h' }) :
    wpAny (model prog w) A (binaryOp .Add (.ref l) (.ref b)) Q E s :=
  add_arrays (hsz := by have := sizeLine_eq; simp only [List.size_toArray]; omega) F N hl hb fun h' F' N' => h _ h' F' N' fun p hp => Heap.lt_size (N p hp).1
theorem are_carried {vs : List Value} {xs : List Str} (h : Are IsS vs xs) : CarriedAll vs (xs.map PyData.str) := by
  induction h with
  | nil => exact .nil
  | cons a _ ih =>
    (refine ex1E a fun t qq1 => ?_; try clear a; rcases qq1 with rfl)
    exact .cons (.str _ t) ih
theorem canLay_strs : ∀ {xs : List Str}, (∀ x ∈ xs, PyData.strOk x = true) → PyData.canLayAll0 (xs.map PyData.str) = true
  | [], _ => rfl
  | x :: r, h => by simp [PyData.canLayAll0, PyData.canLay0, canLay_strs (xs := r) fun y hy => h y (.tail _ hy), h x (.head _)]
theorem depth_strs : ∀ {xs : List Str}, PyData.depthAll (xs.map PyData.str) = 0
  | [] => rfl
  | _ :: r => by simp [PyData.depthAll, PyData.depth, depth_strs (xs := r)]
theorem shaped_strs {xs : List Str} (h : ∀ x ∈ xs, PyData.strOk x = true) : SeqAt.shaped (.list (xs.map PyData.str)) = true := by
  simp [SeqAt.shaped, PyData.canLay0, PyData.depth, canLay_strs h, depth_strs]
theorem same_strs (xs ys : List Str) : PySem.Spec.sameAll (xs.map PyData.str) (ys.map PyData.str) = decide (xs = ys) := by
  induction xs generalizing ys with
  | nil => cases ys with
    | nil => simp [PySem.Spec.sameAll]
    | cons => simp [PySem.Spec.sameAll]
  | cons a r ih => cases ys with
    | nil => simp [PySem.Spec.sameAll]
    | cons b t =>
      simp only [List.map_cons, PySem.Spec.sameAll, PySem.Spec.same, ih t]
      by_cases h : a = b <;> by_cases h' : r = t <;> simp [h, h']
theorem ne_strs {a b : Addr} {vs us : List Value} {xs ys : List Str} {Q : Value → Shared → Prop} (ha : s.heap.IsList a vs.toArray) (hb : s.heap.IsList b us.toArray) (hi : Are IsS vs xs) (hj : Are IsS us ys) (ox : ∀ x ∈ xs, PyData.strOk x = true) (oy : ∀ x ∈ ys, PyData.strOk x = true)
    (hu : A.units + 64 < cLine) (h : Q (.bool (!decide (xs = ys))) s) : wpAny (model prog w) A (compareOp .NotEq (.ref a) (.ref b)) Q E s :=
  ne_dataH_same (reads_newData ha (are_carried hi)) (reads_newData hb (are_carried hj)) (shaped_strs ox) (shaped_strs oy) hu (SeqAt.noMix_of_shape (.list .str) rfl _ _ (list_map_has fun _ => rfl) (list_map_has fun _ => rfl)) (by
    have : PySem.Spec.same (.list (xs.map PyData.str)) (.list (ys.map PyData.str)) = decide (xs = ys) := by simp only [PySem.Spec.same]; exact same_strs xs ys
    rw [this]; exact h)
theorem eq_strs {a b : Addr} {vs us : List Value} {xs ys : List Str} {Q : Value → Shared → Prop} (ha : s.heap.IsList a vs.toArray) (hb : s.heap.IsList b us.toArray) (hi : Are IsS vs xs) (hj : Are IsS us ys) (ox : ∀ x ∈ xs, PyData.strOk x = true) (oy : ∀ x ∈ ys, PyData.strOk x = true)
    (hu : A.units + 64 < cLine) (h : Q (.bool (decide (xs = ys))) s) : wpAny (model prog w) A (compareOp .Eq (.ref a) (.ref b)) Q E s :=
  eq_dataH_same (reads_newData ha (are_carried hi)) (reads_newData hb (are_carried hj)) (shaped_strs ox) (shaped_strs oy) hu (SeqAt.noMix_of_shape (.list .str) rfl _ _ (list_map_has fun _ => rfl) (list_map_has fun _ => rfl)) (by
    have : PySem.Spec.same (.list (xs.map PyData.str)) (.list (ys.map PyData.str)) = decide (xs = ys) := by simp only [PySem.Spec.same]; exact same_strs xs ys
    rw [this]; exact h)
end
end Mine
end
section
open PySem PySem.W PySem.Spec PySem.Calls PyProof.Rows
set_option maxRecDepth 100000
set_option maxHeartbeats 2000000
namespace Mine
theorem l0_Q2 : True := by
  k_with_none
  k_with "q" => (all_goals first | assumption | with_unfolding_all exact rfl)
  k_with "ar" => with_reducible first | assumption | (apply Ar.sz; k_extra "q")
  trivial
theorem are_of_get {β : Type} {R : β → Value → Prop} {vs : List Value} {bs : List β} (hl : vs.length = bs.length) (h : ∀ (j : Nat) (v : Value), vs[j]? = some v → ∃ b, bs[j]? = some b ∧ R b v) : Are R vs bs := by
  induction vs generalizing bs with
  | nil => cases bs with
    | nil => exact .nil
    | cons _ _ => cases hl
  | cons v vs ih => cases bs with
    | nil => cases hl
    | cons b bs =>
      (refine ex1E (h 0 v rfl) fun b' qq1 => ?_; refine and2E qq1 fun e hr => ?_; try clear qq1)
      cases e
      exact .cons hr (ih (Nat.succ.inj hl) fun j v e => h (j + 1) v e)
section
variable {w : World} {mean : ExcName → Option Value} {mg mb : Str → Option Value} {A A₀ : Around} {E : Value → Shared → Prop} {s : Shared} {h₀ : Heap} {L D : Addr} {m : Str → Option Value} {news : List (Addr × Obj)} {env : Env} {outer : List Env} {ps : Array Value}
theorem list_dictK {oD : Obj} {kvs : List (Str × Value)} {Q : Value → Shared → Prop} (hh : A.handled = none) (F : Fr h₀ L s.heap m) (N : News h₀ L s.heap news) (hm : (D, oD) ∈ news) (hd : oD.IsDictOf (strKind PySem.Challenge.rw_ij0107_01.row.prog w) kvs) (lo : (D == sysModules) = false) (hz : kvs.length ≤ 2000)
    (h : ∀ (D' : Addr) vs c h' tk, Are IsS vs (kvs.map (·.1)) → Fr h₀ L h' m → News h₀ L h' ((D', W.listOf (List.toArray vs) c) :: news) → (∀ p ∈ news, @LT.lt Nat _ p.1 D') → Q (.ref D') { s with heap := h', toks := tk }) :
    wpAny (model PySem.Challenge.rw_ij0107_01.row.prog w) A (call (.type "list") [.ref D]) Q E s := by
  refine ex1E ((Heap.dictOf_iff.mpr ⟨oD, (N _ hm).1, hd⟩ : s.heap.DictOf _ D kvs).dictAt) fun ep hA => ?_
  refine kdl_N (kdl_dict lo) hh F N hA (by have := sizeLine_eq; omega) fun D' c h' tk vs F' N' hlt hl hg => h D' vs c h' tk (are_of_get (by rw [hl, List.length_map]) fun j v e => ?_) F' N' hlt
  (refine ex2E (hg j v e) fun k x qq2 => ?_; refine and2E qq2 fun e1 e2 => ?_; try clear qq2)
  (refine ex1E (Value.isStrOf_shape e2) fun t qq1 => ?_; rcases qq1 with rfl)
  exact ⟨k, by rw [List.getElem?_map, e1]; rfl, t, rfl⟩
theorem diff_callK {Lm Ls : Addr} {xv yv : List Value} {km ks : Nat} {ys : List Str} {Q : Value → Shared → Prop} (front back : List (Addr × Obj)) (G : Gnd w mean mg mb A₀ h₀ outer env L) (hh : A.handled = none) (hdp : A.depth + 8 ≤ recursionLimit) (hun : A.units + 200 ≤ cLine)
    (F : Fr h₀ L s.heap m) (N : News h₀ L s.heap (front ++ (198, tabObj ps) :: back)) (h1 : ∀ q ∈ front, q.1 ≠ 198) (h2 : ∀ q ∈ back, q.1 ≠ 198) (ok : TabOk ps) (hm : s.heap.get? Lm = some (W.listOf xv.toArray km)) (hs : s.heap.get? Ls = some (W.listOf yv.toArray ks)) (hys : Are IsS yv ys) (hyz : yv.length ≤ 900)
    (h : ∀ X dx I B S oI oS n ps' h' tk, Fr h₀ L h' m → News h₀ L h' (ffLed I X dx B S oS (front ++ (198, tabObj ps') :: back) ⟨0, oI⟩) → TabOk ps' → FFo I X dx B S (front ++ (198, tabObj ps') :: back) → LiIs oI Lm 0 → oS.SetObjOf (strKind PySem.Challenge.rw_ij0107_01.row.prog w) (fun k => ys.contains k) n → n ≤ 1000 →
      (∀ p ∈ front ++ (198, tabObj ps') :: back, @Ne Nat p.1 X) → Q (.ref X) { s with heap := h', toks := tk }) :
    wpAny (model PySem.Challenge.rw_ij0107_01.row.prog w) A (call (.ref 172) [.ref Lm, .ref Ls]) Q E s := by
  refine use2 front back (c_diff w Lm Ls xv yv km ks ys hys hyz) F G.X N h1 h2 ok G.T hh ⟨hm, hs⟩ hdp hun ?_
  intro v h' tk' ps' F' N' ok' Gr hv hn
  obtain ⟨X, dx, I, B, S, oI, oS, n, eX, eI, eB, eS, ed, hI, hso, hsn, o1, o2, o3, o4, nS, nB, nd, nX, nI⟩ := hv
  have hin : ∀ p ∈ front ++ (198, tabObj ps') :: back, ∃ o, s.heap.get? p.1 = some o := by
    intro p hp
    rcases List.mem_append.mp hp with hp | hp
    · exact ⟨_, (N p (List.mem_append_left _ hp)).1⟩
    rcases List.mem_cons.mp hp with rfl | hp
    · exact ⟨_, (N (198, tabObj ps) (List.mem_append_right _ (.head _))).1⟩
    · exact ⟨_, (N p (List.mem_append_right _ (.tail _ hp))).1⟩
  refine h X dx I B S oI oS n ps' h' tk' F' ?_ ok' ⟨o1, o2, o3, o4, fun p hp => ?_⟩ hI hso hsn fun p hp => ?_
  · exact news_add (hn _ nI) eI (news_add (hn _ nX) eX (news_add (hn _ nd) ed (news_add (hn _ nB) eB (news_add (hn _ nS) eS N'))))
  · refine ex1E (hin p hp) fun o e => ?_
    exact fun q => new_ne nI e q.symm
  · refine ex1E (hin p hp) fun o e => ?_
    exact fun q => new_ne nX e q.symm
end
end Mine
end
section
open PySem PySem.W PySem.Spec PySem.Calls PyProof.Rows
set_option maxRecDepth 100000
set_option maxHeartbeats 2000000
namespace Mine
theorem l0_Q3 : True := by
  k_with_none
  k_with "q" => (all_goals first | assumption | with_unfolding_all exact rfl)
  k_with "ar" => with_reducible first | assumption | (apply Ar.n32; k_extra "q") | (apply Ar.n31; k_extra "q")
  trivial
structure DMap (L : Addr) (U : Str → List Str) (fs : List Str) (kvs : List (Str × Value)) (objs : List (Addr × Obj)) : Prop where
  keys : kvs.map (·.1) = fs
  vals : ∀ p ∈ kvs, ∃ r vs n, p.2 = .ref r ∧ (r, W.listOf (List.toArray vs) n) ∈ objs ∧ Are IsS vs (U p.1)
  ap : ∀ q ∈ objs, apL L q.1
theorem DMap.nil {L : Addr} {U : Str → List Str} : DMap L U [] [] [] := ⟨rfl, fun _ h => (nomatch h), fun _ h => (nomatch h)⟩
theorem DMap.any {L : Addr} {U : Str → List Str} {fs : List Str} {kvs : List (Str × Value)} {objs : List (Addr × Obj)} (d : DMap L U fs kvs objs) {a : Str} (h : a ∉ fs) : ∀ p ∈ kvs, p.1 ≠ a := fun p hp e => h (d.keys ▸ List.mem_map.mpr ⟨p, hp, e⟩)
theorem DMap.snoc {L : Addr} {U : Str → List Str} {fs : List Str} {kvs : List (Str × Value)} {objs : List (Addr × Obj)} (d : DMap L U fs kvs objs) {a : Str} (h : a ∉ fs) {r : Addr} {vs : List Value} {n : Nat} (hr : apL L r) (hv : Are IsS vs (U a)) :
    DMap L U (fs ++ [a]) (stored kvs a (.ref r)) ((r, W.listOf vs.toArray n) :: objs) := by
  have e : stored kvs a (.ref r) = kvs ++ [(a, .ref r)] := by
    unfold stored
    rw [if_neg]
    intro q
    (refine ex1E (List.any_eq_true.mp q) fun p qq1 => ?_; refine and2E qq1 fun hp e => ?_; try clear qq1)
    exact d.any h p hp (of_decide_eq_true e)
  rw [e]
  refine ⟨by rw [List.map_append, d.keys]; rfl, fun p hp => ?_, fun q hq => ?_⟩
  · rcases List.mem_append.mp hp with hp | hp
    · (refine ex3E (d.vals p hp) fun r' vs' n' qq3 => ?_; refine and3E qq3 fun e1 e2 e3 => ?_; try clear qq3)
      exact ⟨r', vs', n', e1, .tail _ e2, e3⟩
    · rw [List.mem_singleton.mp hp]
      exact ⟨r, vs, n, rfl, .head _, hv⟩
  · rcases List.mem_cons.mp hq with rfl | hq
    · exact hr
    · exact d.ap q hq
theorem DMap.get {L : Addr} {U : Str → List Str} {fs : List Str} {kvs : List (Str × Value)} {objs : List (Addr × Obj)} (d : DMap L U fs kvs objs) {a : Str} (h : a ∈ fs) :
    ∃ r vs n, valueAt kvs a = some (.ref r) ∧ (r, W.listOf (List.toArray vs) n) ∈ objs ∧ Are IsS vs (U a) := by
  rw [← d.keys] at h
  (refine ex1E (List.mem_map.mp h) fun p qq1 => ?_; refine and2E qq1 fun hp e => ?_; try clear qq1)
  cases q : kvs.find? (fun kv => decide (kv.1 = a)) with
  | none =>
    have := List.find?_eq_none.mp q p hp
    simp [e] at this
  | some p' =>
    have h1 : p'.1 = a := of_decide_eq_true (List.find?_some (p := fun kv : Str × Value => decide (kv.1 = a)) q)
    (refine ex3E (d.vals p' (List.mem_of_find?_eq_some q)) fun r vs n qq3 => ?_; refine and3E qq3 fun e1 e2 e3 => ?_; try clear qq3)
    refine ⟨r, vs, n, ?_, e2, h1 ▸ e3⟩
    unfold valueAt
    rw [q, Option.map_some, e1]
theorem DMap.none {L : Addr} {U : Str → List Str} {fs : List Str} {kvs : List (Str × Value)} {objs : List (Addr × Obj)} (d : DMap L U fs kvs objs) {a : Str} (h : a ∉ fs) : valueAt kvs a = none := by
  unfold valueAt
  rw [List.find?_eq_none.mpr fun p hp q => d.any h p hp (of_decide_eq_true q)]
  rfl
theorem off1_mem {D : Addr} : ∀ {l : List (Addr × Obj)}, PyProof.Rows.LCg.Off1 D l → ∀ q ∈ l, @Ne Nat q.1 D
  | [], _, _, h => nomatch h
  | _ :: _, x, q, h => by
    rcases List.mem_cons.mp h with rfl | h
    · exact x.1
    · exact off1_mem x.2 q h
theorem take_notin {fs : List Str} (hn : fs.Nodup) {i : Nat} {a : Str} (h : fs[i]? = some a) : a ∉ fs.take i := by
  intro q
  refine ex1E (List.getElem?_eq_some_iff.mp h) fun hi e => ?_
  rw [List.take_eq_take_min] at q
  (refine ex1E (List.mem_iff_getElem.mp q) fun j qq1 => ?_; refine ex1E qq1 fun hj e2 => ?_; try clear qq1)
  rw [List.length_take] at hj
  rw [List.getElem_take] at e2
  have := (List.getElem_inj hn (h₀ := by omega) (h₁ := hi)).mp (e2.trans e.symm)
  omega
theorem take_next {fs : List Str} {i : Nat} {a : Str} (h : fs[i]? = some a) : fs.take (i + 1) = fs.take i ++ [a] := by
  rw [List.take_add_one, h]; rfl
inductive DInv (L : Addr) (o1 o2 o3 o4 o5 o6 : Obj) (back : List (Addr × Obj)) (T : Str → List Str) (places : List Str) (i : Nat) (kvs : List (Str × Value)) : List (Addr × Obj) → Prop
  | mk (ps : Array Value) (objs : List (Addr × Obj)) (ok : TabOk ps) (hdm : DMap L T (places.take i) kvs objs) : DInv L o1 o2 o3 o4 o5 o6 back T places i kvs (lLed L o1 o2 o3 o4 o5 o6 ps (back ++ objs))
end Mine
end
section
open PySem PySem.W PySem.Spec PySem.Calls PyProof.Rows
set_option maxRecDepth 100000
set_option maxHeartbeats 2000000
namespace Mine
theorem l0_Q4 : True := by
  k_with_none
  trivial
section
variable {prog : Program} {w : World} {A : Around} {E : Value → Shared → Prop} {s : Shared} {h₀ : Heap} {L : Addr} {m : Str → Option Value} {news : List (Addr × Obj)}
theorem applied_to2 {sl : Addr} {u : Tok} {Q : Int × Int × Nat → Shared → Prop} (hs : s.heap.IsSliceOf sl .none (.int 2 u) .none) (h : Q (0, 1, 2) s) :
    wpAny (model prog w) A (Builtin.Slice.sliceApplied (.ref sl) (pure (3 : Int))) Q E s := by
  (refine ex1E (id hs) fun os qq1 => ?_; refine and3E qq1 fun hos hcs hds => ?_; try clear qq1)
  unfold Builtin.Slice.sliceApplied Builtin.Slice.sliceFields
  refine wpAny_bind (wpAny_bind (wpAny_field hos hds (x := .none) rfl (wpAny_bind (wpAny_field hos hds (x := .int 2 u) rfl (wpAny_bind (wpAny_field hos hds (x := .none) rfl (wpAny_pure ?_)))))))
  refine wpAny_bind (slicePart_none ?_)
  show wpAny _ _ (if ((1 : Int) == 0) = true then _ else _) _ _ s
  rw [if_neg (by decide)]
  refine wpAny_bind (slicePart_none (wpAny_bind (slicePart_int (wpAny_bind (wpAny_pure ?_)))))
  have e : Builtin.Slice.sliceAdjust none (some (2 : Int)) 1 3 = (0, 2) := by decide
  show wpAny _ _ (match Builtin.Slice.sliceAdjust none (some (2 : Int)) 1 3 with | (lo, hi) => pure (lo, (1 : Int), Builtin.Slice.slicePlaces lo hi 1)) _ _ s
  rw [e]
  show wpAny _ _ (pure ((0 : Int), (1 : Int), Builtin.Slice.slicePlaces 0 2 1)) _ _ s
  have e2 : Builtin.Slice.slicePlaces 0 2 1 = 2 := by decide
  rw [e2]
  exact wpAny_pure h
theorem getItem_tuple_to2 {t sl : Addr} {a b c : Value} {u : Tok} {Q : Value → Shared → Prop} (ht : IsTup s.heap t #[a, b, c]) (hs : s.heap.IsSliceOf sl .none (.int 2 u) .none)
    (h : Q (.ref s.heap.objs.size) { s with heap := s.heap.push { cls := .type "tuple", data := .seq #[a, b] } }) : wpAny (model prog w) A (getItem (.ref t) (.ref sl)) Q E s := by
  have hdrop : sizeOk (.seq #[a, b]) := by
    show (2 : Nat) ≤ sizeLine
    rw [sizeLine_eq]; decide
  (refine ex1E (id hs) fun os qq1 => ?_; refine and3E qq1 fun hos hcs hds => ?_; try clear qq1)
  have hTs : s.TypeIs (.ref sl) "slice" := ⟨os, hos, hcs⟩
  unfold getItem
  try with_reducible refine wpAny_holding ?_
  first | refine wpAny_bind (wpAny_pure ?_) | skip
  refine wpAny_bind (wpAny_sequenceKey ht.typeIs (by decide) ?_)
  refine wpAny_bind (wpAny_callSpecial?_slot (name := Str.ofString "__getitem__") ht.typeIs slot_tuple_getitem
    (wpAny_call_entry slot_tuple_getitem ht.typeIs entry_tuple_getitem ?_ (args_tuple_getitem _ _)))
  show wpAny _ _ (Builtin.Tuple.tupleItemsOf (.ref t) >>= _) _ _ s
  refine wpAny_bind (tupleItemsOf_ ht ?_)
  refine wpAny_bind (wpAny_typeOf hTs ?_)
  rw [if_pos (by decide)]
  refine wpAny_bind (applied_to2 hs ?_)
  show wpAny _ _ (if ((0 : Int) == 0 && (1 : Int) == 1 && (2 : Nat) == 3) = true then _ else _) _ _ s
  rw [if_neg (by decide)]
  have e : ((List.range 2).filterMap fun (k : Nat) => (#[a, b, c] : Array Value)[((0 : Int) + (k : Int) * 1).toNat]?).toArray = #[a, b] := by rfl
  rw [e]
  first
    | exact wpAny_bind (m := Builtin.Tuple.tupleExact _) (wpAny_newObj_type (wpAny_pure ⟨_, rfl, wpAny_pure h⟩) hdrop)
    | exact wpAny_bind (m := Builtin.Tuple.tupleExact _) (wpAny_newObj_type (wpAny_bind (wpAny_pure (wpAny_pure ⟨_, rfl, wpAny_pure h⟩))) hdrop)
    | exact wpAny_bind (wpAny_bind (m := Builtin.Tuple.tupleExact _) (wpAny_newObj_type (wpAny_pure (wpAny_pure ⟨_, rfl, wpAny_pure h⟩)) hdrop))
    | exact wpAny_bind (wpAny_bind (m := Builtin.Tuple.tupleExact _) (wpAny_newObj_type (wpAny_pure ⟨_, rfl, wpAny_pure h⟩) hdrop))
theorem slice_tuple_to2 {value slice : Expr} {t : Addr} {a b c : Value} {u : Tok} {Q : Value → Shared → Prop} (F : Fr h₀ L s.heap m) (N : News h₀ L s.heap news) (ht : IsTup s.heap t #[a, b, c])
    (h : ∀ D h', Fr h₀ L h' m → News h₀ L h' ((D, { cls := .type "tuple", data := .seq #[a, b] }) :: news) → (∀ p ∈ news, @LT.lt Nat _ p.1 D) → Q (.ref D) { s with heap := h' })
    (hs : subscripted slice false (.ref t) (.ref s.heap.objs.size) = operate [.ref s.heap.objs.size, .ref t] (getItem (.ref t) (.ref s.heap.objs.size)) := by with_unfolding_all rfl)
    (hg : ∀ r, letTemporaryGo value (.ref t) r = pure () := by intro _; with_unfolding_all rfl) :
    wpAny (model prog w) A (subscriptTail value slice (.ref t) (.ref s.heap.objs.size)) Q E { s with heap := s.heap.push { cls := .type "slice", data := .fields #[.none, .int 2 u, .none] } } := by
  have ht' : IsTup (s.heap.push { cls := .type "slice", data := .fields #[.none, .int 2 u, .none] }) t #[a, b, c] := ht.keeps fun _ _ e => Heap.get?_push_of_some _ e
  refine subscriptTail_ops (s := { s with heap := s.heap.push { cls := .type "slice", data := .fields #[.none, .int 2 u, .none] } }) ht'.typeIs slot_tuple_getitem.lookup
    (getItem_tuple_to2 ht' (Heap.IsSliceOf.new ..) ?_) hs hg
  have N1 := News.push (F.push { cls := .type "slice", data := .fields #[.none, .int 2 u, .none] }) (N.grown fun _ _ e => Heap.get?_push_of_some _ e) { cls := .type "tuple", data := .seq #[a, b] }
  exact h _ _ ((F.push _).push _) N1 fun p hp => by
    have := Heap.lt_size (N p hp).1
    rw [Heap.size_push]; exact Nat.lt_succ_of_lt this
end
end Mine
end
section
open PySem PySem.W PySem.Spec PySem.Calls PyProof.Rows PyProof.Rows.LCg PyProof.Rows.LCt
set_option maxRecDepth 100000
set_option maxHeartbeats 2000000
namespace Mine
theorem l0_G4 : True := by
  k_with_none
  k_with "q" => (all_goals first | assumption | with_unfolding_all exact rfl)
  k_with "ar" => with_reducible first | assumption | (apply Ar.le0; k_extra "q") | (apply Ar.n38; k_extra "q") | (apply Ar.szr; k_extra "q") | (apply Ar.dec1; k_extra "q")
  trivial
section
variable {prog : Program} {w : World} {A : Around} {E : Value → Shared → Prop} {s : Shared} {h₀ : Heap} {L : Addr} {m : Str → Option Value} {env : Env} {kx vx : Expr} {x : Str} {px pos : Pos} {iter : Expr} {scope : Scope} {cl : List (Str × Addr)}
inductive DEnd (prog : Program) (w : World) (h₀ : Heap) (L : Addr) (m : Str → Option Value) (gens : Array GenState) (drawn : Drawn) (os : OsState) (ax : Addr) (its : Array Value) (J : List (Str × Value) → List (Addr × Obj) → Prop) (I : Addr) (oI : Obj) (C : Addr) (oC : Obj) (D : Addr) (oD : Obj) (kvs : List (Str × Value)) (kv vv : Value) : Shared → Prop
  | mk (k : Str) (h' : Heap) (tk' : Nat) (news' : List (Addr × Obj)) (hk : (strKind prog w).is k kv = true) (F : Fr h₀ L h' m) (N : News h₀ L h' ((I, oI) :: (C, oC) :: (D, oD) :: news')) (off : Off3 I C D news') (hS : SrcAt h₀ ax its news') (hJ : J (stored kvs k vv) news') :
    DEnd prog w h₀ L m gens drawn os ax its J I oI C oC D oD kvs kv vv ⟨h', gens, drawn, tk', os⟩
inductive DSt (prog : Program) (w : World) (h₀ : Heap) (L : Addr) (m : Str → Option Value) (gens : Array GenState) (drawn : Drawn) (os : OsState) (ax : Addr) (its : Array Value) (Inv : Nat → List (Str × Value) → List (Addr × Obj) → Prop) (I C D : Addr) : Nat → Shared → Prop
  | mk (h' : Heap) (tk i : Nat) (oD : Obj) (kvs : List (Str × Value)) (m' : Str → Option Value) (news' : List (Addr × Obj)) (hi : i ≤ its.size) (st : h'.IsListIter I ax i ∧ h'.IsList ax its) (F : Fr h₀ L h' m) (hn : h'.Ns C m') (N : News h₀ L h' ((D, oD) :: news')) (hdD : oD.IsDictOf (strKind prog w) kvs) (hkl : kvs.length ≤ i)
    (off : Off3 I C D news') (hS : SrcAt h₀ ax its news') (hI : Inv i kvs news') : DSt prog w h₀ L m gens drawn os ax its Inv I C D (its.size + 1 - i) ⟨h', gens, drawn, tk, os⟩
noncomputable def DTurn (prog : Program) (w : World) (A : Around) (h₀ : Heap) (L : Addr) (m : Str → Option Value) (env : Env) (kx vx : Expr) (x : Str) (scope : Scope) (cl : List (Str × Addr)) (s : Shared) (ax : Addr) (its : Array Value) (Inv : Nat → List (Str × Value) → List (Addr × Obj) → Prop) : Prop :=
  ∀ i v I oI C oC D oD m₂ h tk kvs news (E' : Value → Shared → Prop), its[i]? = some v → Inv i kvs news → NsObj oC m₂ → m₂ x = some v → oD.IsDictOf (strKind prog w) kvs → Fr h₀ L h m → News h₀ L h ((I, oI) :: (C, oC) :: (D, oD) :: news) → Off3 I C D news → ((@Ne Nat I C) ∧ (@Ne Nat I D) ∧ (@Ne Nat C D)) →
    wpAny (model prog w) A (eval kx (compEnvC scope cl C env)) (fun kv s₄ => wpAny (model prog w) A (eval vx (compEnvC scope cl C env)) (DEnd prog w h₀ L m s.gens s.drawn s.os ax its (Inv (i + 1)) I oI C oC D oD kvs kv) E' s₄) E' { s with heap := h, toks := tk }
theorem block_dict {s₂ : Shared} {I ax : Addr} {its : Array Value} {news : List (Addr × Obj)} {Inv : Nat → List (Str × Value) → List (Addr × Obj) → Prop} {RR : Value → Addr → Result → Shared → Prop} (hh : A.handled = none)
    (hcell : ∀ y ∈ scope.names, y.2 ≠ .cell) (hkind : scope.kind = .function) (hx : scope.names.lookup x = some .local) (hsz : its.size ≤ 2000) (hIa : ax ≠ I) (hit : s₂.heap.IsListIter I ax 0) (hil : I < s₂.heap.objs.size)
    (F : Fr h₀ L s₂.heap m) (N : News h₀ L s₂.heap news) (hIL : L ≠ I) (hI₀ : h₀.get? I = none) (off : ∀ p ∈ news, p.1 ≠ I) (hS : SrcAt h₀ ax its news) (hI : Inv 0 [] news) (T : DTurn prog w A h₀ L m env kx vx x scope cl s₂ ax its Inv)
    (hRR : ∀ D C oD h tk m' kvs news', Fr h₀ L h m → News h₀ L h ((D, oD) :: news') → oD.IsDictOf (strKind prog w) kvs → Off1 D news' → h.Ns C m' → h₀.get? C = none → h₀.get? D = none → C ≠ L → D ≠ L → C ≠ D → (∀ p ∈ news', p.1 ≠ C) → @LT.lt Nat _ L D → Inv its.size kvs news' → RR (.ref D) C (.ok .next) { s₂ with heap := h, toks := tk }) :
    wpAny (model prog w) A newDict (fun acc s₃ => wpAny (model prog w) A (newFunctionEnv scope env.globals cl [] env.qual none .none (some env)) (fun cenv s₄ =>
      codeAny (model prog w) A (.compStart (.DictComp kx vx [⟨.Name x px, iter, [], 0⟩] scope pos) 0 (.ref I) acc { cenv with scope := relabel scope env }) (RR acc cenv.locals) s₄) E s₃) E s₂ := by
  refine wpAny_newObj_type (wpAny_newFunctionEnv hcell (by intro y hy; simp at hy) (fun h₁ hns₁ hsb₁ => ?_) hkind)
  dsimp only at hns₁ hsb₁ ⊢
  have hnew : (s₂.heap.push { cls := .type "dict", dict := none, data := .dict #[] }).DictOf (strKind prog w) s₂.heap.objs.size [] := Heap.DictOf.new s₂.heap
  generalize hH2 : s₂.heap.push { cls := .type "dict", dict := none, data := .dict #[] } = H2 at hns₁ hsb₁ hnew ⊢
  have hC : H2.objs.size = s₂.heap.objs.size + 1 := by rw [← hH2, Heap.size_push]
  have hDC : s₂.heap.objs.size ≠ H2.objs.size := by rw [hC]; exact Nat.ne_of_lt (Nat.lt_succ_self _)
  have below : ∀ b, b < s₂.heap.objs.size → b ≠ H2.objs.size ∧ b ≠ s₂.heap.objs.size := fun b hb => ⟨by rw [hC]; exact Nat.ne_of_lt (Nat.lt_succ_of_lt hb), Nat.ne_of_lt hb⟩
  have hl0 : s₂.heap.IsList ax its := hS.list F.keep N
  have hal : ax < s₂.heap.objs.size := by (refine ex1E hl0 fun ux qq1 => ?_; try clear hl0; refine and2E qq1 fun e ux => ?_; try clear qq1); exact Heap.lt_size e
  have old : ∀ b o, s₂.heap.get? b = some o → h₁.get? b = some o := fun b o e => hsb₁.extBut b o (below b (Heap.lt_size e)).1 (Heap.get?_push_of_some _ (hH2 ▸ Heap.get?_push_of_some _ e))
  have hacc : h₁.DictOf (strKind prog w) s₂.heap.objs.size [] := hnew.at fun o e => hsb₁.extBut _ _ hDC (Heap.get?_push_of_some _ e)
  have W := Walks.list (prog := prog) (w := w) (A := A) hh I ax hIa its
  have fresh : ∀ a, s₂.heap.objs.size ≤ a → s₂.heap.get? a = none := fun a ha => by
    cases e : s₂.heap.get? a with
    | none => rfl
    | some o' => exact absurd (Heap.lt_size e) (Nat.not_lt.mpr ha)
  have fresh₀ : ∀ a, s₂.heap.objs.size ≤ a → h₀.get? a = none := fun a ha => by
    cases e : h₀.get? a with
    | none => rfl
    | some o' => have := F.keep a o' e; rw [fresh a ha] at this; cases this
  have hD₀ : h₀.get? s₂.heap.objs.size = none := fresh₀ _ (Nat.le_refl _)
  have hC₀ : h₀.get? H2.objs.size = none := fresh₀ _ (by rw [hC]; exact Nat.le_succ _)
  have hLlt : L < s₂.heap.objs.size := F.ns.lt
  have hDL : s₂.heap.objs.size ≠ L := Ne.symm (below L hLlt).2
  have hCL : H2.objs.size ≠ L := Ne.symm (below L hLlt).1
  have hCI : I ≠ H2.objs.size := (below I hil).1
  have hDI : I ≠ s₂.heap.objs.size := (below I hil).2
  have off₀ : Off3 I H2.objs.size s₂.heap.objs.size news := Off3.of fun p hp => ⟨off p hp, (below _ (Heap.lt_size (N p hp).1)).1, (below _ (Heap.lt_size (N p hp).1)).2⟩
  have hst₁ : h₁.IsListIter I ax 0 ∧ h₁.IsList ax its := ⟨hit.at fun o e => old I o e, hl0.at fun o e => old ax o e⟩
  (refine ex1E (Heap.dictOf_iff.mp hacc) fun oD₀ qq1 => ?_; refine and2E qq1 fun hoD₀ hdD₀ => ?_; try clear qq1)
  have loop : ∀ s₃ : Shared, s₃ = { s₂ with heap := h₁, toks := s₂.toks + ([] : List (Str × Value)).length } →
      codeAny (model prog w) A (.compLoop (.DictComp kx vx [⟨.Name x px, iter, [], 0⟩] scope pos) 0 (.ref I) (.ref s₂.heap.objs.size) (compEnvC scope cl H2.objs.size env))
        (RR (.ref s₂.heap.objs.size) H2.objs.size) s₃ := by
    (intro s₃ qr1; rcases qr1 with rfl)
    refine codeAny_compLoop_testsD
      (DSt prog w h₀ L m s₂.gens s₂.drawn s₂.os ax its Inv I H2.objs.size s₂.heap.objs.size) ?_ (its.size + 1)
      (.mk h₁ _ 0 oD₀ [] _ news (Nat.zero_le _) hst₁ (F.keeps old) hns₁ (newsC hoD₀ ⟨hDL, hD₀⟩ (N.grown old)) hdD₀ (Nat.le_refl _) off₀ hS hI)
    · (intro k s' qr2; obtain ⟨h', tk, i, oD, kvs, m', news', hi, hst', F', hn', N', hdD, hkl, off', hS', hI'⟩ := qr2)
      have off3 := off'.mem
      by_cases hlt : i < its.size
      · refine W.item i _ _ _ hlt hst' fun v h₂ tk₂ hPv hst₂ hk₂ => ?_
        refine wpAny_assign_Name (wpAny_storeName_local (lookup_relabel_local hx) (hn'.at' fun o e => hk₂ _ o (by simpa using Ne.symm hCI) e) (fun h₃ hn₃ hs₃ => ?_) (by simp [compEnvC, relabel, hkind]))
        have haC : ax ≠ H2.objs.size := (below ax hal).1
        have hst₃ : h₃.IsListIter I ax (i + 1) ∧ h₃.IsList ax its := ⟨hst₂.1.at fun o e => hs₃.extBut I o hCI e, hst₂.2.at fun o e => hs₃.extBut ax o haC e⟩
        (refine ex1E (id hst₃.1) fun oI qq1 => ?_; refine and2E qq1 fun heI hcI => ?_; try clear qq1)
        (refine ex1E (ns_obj hn₃) fun oC qq1 => ?_; refine and2E qq1 fun heC hoC => ?_; try clear qq1)
        have F₃ : Fr h₀ L h₃ m := (fr_but F' hk₂ hIL hI₀).change hs₃ hCL hC₀
        have N₂ : News h₀ L h₂ ((s₂.heap.objs.size, oD) :: news') := news_but N' hk₂ (allC (Ne.symm hDI) fun p hp => (off3 p hp).1)
        have off4 : ∀ p ∈ (s₂.heap.objs.size, oD) :: news', p.1 ≠ H2.objs.size := allC hDC fun p hp => (off3 p hp).2.1
        have N₃ : News h₀ L h₃ ((I, oI) :: (H2.objs.size, oC) :: (s₂.heap.objs.size, oD) :: news') := newsC heI ⟨Ne.symm hIL, hI₀⟩ (newsC heC ⟨hCL, hC₀⟩ fun p hp => ⟨hs₃.extBut _ _ (off4 p hp) (N₂ p hp).1, (N₂ p hp).2⟩)
        refine wpAny_tests_nil ?_
        rw [if_pos rfl]
        refine wpAny_mono (T i v I oI H2.objs.size oC s₂.heap.objs.size oD _ h₃ _ kvs news' _ hPv hI' hoC (by simp) hdD F₃ N₃ off' ⟨hCI, hDI, Ne.symm hDC⟩) (fun kv s₄ h₄ => wpAny_mono h₄ (fun vv s₅ h₅ => ?_) fun _ _ e => e) fun _ _ e => e
        obtain ⟨kk, h₅, tk₅, news₅, hkk, F₅, N₅, off₅, hS₅, hI₅⟩ := h₅
        have zI := N₅ _ (.head _)
        have zC := N₅ _ (.tail _ (.head _))
        have zD := N₅ _ (.tail _ (.tail _ (.head _)))
        have hDict : h₅.DictOf (strKind prog w) s₂.heap.objs.size kvs := Heap.dictOf_iff.mpr ⟨oD, zD.1, hdD⟩
        refine wpAny_dictSet_pairs (hsz := by have := sizeLine_eq; omega) hkk hDict fun h₆ hl₆ hs₆ => ?_
        (refine ex1E (Heap.dictOf_iff.mp hl₆) fun oD₆ qq1 => ?_; refine and2E qq1 fun ho₆ hd₆ => ?_; try clear qq1)
        have hsl := stored_length_le kvs kk vv
        have off5 := off₅.mem
        have F₆ : Fr h₀ L h₆ m := F₅.change hs₆ hDL hD₀
        have N₆ : News h₀ L h₆ ((s₂.heap.objs.size, oD₆) :: news₅) := newsC ho₆ ⟨hDL, hD₀⟩ fun p hp => have z := N₅ p (.tail _ (.tail _ (.tail _ hp))); ⟨hs₆.extBut _ _ (off5 p hp).2.2 z.1, z.2⟩
        have hI6 : h₆.IsListIter I ax (i + 1) := ⟨oI, hs₆.extBut _ _ hDI zI.1, hcI⟩
        exact ⟨its.size + 1 - (i + 1), by omega, .mk h₆ _ (i + 1) oD₆ (stored kvs kk vv) _ news₅ hlt ⟨hI6, hS₅.list F₆.keep fun p hp => N₆ p (.tail _ hp)⟩ F₆ ((hoC.ns zC.1).sameBut hs₆ (Ne.symm hDC)) N₆ hd₆ (by omega) off₅ hS₅ hI₅⟩
      · have ei : i = its.size := Nat.le_antisymm hi (Nat.not_lt.mp hlt)
        rw [ei] at hst' hI'
        refine W.done _ _ _ hst' fun h₂ tk₂ hk₂ => ?_
        exact hRR _ _ oD h₂ tk₂ _ kvs news' (fr_but F' hk₂ hIL hI₀) (news_but N' hk₂ (allC (Ne.symm hDI) fun p hp => (off3 p hp).1)) hdD off'.one (hn'.at' fun o e => hk₂ _ o (by simpa using Ne.symm hCI) e) hC₀ hD₀ hCL hDL (Ne.symm hDC) (fun p hp => (off3 p hp).2.1) hLlt hI'
  exact codeAny_compStart_dict (loop _ rfl) (W.self 0 _ _ _ hst₁ (loop _ rfl))
inductive DSrc (prog : Program) (w : World) (A : Around) (h₀ : Heap) (L : Addr) (m : Str → Option Value) (env : Env) (kx vx : Expr) (x : Str) (scope : Scope) (cl : List (Str × Addr)) (Q : Value → Shared → Prop) : Value → Shared → Prop
  | mk {s₁ : Shared} (ax : Addr) (its : Array Value) (news : List (Addr × Obj)) (Inv : Nat → List (Str × Value) → List (Addr × Obj) → Prop) (hsz : its.size ≤ 2000) (F : Fr h₀ L s₁.heap m) (N : News h₀ L s₁.heap news) (S : SrcAt h₀ ax its news) (hI : Inv 0 [] news)
    (R : ∀ s₂ : Shared, (∃ h, s₂ = { s₁ with heap := h }) → DTurn prog w A h₀ L m env kx vx x scope cl s₂ ax its Inv ∧
        (∀ D oD h tk kvs news', Inv its.size kvs news' → oD.IsDictOf (strKind prog w) kvs → Fr h₀ L h m → News h₀ L h ((D, oD) :: news') → Off1 D news' → @LT.lt Nat _ L D → Q (.ref D) { s₂ with heap := h, toks := tk })) : DSrc prog w A h₀ L m env kx vx x scope cl Q (.ref ax) s₁
theorem DictComp_K {Q : Value → Shared → Prop} (hh : A.handled = none)
    (hclos : closureFor scope env = pure cl) (hcell : ∀ z ∈ scope.names, z.2 ≠ .cell) (hkind : scope.kind = .function)
    (hnames : ∀ z ∈ scope.names, z.2 = .local → scope.names.lookup z.1 = some .local) (hx : scope.names.lookup x = some .local)
    (h : wpAny (model prog w) A (eval iter env) (DSrc prog w A h₀ L m env kx vx x scope cl Q) E s)
    (hs : ∀ x, foldedSetIterable iter env x = pure x := by intro _; rfl) :
    wpAny (model prog w) A (eval (.DictComp kx vx [⟨.Name x px, iter, [], 0⟩] scope pos) env) Q E s := by
  rw [arm_eval_DictComp]
  refine wpAny_comprehension_free (use := none) rfl hs hclos hkind hnames (wpAny_mono h (fun xv s₁ h₁ => ?_) fun _ _ e => e)
  obtain ⟨ax, its, news, Inv, hsz, F, N, S, hI, R⟩ := h₁
  have hl := S.list F.keep N
  have hlt : ax < s₁.heap.objs.size := by (refine ex1E hl fun ux qq1 => ?_; try clear hl; refine and2E qq1 fun e ux => ?_; try clear qq1); exact Heap.lt_size e
  refine wpAny_pyIter_list hl ?_
  have up : ∀ b o, s₁.heap.get? b = some o → (s₁.heap.push { cls := .type "list_iterator", data := .fields #[.ref ax, .int 0 0] }).get? b = some o := fun b o e => Heap.get?_push_of_some _ e
  obtain ⟨T, fin⟩ := R _ ⟨_, rfl⟩
  refine block_dict (Inv := Inv) hh hcell hkind hx hsz (Nat.ne_of_lt hlt) ⟨_, Heap.get?_push_size _ rfl, rfl, rfl⟩ (by rw [Heap.size_push]; exact Nat.lt_succ_self _) (F.keeps up) (N.grown up) (Nat.ne_of_lt F.ns.lt) (next_is_new F) (fun p hp => Nat.ne_of_lt (Heap.lt_size (N p hp).1)) S hI T ?_
  intro D C oD h' tk m' kvs news' F' N' hdD o1 hn hC₀ hD₀ hCL hDL hCD offC hLD hI'
  have offD : ∀ p ∈ (D, oD) :: news', p.1 ≠ C := allC (Ne.symm hCD) offC
  exact ⟨m', hn, fun h'' hs'' => fin D oD h'' tk kvs news' hI' hdD (F'.change hs'' hCL hC₀) (fun p hp => ⟨hs''.extBut _ _ (offD p hp) (N' p hp).1, (N' p hp).2⟩) o1 hLD⟩
end
end Mine
end
section
open PySem PySem.W PySem.Spec PySem.Calls PyProof.Rows PyProof.Rows.LCg PyProof.Rows.LCt
set_option maxRecDepth 100000
set_option maxHeartbeats 2000000
namespace Mine
theorem l0_G5 : True := by
  k_with_none
  k_with "q" => (all_goals first | assumption | with_unfolding_all exact rfl)
  k_with "ar" => with_reducible first | assumption | (apply Ar.le0; k_extra "q") | (apply Ar.dec1; k_extra "q") | (apply Ar.nel; k_extra "q") | (apply Ar.nl1; k_extra "q") | (apply Ar.nl2; k_extra "q")
  trivial
section
variable {prog : Program} {w : World} {A : Around} {E : Value → Shared → Prop} {s : Shared} {h₀ : Heap} {L : Addr} {m : Str → Option Value} {env : Env} {ct elt : Expr} {x : Str} {px pos : Pos} {iter : Expr} {scope : Scope} {cl : List (Str × Addr)}
inductive OwnEnd (h₀ : Heap) (L : Addr) (m : Str → Option Value) (gens : Array GenState) (drawn : Drawn) (os : OsState) (led : List (Addr × Obj)) : Bool → Shared → Prop
  | mk (h' : Heap) (tk' : Nat) (F : Fr h₀ L h' m) (N : News h₀ L h' led) : OwnEnd h₀ L m gens drawn os led false ⟨h', gens, drawn, tk', os⟩
noncomputable def cellOk (o : Obj) (v : Value) : Prop := o.data = .cell (some v)
noncomputable def OwnTurn (prog : Program) (w : World) (A : Around) (h₀ : Heap) (L : Addr) (m : Str → Option Value) (env : Env) (ct : Expr) (x : Str) (scope : Scope) (cl : List (Str × Addr)) (s : Shared) (its : Array Value) (news : List (Addr × Obj)) : Prop :=
  ∀ (i : Nat) (v : Value) I oI C oC K oK D h tk (E' : Value → Shared → Prop), its[i]? = some v → cellOk oK v → Fr h₀ L h m → News h₀ L h ((I, oI) :: (C, oC) :: (K, oK) :: (D, lst []) :: news) → (∀ p ∈ news, @Ne Nat p.1 I ∧ @Ne Nat p.1 C ∧ @Ne Nat p.1 K ∧ @Ne Nat p.1 D) →
    (@Ne Nat I C ∧ @Ne Nat I K ∧ @Ne Nat I D ∧ @Ne Nat C K ∧ @Ne Nat C D ∧ @Ne Nat K D) →
    wpAny (model prog w) A (isTrue ct (compEnvC scope ((x, K) :: cl) C env) (eval ct (compEnvC scope ((x, K) :: cl) C env))) (OwnEnd h₀ L m s.gens s.drawn s.os ((I, oI) :: (C, oC) :: (K, oK) :: (D, lst []) :: news)) E' { s with heap := h, toks := tk }
inductive OwnSt (h₀ : Heap) (L : Addr) (m : Str → Option Value) (gens : Array GenState) (drawn : Drawn) (os : OsState) (ax : Addr) (its : Array Value) (I : Addr) (led : Obj → List (Addr × Obj)) : Nat → Shared → Prop
  | mk (h' : Heap) (tk i : Nat) (oK : Obj) (vK : Option Value) (hi : i ≤ its.size) (st : h'.IsListIter I ax i ∧ h'.IsList ax its) (F : Fr h₀ L h' m) (hK : oK.data = .cell vK) (N : News h₀ L h' (led oK)) : OwnSt h₀ L m gens drawn os ax its I led (its.size + 1 - i) ⟨h', gens, drawn, tk, os⟩
theorem block_own {s₂ : Shared} {I ax : Addr} {its : Array Value} {news : List (Addr × Obj)} {RR : Value → Addr → Result → Shared → Prop} (hh : A.handled = none)
    (hlay : ∀ n, cellsFrom n scope.names cl = (x, n) :: cl) (hpush : ∀ h : Heap, pushCells h scope.names = h.push { cls := .type "cell", data := .cell none }) (hkind : scope.kind = .function) (hxk : (relabel scope env).names.lookup x = some .cell)
    (hIa : ax ≠ I) (hit : s₂.heap.IsListIter I ax 0) (hil : I < s₂.heap.objs.size)
    (F : Fr h₀ L s₂.heap m) (N : News h₀ L s₂.heap news) (hIL : L ≠ I) (hI₀ : h₀.get? I = none) (off : ∀ p ∈ news, p.1 ≠ I) (hS : SrcAt h₀ ax its news) (T : OwnTurn prog w A h₀ L m env ct x scope cl s₂ its news)
    (hRR : ∀ D C h tk m', Fr h₀ L h m → News h₀ L h ((D, lst []) :: news) → (∀ p ∈ news, @Ne Nat p.1 D) → h.Ns C m' → h₀.get? C = none → h₀.get? D = none → C ≠ L → D ≠ L → C ≠ D → (∀ p ∈ news, p.1 ≠ C) → RR (.ref D) C (.ok .next) { s₂ with heap := h, toks := tk }) :
    wpAny (model prog w) A (newList []) (fun acc s₃ => wpAny (model prog w) A (newFunctionEnv scope env.globals cl [] env.qual none .none (some env)) (fun cenv s₄ =>
      codeAny (model prog w) A (.compStart (.ListComp elt [⟨.Name x px, iter, [ct], 0⟩] scope pos) 0 (.ref I) acc { cenv with scope := relabel scope env }) (RR acc cenv.locals) s₄) E s₃) E s₂ := by
  refine wpAny_newObj_type ?_
  simp only [newFunctionEnv, Option.isSome_some, if_true]
  refine wpAny_bind (wpAny_alloc ?_)
  refine wpAny_bind (wpAny_layCells _ (fun name kind cells => by cases hkc : kind == NameKind.cell <;> simp [hkc]) _ _ _ _ ?_)
  rw [hlay, hpush]
  refine wpAny_bind (wpAny_pure ?_)
  refine wpAny_pure ?_
  dsimp only
  generalize hD : s₂.heap.objs.size = D
  generalize hH1 : s₂.heap.push { cls := .type "list", dict := none, data := .seq ([] : List Value).toArray } = H1
  have z1 : H1.objs.size = D + 1 := by rw [← hH1, Heap.size_push, hD]
  generalize hH2 : H1.push { cls := .type "dict", data := .dict #[] } = H2
  have z2 : H2.objs.size = D + 1 + 1 := by rw [← hH2, Heap.size_push, z1]
  generalize hH3 : H2.push { cls := .type "cell", data := .cell none } = H3
  rw [z1, z2]
  have up1 : ∀ b o, s₂.heap.get? b = some o → H1.get? b = some o := fun b o e => hH1 ▸ Heap.get?_push_of_some _ e
  have up2 : ∀ b o, H1.get? b = some o → H2.get? b = some o := fun b o e => hH2 ▸ Heap.get?_push_of_some _ e
  have up3 : ∀ b o, H2.get? b = some o → H3.get? b = some o := fun b o e => hH3 ▸ Heap.get?_push_of_some _ e
  have up : ∀ b o, s₂.heap.get? b = some o → H3.get? b = some o := fun b o e => up3 b o (up2 b o (up1 b o e))
  have eD : H3.get? D = some (lst []) := up3 _ _ (up2 _ _ (by rw [← hH1, ← hD]; exact Heap.get?_push_size _ rfl))
  have nC : H3.Ns (D + 1) fun _ => none := by
    have := Heap.Ns.new H1 (.type "dict")
    rw [hH2, z1] at this
    exact this.keeps up3
  have eK : H3.get? (D + 1 + 1) = some { cls := .type "cell", data := .cell none } := by rw [← hH3, ← z2]; exact Heap.get?_push_size _ rfl
  have hl0 : s₂.heap.IsList ax its := hS.list F.keep N
  have hal : ax < D := by rw [← hD]; (refine ex1E hl0 fun ux qq1 => ?_; try clear hl0; refine and2E qq1 fun e ux => ?_; try clear qq1); exact Heap.lt_size e
  have W := Walks.list (prog := prog) (w := w) (A := A) hh I ax hIa its
  have fresh₀ : ∀ a, D ≤ a → h₀.get? a = none := fun a ha => by
    cases e : h₀.get? a with
    | none => rfl
    | some o' => exact absurd (Heap.lt_size (F.keep a o' e)) (by rw [hD]; exact Nat.not_lt.mpr ha)
  have hD₀ : h₀.get? D = none := fresh₀ _ (Nat.le_refl _)
  have hC₀ : h₀.get? (D + 1) = none := fresh₀ _ (Nat.le_succ _)
  have hK₀ : h₀.get? (D + 1 + 1) = none := fresh₀ _ (Nat.le_succ_of_le (Nat.le_succ _))
  have hLlt : @LT.lt Nat _ L D := by rw [← hD]; exact F.ns.lt
  have hIlt : @LT.lt Nat _ I D := by rw [← hD]; exact hil
  have hnl : ∀ p ∈ news, @LT.lt Nat _ p.1 D := fun p hp => by rw [← hD]; exact Heap.lt_size (N p hp).1
  (refine ex1E (ns_obj nC) fun oC qq1 => ?_; refine and2E qq1 fun heC hoC => ?_; try clear qq1)
  have ne : @Ne Nat I (D + 1) ∧ @Ne Nat I (D + 1 + 1) ∧ @Ne Nat I D ∧ @Ne Nat (D + 1) (D + 1 + 1) ∧ @Ne Nat (D + 1) D ∧ @Ne Nat (D + 1 + 1) D := ⟨by omega, by omega, by omega, by omega, by omega, by omega⟩
  have offs : ∀ p ∈ news, @Ne Nat p.1 I ∧ @Ne Nat p.1 (D + 1) ∧ @Ne Nat p.1 (D + 1 + 1) ∧ @Ne Nat p.1 D := fun p hp => by
    have := hnl p hp
    exact ⟨off p hp, by omega, by omega, by omega⟩
  have hit1 : H3.IsListIter I ax 0 ∧ H3.IsList ax its := ⟨hit.at fun o e => up I o e, hl0.at fun o e => up ax o e⟩
  have axne : ax ≠ D + 1 + 1 := Nat.ne_of_lt (Nat.lt_succ_of_lt (Nat.lt_succ_of_lt hal))
  have loop : ∀ s₃ : Shared, s₃ = { s₂ with heap := H3 } →
      codeAny (model prog w) A (.compLoop (.ListComp elt [⟨.Name x px, iter, [ct], 0⟩] scope pos) 0 (.ref I) (.ref D) (compEnvC scope ((x, D + 1 + 1) :: cl) (D + 1) env)) (RR (.ref D) (D + 1)) s₃ := by
    (intro s₃ qr1; rcases qr1 with rfl)
    refine codeAny_compLoop_tests
      (OwnSt h₀ L m s₂.gens s₂.drawn s₂.os ax its I fun oK => (D + 1, oC) :: (D + 1 + 1, oK) :: (D, lst []) :: news) ?_ (its.size + 1)
      (.mk H3 s₂.toks 0 { cls := .type "cell", data := .cell none } none (Nat.zero_le _) hit1 (F.keeps up) rfl (newsC heC ⟨by show @Ne Nat (D + 1) L; omega, hC₀⟩ (newsC eK ⟨by show @Ne Nat (D + 1 + 1) L; omega, hK₀⟩ (newsC eD ⟨Nat.ne_of_gt hLlt, hD₀⟩ (N.grown up)))))
    · (intro k s' qr2; obtain ⟨h', tk, i, oK, vK, hi, hst', F', hK, N'⟩ := qr2)
      by_cases hlt : i < its.size
      · refine W.item i _ _ _ hlt hst' fun v h₂ tk₂ hPv hst₂ hk₂ => ?_
        have F₂ : Fr h₀ L h₂ m := fr_but F' hk₂ hIL hI₀
        have N₂ : News h₀ L h₂ ((D + 1, oC) :: (D + 1 + 1, oK) :: (D, lst []) :: news) := news_but N' hk₂ (allC (Ne.symm ne.1) (allC (Ne.symm ne.2.1) (allC (Ne.symm ne.2.2.1) fun p hp => (offs p hp).1)))
        have zK := N₂ _ (.tail _ (.head _))
        refine wpAny_assign_Name (wpAny_storeName_cell (c := D + 1 + 1) hkind hxk (by simp [compEnvC]) ⟨oK, zK.1, hK⟩ fun h₃ hv hs₃ => ?_)
        (refine ex1E hv fun oK' qq1 => ?_; try clear hv; refine and2E qq1 fun hoK' hdK' => ?_; try clear qq1)
        refine wpAny_tests_one ?_
        have hst₃ : h₃.IsListIter I ax (i + 1) ∧ h₃.IsList ax its := ⟨hst₂.1.at fun o e => hs₃.extBut I o ne.2.1 e, hst₂.2.at fun o e => hs₃.extBut ax o axne e⟩
        (refine ex1E (id hst₃.1) fun oI qq1 => ?_; refine and2E qq1 fun heI hcI => ?_; try clear qq1)
        have F₃ : Fr h₀ L h₃ m := F₂.change hs₃ zK.2.1 hK₀
        have off4 : ∀ p ∈ (D, lst []) :: news, @Ne Nat p.1 (D + 1 + 1) := allC (Ne.symm ne.2.2.2.2.2) fun p hp => (offs p hp).2.2.1
        have zC := N₂ _ (.head _)
        have N₃ : News h₀ L h₃ ((I, oI) :: (D + 1, oC) :: (D + 1 + 1, oK') :: (D, lst []) :: news) := newsC heI ⟨Ne.symm hIL, hI₀⟩ (newsC (hs₃.extBut _ _ ne.2.2.2.1 zC.1) zC.2 (newsC hoK' zK.2 fun p hp => have z := N₂ p (.tail _ (.tail _ hp)); ⟨hs₃.extBut _ _ (off4 p hp) z.1, z.2⟩))
        refine wpAny_mono (T i v I oI (D + 1) oC (D + 1 + 1) oK' D h₃ _ _ hPv hdK' F₃ N₃ offs ne) (fun ok s₄ h₄ => ?_) fun _ _ e => e
        obtain ⟨h₅, tk₅, F₅, N₅⟩ := h₄
        rw [if_neg Bool.false_ne_true]
        exact ⟨its.size + 1 - (i + 1), by omega, .mk h₅ tk₅ (i + 1) oK' _ hlt ⟨⟨oI, (N₅ _ (.head _)).1, hcI⟩, hS.list F₅.keep fun p hp => N₅ p (.tail _ (.tail _ (.tail _ (.tail _ hp))))⟩ F₅ hdK' fun p hp => N₅ p (.tail _ hp)⟩
      · have ei : i = its.size := Nat.le_antisymm hi (Nat.not_lt.mp hlt)
        rw [ei] at hst'
        refine W.done _ _ _ hst' fun h₂ tk₂ hk₂ => ?_
        have F₂ : Fr h₀ L h₂ m := fr_but F' hk₂ hIL hI₀
        have N₂ : News h₀ L h₂ ((D + 1, oC) :: (D + 1 + 1, oK) :: (D, lst []) :: news) := news_but N' hk₂ (allC (Ne.symm ne.1) (allC (Ne.symm ne.2.1) (allC (Ne.symm ne.2.2.1) fun p hp => (offs p hp).1)))
        have zC := N₂ _ (.head _)
        exact hRR D (D + 1) h₂ tk₂ _ F₂ (fun p hp => N₂ p (.tail _ (.tail _ hp))) (fun p hp => (offs p hp).2.2.2) (hoC.ns zC.1) hC₀ hD₀ zC.2.1 (Nat.ne_of_gt hLlt) ne.2.2.2.2.1 fun p hp => (offs p hp).2.1
  exact codeAny_compStart_list (loop _ rfl) (W.self 0 _ _ _ hit1 (loop _ rfl))
theorem ListComp_own {Q : Value → Shared → Prop} (hh : A.handled = none) (hclos : closureFor scope env = pure cl) (hkind : scope.kind = .function)
    (hlay : ∀ n, cellsFrom n scope.names cl = (x, n) :: cl) (hpush : ∀ h : Heap, pushCells h scope.names = h.push { cls := .type "cell", data := .cell none }) (hxk : (relabel scope env).names.lookup x = some .cell)
    (hnames : ∀ z ∈ scope.names, z.2 = .local → scope.names.lookup z.1 = some .local)
    (h : wpAny (model prog w) A (eval iter env) (fun xv s₁ => ∃ ax its news, xv = .ref ax ∧ Fr h₀ L s₁.heap m ∧ News h₀ L s₁.heap news ∧ SrcAt h₀ ax its news ∧
      ∀ s₂ : Shared, (∃ h, s₂ = { s₁ with heap := h }) → OwnTurn prog w A h₀ L m env ct x scope cl s₂ its news ∧
        (∀ D h tk, Fr h₀ L h m → News h₀ L h ((D, lst []) :: news) → (∀ p ∈ news, @Ne Nat p.1 D) → Q (.ref D) { s₂ with heap := h, toks := tk })) E s)
    (hs : ∀ x, foldedSetIterable iter env x = pure x := by intro _; rfl) :
    wpAny (model prog w) A (eval (.ListComp elt [⟨.Name x px, iter, [ct], 0⟩] scope pos) env) Q E s := by
  rw [eval_ListComp]
  refine wpAny_comprehension_free (use := none) rfl hs hclos hkind hnames (wpAny_mono h (fun xv s₁ h₁ => ?_) fun _ _ e => e)
  (refine ex3E h₁ fun ax its news qq3 => ?_; try clear h₁; refine and5E qq3 fun qq30 F N S R => ?_; try clear qq3; rcases qq30 with rfl)
  have hl := S.list F.keep N
  have hlt : ax < s₁.heap.objs.size := by (refine ex1E hl fun ux qq1 => ?_; try clear hl; refine and2E qq1 fun e ux => ?_; try clear qq1); exact Heap.lt_size e
  refine wpAny_pyIter_list hl ?_
  have up : ∀ b o, s₁.heap.get? b = some o → (s₁.heap.push { cls := .type "list_iterator", data := .fields #[.ref ax, .int 0 0] }).get? b = some o := fun b o e => Heap.get?_push_of_some _ e
  obtain ⟨T, fin⟩ := R _ ⟨_, rfl⟩
  refine block_own hh hlay hpush hkind hxk (Nat.ne_of_lt hlt) ⟨_, Heap.get?_push_size _ rfl, rfl, rfl⟩ (by rw [Heap.size_push]; exact Nat.lt_succ_self _) (F.keeps up) (N.grown up) (Nat.ne_of_lt F.ns.lt) (next_is_new F) (fun p hp => Nat.ne_of_lt (Heap.lt_size (N p hp).1)) S T ?_
  intro D C h' tk m' F' N' hof hn hC₀ hD₀ hCL hDL hCD offC
  have offD : ∀ p ∈ (D, lst []) :: news, p.1 ≠ C := allC (Ne.symm hCD) offC
  exact ⟨m', hn, fun h'' hs'' => fin D h'' tk (F'.change hs'' hCL hC₀) (fun p hp => ⟨hs''.extBut _ _ (offD p hp) (N' p hp).1, (N' p hp).2⟩) hof⟩
end
end Mine
end
section
open PySem PySem.W PySem.Spec PySem.Calls PyProof.Rows
set_option maxRecDepth 100000
set_option maxHeartbeats 2000000
namespace Mine
theorem lines_S01_0 : True := by
  k_with_none
  k_with "q" => (all_goals first | assumption | with_unfolding_all exact rfl)
  k_with "ar" => with_reducible first | assumption | (apply Ar.sn; k_extra "q") | (apply Ar.pm1; k_extra "q") | (apply Ar.pm2; k_extra "q") | (apply Ar.pm3; k_extra "q") | (apply Ar.pm4; k_extra "q") | (apply Ar.pm5; k_extra "q") | (apply Ar.pm6; k_extra "q") | (apply Ar.pm7e; k_extra "q")
  k_with "inplaceOp Add ref ref" => (
      k_here
      k_dflt (refine iadd_lists (by k_asm) (by k_asm) (by k_updF) ⟨_, News.get (h₀ := h₀) (L := L) (by k_asm) (by k_mem)⟩ (by (simp only [List.size_toArray] at *; first | omega | (simp; omega))) ?_)
      intro h9 n9 F9 N9
      (try dsimp only at N9))
  k_with "mine sub" => first
      | exact List.forall_mem_nil _
      | (refine' allC ?s1 ?s2; (case s1 => k_mem); (case s2 => walk_at "mine sub"))
      | (intro p hp; repeat (first | exact hp | apply List.Mem.tail))
  trivial
theorem l_st0 (w : World) {mean : ExcName → Option Value} {mg mb : Str → Option Value} {A₀ : Around} {Q : Flow → Shared → Prop} {E : Value → Shared → Prop} {s : Shared} {h₀ : Heap} {L f sc : Addr} {cd : Value} {gd : Option (List Code)} {dp un : Nat} {outer : List Env} {m : Str → Option Value} {o1 o2 o3 o4 o5 o6 : Obj} {ps : Array Value} {vs : List Value} {ns : List Int}
    (G : Gnd w mean mg mb A₀ h₀ outer (lawEnv L f cd) L) (h198 : @LT.lt Nat _ 198 L) (hdp : dp + 60 ≤ recursionLimit) (hun : un + 1000 ≤ cLine)
    (hls : h₀.IsList sc vs.toArray) (hin : IntsAre vs ns) (hlen : ns.length ≤ 63) (hm : m (Str.ofString "script") = some (.ref sc))
    (F : Fr h₀ L s.heap m) (N : News h₀ L s.heap (lLed L o1 o2 o3 o4 o5 o6 ps []))
    (k : ∀ D ys h' tk m', apL L D → m' (Str.ofString "numbers") = some (.ref D) → IntsAre ys ((ns.take 2).map fun k => k.fmod (10 ^ 9)) → Fr h₀ L h' m' → News h₀ L h' (lLed L o1 o2 o3 o4 o5 o6 ps [(D, LCg.lst ys)]) → Q .next { s with heap := h', toks := tk }) :
    wpAny (model PySem.Challenge.rw_ij0107_01.row.prog w) (lA dp un (lawEnv L f cd) outer gd) (exec (lawSt 0) (lawEnv L f cd)) Q E s := by
  obtain ⟨X, T, B, hf, hke⟩ := id G
  rw [fn_if hm] at F
  revert X T
  k_fill
  intro X T
  dsimp only [lawSt, lawBody, lawPack, lawEnv, lawScope, List.getD, List.getElem?_cons_zero, List.getElem?_cons_succ, Option.getD_some]
  dsimp only [lLed] at N
  k_steps
  rename IntsAre ys _ => hI9
  rename News _ _ _ _ => N9
  rename Fr _ _ _ _ => F9
  refine k _ ys _ _ _ ?ap (by rfl) hI9 F9 (News.sub N9 (by walk_at "mine sub"))
  refine ⟨?_, ?_, ?_, ?_, ?_, ?_, ?_⟩ <;> k_ne
end Mine
end
section
open PySem PySem.W PySem.Spec PySem.Calls PyProof.Rows
set_option maxRecDepth 100000
set_option maxHeartbeats 2000000
namespace Mine
theorem lines_S02_0 : True := by
  k_with_none
  k_with "q" => (all_goals first | assumption | with_unfolding_all exact rfl)
  k_with "ar" => with_reducible first | assumption | (apply Ar.le0; k_extra "q") | (apply Ar.sn1; k_extra "q") | (apply Ar.n34; k_extra "q") | (apply Ar.i33; k_extra "q") | (apply Ar.n50; k_extra "q") | (apply Ar.nl1; k_extra "q") | (apply Ar.pm0; k_extra "q") | (apply Ar.pg0; k_extra "q") | (apply Ar.pn1; k_extra "q") | (apply Ar.pm1; k_extra "q") | (apply Ar.pg1; k_extra "q") | (apply Ar.pm2; k_extra "q") | (apply Ar.pg2; k_extra "q") | (apply Ar.pm3; k_extra "q") | (apply Ar.pg3; k_extra "q") | (apply Ar.pm4; k_extra "q") | (apply Ar.pg4; k_extra "q") | (apply Ar.pm5; k_extra "q") | (apply Ar.pg5; k_extra "q") | (apply Ar.pg6; k_extra "q") | (apply Ar.pm6e; k_extra "q") | (apply Ar.pg7e; k_extra "q")
  k_with "mine sub" => first
      | exact List.forall_mem_nil _
      | (refine' allC ?s1 ?s2; (case s1 => k_mem); (case s2 => walk_at "mine sub"))
      | (intro p hp; repeat (first | exact hp | apply List.Mem.tail))
  k_with "mine st" => (
      dsimp only [lawSt, lawBody, lawPack, lawEnv, lawScope, List.getD, List.getElem?_cons_zero, List.getElem?_cons_succ, Option.getD_some])
  k_with "inplaceOp Add ref ref" => (
      k_here
      k_dflt (refine iadd_lists (by k_asm) (by k_asm) (by k_updF) ⟨_, News.get (h₀ := h₀) (L := L) (by k_asm) (by k_mem)⟩ (by (show ys.length + 1 ≤ 4000; omega)) ?_)
      intro h9 n9 F9 N9
      (try dsimp only at N9))
  trivial
theorem l_st1 (w : World) {mean : ExcName → Option Value} {mg mb : Str → Option Value} {A₀ : Around} {Q : Flow → Shared → Prop} {E : Value → Shared → Prop} {s : Shared} {h₀ : Heap} {L f D : Addr} {cd : Value} {gd : Option (List Code)} {dp un : Nat} {outer : List Env} {m : Str → Option Value} {o1 o2 o3 o4 o5 o6 : Obj} {ps : Array Value} {ys : List Value} {ns : List Int}
    (G : Gnd w mean mg mb A₀ h₀ outer (lawEnv L f cd) L) (h198 : @LT.lt Nat _ 198 L) (hdp : dp + 60 ≤ recursionLimit) (hun : un + 1000 ≤ cLine) (hap : apL L D)
    (hin : IntsAre ys ((ns.take 2).map fun k => k.fmod (10 ^ 9))) (hm : m (Str.ofString "numbers") = some (.ref D))
    (F : Fr h₀ L s.heap m) (N : News h₀ L s.heap (lLed L o1 o2 o3 o4 o5 o6 ps [(D, LCg.lst ys)]))
    (k : ∀ ys' kn h' tk m', m' (Str.ofString "numbers") = some (.ref D) → IntsAre ys' (numsOf ns) → Fr h₀ L h' m' → News h₀ L h' (lLed L o1 o2 o3 o4 o5 o6 ps [(D, W.listOf ys'.toArray kn)]) → Q .next { s with heap := h', toks := tk }) :
    wpAny (model PySem.Challenge.rw_ij0107_01.row.prog w) (lA dp un (lawEnv L f cd) outer gd) (exec (lawSt 1) (lawEnv L f cd)) Q E s := by
  obtain ⟨X, T, B, hf, hke⟩ := id G
  rw [fn_if hm] at F
  revert X T
  k_fill
  intro X T
  walk_at "mine st"
  refine envL ?_
  intro A1 e1
  dsimp only [lLed] at N
  dsimp only [apL] at hap
  have hyl : ys.length ≤ 2 := by
    have := hin.length
    rw [List.length_map, List.length_take] at this
    omega
  generalize hx : ((ns.take 2).map fun k => k.fmod (10 ^ 9)) = xs at hin
  have hxn : numsOf ns = if xs.length < 2 then xs ++ [202] else xs := by unfold numsOf; rw [hx]
  have hyx := hin.length
  k_steps
  · rename (xs.length : Int) < 2 => hx2
    rename News _ _ _ _ => N9
    rename Fr _ _ _ _ => F9
    rw [List.append_toArray] at N9
    refine k (ys ++ [.int 202 _]) _ _ _ _ (by rfl) ?_ F9 (News.sub N9 (by walk_at "mine sub"))
    rw [hxn, if_pos (by omega)]
    exact IntsAre.append hin (.cons _ _ .nil)
  · rename ¬ (xs.length : Int) < 2 => hx2
    refine k ys _ _ _ _ (by rfl) ?_ F (News.sub N (by walk_at "mine sub"))
    rw [hxn, if_neg (by omega)]
    exact hin
theorem l_st2 (w : World) {mean : ExcName → Option Value} {mg mb : Str → Option Value} {A₀ : Around} {Q : Flow → Shared → Prop} {E : Value → Shared → Prop} {s : Shared} {h₀ : Heap} {L f D : Addr} {cd : Value} {gd : Option (List Code)} {dp un : Nat} {outer : List Env} {m : Str → Option Value} {o1 o2 o3 o4 o5 o6 oD : Obj} {ps : Array Value}
    (G : Gnd w mean mg mb A₀ h₀ outer (lawEnv L f cd) L) (h198 : @LT.lt Nat _ 198 L) (hdp : dp + 60 ≤ recursionLimit) (hun : un + 1000 ≤ cLine) (hap : apL L D) (e1 : cellIs o1 none)
    (F : Fr h₀ L s.heap m) (N : News h₀ L s.heap (lLed L o1 o2 o3 o4 o5 o6 ps [(D, oD)]))
    (k : ∀ o1' nl h' tk, cellIs o1' (some (.ref nl)) → apL L nl → @Ne Nat nl D → Fr h₀ L h' m → News h₀ L h' (lLed L o1' o2 o3 o4 o5 o6 ps [(nl, W.listOf #[] 0), (D, oD)]) → Q .next { s with heap := h', toks := tk }) :
    wpAny (model PySem.Challenge.rw_ij0107_01.row.prog w) (lA dp un (lawEnv L f cd) outer gd) (exec (lawSt 2) (lawEnv L f cd)) Q E s := by
  obtain ⟨X, T, B, hf, hke⟩ := id G
  revert X T
  k_fill
  intro X T
  walk_at "mine st"
  refine envL ?_
  intro A1 e1
  dsimp only [lLed] at N
  dsimp only [apL] at hap
  k_steps
  rename _ = Data.cell (some (Value.ref _)) => d9
  rename News _ _ _ _ => N9
  rename Fr _ _ _ _ => F9
  refine k _ _ _ _ d9 ?_ ?_ F9 (News.sub N9 (by walk_at "mine sub"))
  · refine ⟨?_, ?_, ?_, ?_, ?_, ?_, ?_⟩ <;> k_ne
  · k_ne
end Mine
end
section
open PySem PySem.W PySem.Spec PySem.Calls PyProof.Rows
set_option maxRecDepth 100000
set_option maxHeartbeats 2000000
namespace Mine
theorem lines_S03_0 : True := by
  k_with_none
  k_with "q" => (all_goals first | assumption | with_unfolding_all exact rfl)
  k_with "ar" => with_reducible first | assumption | (apply Ar.rm1; k_extra "q") | (apply Ar.nes; k_extra "q") | (apply Ar.pn0; k_extra "q") | (apply Ar.pm0; k_extra "q") | (apply Ar.pm1; k_extra "q") | (apply Ar.pm2; k_extra "q") | (apply Ar.pm3; k_extra "q") | (apply Ar.pm4; k_extra "q") | (apply Ar.pm5; k_extra "q") | (apply Ar.pm6; k_extra "q") | (apply Ar.pm6e; k_extra "q") | (apply Ar.pm7; k_extra "q")
  k_with "ite" => first | with_reducible refine ite_tt ?_ | with_reducible refine ite_ff ?_
  k_with "execs cons" => first | with_reducible refine seq_cut1 ?_ | (with_reducible refine seq_cut ?_; intro Kc hKc) | (with_reducible refine blk_cut ?_; intro Qd hQd)
  k_with "Nxt" => (k_dflt (dsimp only [Nxt]))
  k_with "Kont" => first | (k_dflt (refine hKc _ _ ?_; try clear hKc)) | (k_dflt (refine hQd _ _ ?_; try clear hQd)) | (k_dflt (refine hQc _ _ ?_; try clear hQc)) | (k_dflt (refine kont_app (by assumption) ?_))
  k_with "mine sub" => first
      | exact List.forall_mem_nil _
      | (refine' allC ?s1 ?s2; (case s1 => k_mem); (case s2 => walk_at "mine sub"))
      | (intro p hp; repeat (first | exact hp | apply List.Mem.tail))
  k_with "mine st" => (
      dsimp only [lawSt, lawBody, lawPack, lawEnv, lawScope, List.getD, List.getElem?_cons_zero, List.getElem?_cons_succ, Option.getD_some])
  k_with "call ref" => (
      k_here
      k_dflt (refine use2 [_, _, _, _, _, _, _] [_, _] (c_law_name w n tn hn) (by k_asm) (by k_asm) (by k_asm) (by k_all) (by k_all) (by assumption) (by k_asm) (by exact rfl) trivial (by dsimp +zetaDelta only [aA, Around.deeper]; omega) (by dsimp +zetaDelta only [aA, Around.deeper]; omega) ?_)
      intro v4 h4 tk4 ps4 F4 N4 ok4 G4 hv4 hn4
      (refine ex1E hv4 fun t4 qq1 => ?_; try clear hv4; rcases qq1 with rfl)
      simp only [List.cons_append, List.nil_append] at N4)
  k_with "call builtin:list.append" => (
      k_here
      k_dflt (refine append_listK (by k_asm) (by k_asm) (by k_updF) (by omega) ?_)
      intro h9 F9 N9
      (try dsimp only at N9))
  k_with "compareOp NotIn str ref" => (
      k_here
      k_dflt (refine notin_list_strs (News.isList (by k_asm) (by k_mem)) (Are.strs hnm) ?_))
  trivial
theorem fn_self {m : Str → Option Value} {x : Str} : m = fun z => if z = x then m x else m z := by
  funext z
  by_cases e : z = x
  · rw [if_pos e, e]
  · rw [if_neg e]
inductive NumSt (L : Nat) (o1 o2 o3 o4 o5 o6 : Obj) (nl D : Addr) (kn : Nat) (ys : List Value) (xs : List Int) (m : Str → Option Value) (i : Nat) : (Str → Option Value) → List (Addr × Obj) → Prop
  | mk (u : Option Value) (nmv : List Value) (kn' : Nat) (ps' : Array Value) (ok : TabOk ps') (hnm : Are IsS nmv (namesOf (xs.take i))) : NumSt L o1 o2 o3 o4 o5 o6 nl D kn ys xs m i (fun z => if z = Str.ofString "number" then u else if z = Str.ofString "numbers" then some (.ref D) else m z) (lLed L o1 o2 o3 o4 o5 o6 ps' [(nl, W.listOf (List.toArray nmv) kn'), (D, W.listOf ys.toArray kn)])
theorem l_st3 (w : World) {mean : ExcName → Option Value} {mg mb : Str → Option Value} {A₀ : Around} {Q : Flow → Shared → Prop} {E : Value → Shared → Prop} {s : Shared} {h₀ : Heap} {L f D nl : Addr} {cd : Value} {gd : Option (List Code)} {dp un : Nat} {outer : List Env} {m : Str → Option Value} {o1 o2 o3 o4 o5 o6 : Obj} {ps : Array Value} {ys : List Value} {xs : List Int} {kn : Nat}
    (G : Gnd w mean mg mb A₀ h₀ outer (lawEnv L f cd) L) (h198 : @LT.lt Nat _ 198 L) (hdp : dp + 60 ≤ recursionLimit) (hun : un + 1000 ≤ cLine) (ok : TabOk ps) (hap : apL L D) (hap2 : apL L nl) (hne : @Ne Nat nl D)
    (hin : IntsAre ys xs) (hxs : ∀ n ∈ xs, 0 ≤ n ∧ n < 1000000000) (hxl : xs.length ≤ 2) (hm : m (Str.ofString "numbers") = some (.ref D)) (e1 : cellIs o1 (some (.ref nl)))
    (F : Fr h₀ L s.heap m) (N : News h₀ L s.heap (lLed L o1 o2 o3 o4 o5 o6 ps [(nl, W.listOf #[] 0), (D, W.listOf ys.toArray kn)]))
    (hE : PassesOwn (model PySem.Challenge.rw_ij0107_01.row.prog w) (lA dp un (lawEnv L f cd) outer gd) (lawEnv L f cd) E)
    (k : ∀ nv kn ps' h' tk m', TabOk ps' → Are IsS nv (namesOf xs) → Fr h₀ L h' m' → News h₀ L h' (lLed L o1 o2 o3 o4 o5 o6 ps' [(nl, W.listOf (List.toArray nv) kn)]) → Q .next { s with heap := h', toks := tk }) :
    wpAny (model PySem.Challenge.rw_ij0107_01.row.prog w) (lA dp un (lawEnv L f cd) outer gd) (exec (lawSt 3) (lawEnv L f cd)) Q E s := by
  obtain ⟨X, T, B, hf, hke⟩ := id G
  rw [fn_if hm] at F
  have FF : Fr h₀ L s.heap (fun z => if z = Str.ofString "number" then m (Str.ofString "number") else if z = Str.ofString "numbers" then some (.ref D) else m z) := by
    have e : ∀ {m m' : Str → Option Value}, (∀ z, m z = m' z) → Fr h₀ L s.heap m → Fr h₀ L s.heap m' := fun q F => (funext q : _ = _) ▸ F
    refine e (fun z => ?_) F
    by_cases e : z = Str.ofString "number"
    · subst e; rw [if_pos rfl]; rfl
    · rw [if_neg e]
  clear F
  revert X T
  k_fill
  intro X T
  walk_at "mine st"
  refine envL ?_
  intro A1 e1
  dsimp only [apL] at hap hap2
  refine for_list (h₀ := h₀) (L := L) (l := D) (vs := ys) (NumSt L o1 o2 o3 o4 o5 o6 nl D kn ys xs m) (by exact rfl) FF N ?j0 ?hev ?hl (.inl ⟨_, _, rfl⟩) ?turn ?done (by intro _; rfl) hE
  case j0 => exact ⟨_, [], 0, ps, ok, .nil⟩
  case hev =>
    intro Q' hq
    exact nameX_L FF rfl hq
  case hl =>
    (intro h nw hk N' qr4; (refine ex2E qr4 fun i m' qq2 => ?_; try clear qr4; rcases qq2 with ⟨u, nmv, kn', ps', _, _⟩))
    exact News.isList N' (by k_mem)
  case done =>
    (intro m' nw h tk' qr4 F N; obtain ⟨u, nmv, kn', ps', ok', hnm⟩ := qr4)
    rw [hin.length, List.take_length] at hnm
    exact k nmv kn' ps' h tk' _ ok' hnm F (News.sub N (by walk_at "mine sub"))
  case turn =>
    (intro i v I oI m' nw h tk' hv qr9 F N off; obtain ⟨u, nmv, kn', ps', ok', hnm⟩ := qr9)
    (refine ex1E ((Are.of_ints hin).get hv) fun n qq1 => ?_; refine and2E qq1 fun hi qq11 => ?_; try clear qq1; refine ex1E qq11 fun tn qq111 => ?_; try clear qq11; rcases qq111 with rfl)
    have hn := hxs n (List.mem_of_getElem? hi)
    have hstep : namesOf (xs.take (i + 1)) = namesF (namesOf (xs.take i)) n := by
      unfold namesOf
      rw [List.take_add_one, hi, List.foldl_append]; rfl
    dsimp only [lLed] at N
    simp only [List.forall_mem_cons] at off
    have hnl : nmv.length ≤ 4000 := by
      rw [hnm.length]
      have := namesOf_len (xs.take i)
      rw [List.length_take] at this
      omega
    k_steps
    · rename _ = true => hq
      refine forPost_next (fr_eq F4 ?e1) N4 (by walk_at "mine sub") (by simp only [List.forall_mem_cons]; exact off) ⟨some (.int n tn), _, _, _, ok4, ?e2⟩
      case e1 => (intro z; by_cases hz : z = Str.ofString "number" <;> simp only [hz, if_true, if_false] <;> rfl)
      case e2 =>
        rw [hstep]
        unfold namesF
        rw [if_pos (by rw [List.contains_eq_any_beq, ← hq]; congr 1; funext x; exact BEq.comm)]
        exact hnm
    · rename _ = false => hq
      refine forPost_next (fr_eq F9 ?e1) N9 (by walk_at "mine sub") (by simp only [List.forall_mem_cons]; exact off) ⟨some (.int n tn), _, _, _, (by assumption), ?e2⟩
      case e1 => (intro z; by_cases hz : z = Str.ofString "number" <;> simp only [hz, if_true, if_false] <;> rfl)
      case e2 =>
        rw [hstep]
        unfold namesF
        rw [if_neg (by rw [List.contains_eq_any_beq]; intro q; rw [show (fun x => lawName n == x) = fun x => x == lawName n from funext fun x => BEq.comm, hq] at q; cases q)]
        exact hnm.snoc ⟨_, rfl⟩
end Mine
end
section
open PySem PySem.W PySem.Spec PySem.Calls PyProof.Rows PyProof.Rows.LCg
set_option maxRecDepth 100000
set_option maxHeartbeats 2000000
namespace Mine
theorem lines_S04_0 : True := by
  k_with_none
  k_with "q" => (all_goals first | assumption | with_unfolding_all exact rfl)
  k_with "ar" => with_reducible first | assumption | (apply Ar.le0; k_extra "q") | (apply Ar.rm1; k_extra "q") | (apply Ar.rs1; k_extra "q") | (apply Ar.snq; k_extra "q") | (apply Ar.n27; k_extra "q") | (apply Ar.nes; k_extra "q") | (apply Ar.pn0; k_extra "q") | (apply Ar.pm0; k_extra "q") | (apply Ar.pm1; k_extra "q") | (apply Ar.pm2; k_extra "q") | (apply Ar.pm3; k_extra "q") | (apply Ar.pm4; k_extra "q") | (apply Ar.pm5; k_extra "q") | (apply Ar.pm6; k_extra "q") | (apply Ar.pm7e; k_extra "q")
  k_with "mine sub" => first
      | exact List.forall_mem_nil _
      | (refine' allC ?s1 ?s2; (case s1 => k_mem); (case s2 => walk_at "mine sub"))
      | (intro p hp; repeat (first | exact hp | apply List.Mem.tail))
  k_with "mine st" => (
      dsimp only [lawSt, lawBody, lawPack, lawEnv, lawScope, List.getD, List.getElem?_cons_zero, List.getElem?_cons_succ, Option.getD_some])
  trivial
inductive ParOk (pars : Str → List Str) (x : Str) : Prop
  | mk (q : Nat → Str) (N : Nat) (hq : AncQ q (N + 1)) (h0 : Txt.rstripChars x (Str.ofString "/") = q (N + 1)) (hx : x.length ≤ 5000) (hN : N ≤ 900) (hl : ∀ n, n ≤ N → (q n).length ≤ 5000) (hp : pars x = (down q N).map slashed) : ParOk pars x
theorem bare_end {g : Array GenState} {gs : GenState} (h : AllBare g) : AllBare ((g.push gs).setIfInBounds g.size .finished) := by
  have e : (g.push gs).setIfInBounds g.size .finished = g.push .finished := by
    apply Array.ext
    · simp
    · intro i h1 h2
      simp only [Array.size_setIfInBounds, Array.size_push] at h1
      by_cases hi : i = g.size
      · subst hi; simp
      · rw [Array.getElem_setIfInBounds_ne (by simpa using h1) (by omega), Array.getElem_push_lt (by omega), Array.getElem_push_lt (by omega)]
  rw [e]
  exact h.push rfl
theorem lines_S04_1 : True := by
  k_with "pyIter ref" => (refine stop_intro ?_)
  k_with "call ref" => (
      k_here
      with_reducible show wpAny _ _ (call (Value.ref 136) _) _ _ _
      k_dflt (refine par_call (D := recursionLimit - 10) (U := cLine - 80) (news := (198, tabObj ps3) :: (I2, oI2) :: (C, oC) :: (D, lst ys) :: (L + 1 + 1 + 1 + 1 + 1 + 1, o6) :: (L + 1 + 1 + 1 + 1 + 1, o5) :: (L + 1 + 1 + 1 + 1, o4) :: (L + 1 + 1 + 1, o3) :: (L + 1 + 1, o2) :: (L + 1, o1) :: [(nl, W.listOf (List.toArray nv) kn)]) w hq hq0 hxl G h8 h198 (by exact rfl) (by dsimp only [aA]; omega) (by dsimp only [aA]; omega) (by exact rfl) (by omega) (by omega) (by k_asm) (News.sub (by k_asm) (by walk_at "mine sub")) ?_)
      intro X dx Ga Lg gn gs1 oX oG oL h4 tk4 F4 N4 l1 l2 l3 l4 hgo hpo hgn hbl hgg hoX)
  k_with "mine inner" => (
      refine codeAny_mono (inner_parents (N := Nq) G (by exact rfl) (by dsimp only [aA]; omega) (by dsimp only [aA]; omega) (by exact rfl) (by omega) (by omega) h8 hbl F6 N6 hC hord ok3 hoX hgo hpo hgl hgg ne3 hoff hN9 hyl (by rfl) (by rfl) (by decide) hql) (fun r s₆ hr => ?_)
      obtain ⟨f', h7, tk7, oC', m', zs, ps7, F7, N7, ok7, hC7, hz⟩ := hr
      refine ⟨f', h7, tk7, _, oC', m', zs, _, ?g1, F7, News.sub N7 ?g2, hC7, ?g3, ?g4, ⟨ps7, ok7, rfl⟩, hpe ▸ hz⟩
      case g1 => (show AllBare (Array.setIfInBounds _ gn _); rw [hgn]; exact bare_end hg3)
      case g2 => walk_at "mine sub"
      case g3 => exact off3
      case g4 => exact .inr ⟨_, by k_mem, rfl, _, rfl⟩)
  trivial
theorem l_st4 (w : World) {mean : ExcName → Option Value} {mg mb : Str → Option Value} {A₀ : Around} {Q : Flow → Shared → Prop} {E : Value → Shared → Prop} {s : Shared} {h₀ : Heap} {L f nl : Addr} {cd : Value} {gd : Option (List Code)} {dp un : Nat} {outer : List Env} {m : Str → Option Value} {o1 o2 o3 o4 o5 o6 : Obj} {ps : Array Value} {nv : List Value} {names : List Str} {kn : Nat} {pars : Str → List Str}
    (G : Gnd w mean mg mb A₀ h₀ outer (lawEnv L f cd) L) (h198 : @LT.lt Nat _ 198 h₀.objs.size) (hdp : dp + 60 ≤ recursionLimit) (hun : un + 1000 ≤ cLine) (ok : TabOk ps) (hap : apL L nl)
    (hin : Are IsS nv names) (hnl : names.length ≤ 2) (hpar : ∀ x ∈ names, ParOk pars x) (hfl : (names.flatMap pars).length ≤ 900) (e1 : cellIs o1 (some (.ref nl))) (hb : AllBare s.gens)
    (F : Fr h₀ L s.heap m) (N : News h₀ L s.heap (lLed L o1 o2 o3 o4 o5 o6 ps [(nl, W.listOf nv.toArray kn)]))
    (k : ∀ D fv ps' h' tk gs, AllBare gs → TabOk ps' → apL L D → @Ne Nat D nl → Are IsS fv (names.flatMap pars) → Fr h₀ L h' (fun z => if z = Str.ofString "folders" then some (.ref D) else m z) → News h₀ L h' (lLed L o1 o2 o3 o4 o5 o6 ps' [(D, lst fv), (nl, W.listOf nv.toArray kn)]) → Q .next { s with heap := h', toks := tk, gens := gs }) :
    wpAny (model PySem.Challenge.rw_ij0107_01.row.prog w) (lA dp un (lawEnv L f cd) outer gd) (exec (lawSt 4) (lawEnv L f cd)) Q E s := by
  have h8 : h₀.get? 198 = none := (N (198, tabObj ps) (.tail _ (.tail _ (.tail _ (.tail _ (.tail _ (.tail _ (.head _)))))))).2.2
  obtain ⟨XK, T, B, hf, hke⟩ := id G
  revert XK T
  k_fill
  intro XK T
  walk_at "mine st"
  dsimp only [apL] at hap
  dsimp only [lLed] at N
  refine Assign_two (Gn := AllBare) F (by exact rfl) (by rfl) (by with_unfolding_all rfl) (by with_unfolding_all rfl) (by decide) (by rfl) (by decide) (by rfl) (by rfl) (by rfl) (nameX_C N (by rfl) (by k_mem) e1 ?_ rfl rfl)
  refine ⟨nl, nv.toArray, _, rfl, F, N, .inr ⟨_, by k_mem, rfl, _, rfl⟩, hb, ?_⟩
  (intro s₂ qr1; (refine ex1E qr1 fun g2 qq1 => ?_; try clear qr1; rcases qq1 with rfl))
  refine comp2_fun (xs := names) (R := IsS) (f := pars) (R' := IsS) (Inv := fun nw => ∃ ps'', TabOk ps'' ∧ nw = lLed L o1 o2 o3 o4 o5 o6 ps'' [(nl, W.listOf nv.toArray kn)]) (by simpa using hin.length.symm) (fun i v _ hv => hin.get (by simpa using hv)) ⟨ps, ok, rfl⟩ ?_ ?_
  · (intro a va I2 oI2 C oC D m₂ ys h3 tk3 gs nw3 E' ha qr15 qr16 qr17 hC hx3 F3 N3 off3 ne3 hg3; (refine ex1E qr15 fun ta qq1 => ?_; try clear qr15; rcases qq1 with rfl); (refine ex1E qr16 fun ps3 qq1 => ?_; try clear qr16; refine and2E qq1 fun ok3 qq11 => ?_; try clear qq1; rcases qq11 with rfl); (refine ex1E qr17 fun jj qq1 => ?_; try clear qr17; refine and2E qq1 fun hja hys => ?_; try clear qq1))
    obtain ⟨q, Nq, hq, hq0, hxl, hN9, hql, hpe⟩ := hpar a ha
    dsimp only [lLed] at N3
    refine wpAny_tests_nil ?_
    rw [if_pos rfl]
    k_steps
    unfold Stop
    have hLs := F3.above
    have l5 : @LT.lt Nat _ 198 Lg := l4 (198, tabObj ps3) (.head _)
    have N5 : News h₀ L h4 (pLed X dx Ga Lg I2 C D oX oG oL oI2 oC ps3 ys ((L + 1 + 1 + 1 + 1 + 1 + 1, o6) :: (L + 1 + 1 + 1 + 1 + 1, o5) :: (L + 1 + 1 + 1 + 1, o4) :: (L + 1 + 1 + 1, o3) :: (L + 1 + 1, o2) :: (L + 1, o1) :: [(nl, W.listOf (List.toArray nv) kn)])) := N4
    have offK := off3
    simp only [lLed, PyProof.Rows.LCg.Off3, and_true] at offK
    have hord : IslOrd X dx Ga Lg ((I2, oI2) :: (C, oC) :: (D, lst ys) :: (L + 1 + 1 + 1 + 1 + 1 + 1, o6) :: (L + 1 + 1 + 1 + 1 + 1, o5) :: (L + 1 + 1 + 1 + 1, o4) :: (L + 1 + 1 + 1, o3) :: (L + 1 + 1, o2) :: (L + 1, o1) :: [(nl, W.listOf (List.toArray nv) kn)]) := by
      refine ⟨l1, l2, l3, l5, fun p hp => l4 p (.tail _ hp), ?_⟩
      simp only [List.forall_mem_cons]
      have h198' : @LT.lt Nat _ 198 L := Nat.lt_of_lt_of_le h198 hLs
      refine ⟨?_, ?_, ?_, ?_, ?_, ?_, ?_, ?_, ?_, ?_, fun _ h => (nomatch h)⟩ <;> k_ne
    have hoff : Off3 I2 C D ((L + 1 + 1 + 1 + 1 + 1 + 1, o6) :: (L + 1 + 1 + 1 + 1 + 1, o5) :: (L + 1 + 1 + 1 + 1, o4) :: (L + 1 + 1 + 1, o3) :: (L + 1 + 1, o2) :: (L + 1, o1) :: [(nl, W.listOf (List.toArray nv) kn)]) := by
      refine Off3.of fun p hp => Off3.mem off3 p ?_
      revert p
      walk_at "mine sub"
    have hgl : (gs.push gs1)[gn]? = some gs1 := by rw [hgn]; simp
    have hyl : ys.length ≤ 1000 := by
      rw [hys.length]
      have q6 : ((names.take jj).flatMap pars).length ≤ (names.flatMap pars).length := by
        conv => rhs; rw [← List.take_append_drop jj names, List.flatMap_append, List.length_append]
        omega
      omega
    refine isl_iter w G (by dsimp only [aA]; omega) (by exact rfl) F4 N5 hoX fun h6 tk6 F6 N6 => ?_
    refine start_two1 ?a fun E2 => isl_iter w G (by dsimp only [aA]; omega) (by exact rfl) F6 N6 hoX fun h6 tk6 F6 N6 => ?b
    all_goals walk_at "mine inner"
  · (intro ys nw qr2 hys D h3 tk3 gs hg3 F3 N3 off3; (refine ex1E qr2 fun ps3 qq1 => ?_; try clear qr2; refine and2E qq1 fun ok3 qq11 => ?_; try clear qq1; rcases qq11 with rfl))
    simp only [PyProof.Rows.LCg.Off1, and_true] at off3
    refine k D ys ps3 h3 tk3 gs hg3 ok3 ?_ ?_ hys F3 (News.sub N3 (by walk_at "mine sub"))
    · refine ⟨?_, ?_, ?_, ?_, ?_, ?_, ?_⟩ <;> omega
    · omega
end Mine
end
section
open PySem PySem.W PySem.Spec PySem.Calls PyProof.Rows PyProof.Rows.LCg
set_option maxRecDepth 100000
set_option maxHeartbeats 2000000
namespace Mine
theorem lines_S05_0 : True := by
  k_with_none
  k_with "q" => (all_goals first | assumption | with_unfolding_all exact rfl)
  k_with "ar" => with_reducible first | assumption | (apply Ar.rm1; k_extra "q") | (apply Ar.sne; k_extra "q") | (apply Ar.pn0; k_extra "q") | (apply Ar.pg1; k_extra "q") | (apply Ar.pg2; k_extra "q") | (apply Ar.pg3; k_extra "q") | (apply Ar.pg4; k_extra "q") | (apply Ar.pg5; k_extra "q") | (apply Ar.pg6; k_extra "q") | (apply Ar.pg7; k_extra "q") | (apply Ar.pg9; k_extra "q")
  k_with "mine sub" => first
      | exact List.forall_mem_nil _
      | (refine' allC ?s1 ?s2; (case s1 => k_mem); (case s2 => walk_at "mine sub"))
      | (intro p hp; repeat (first | exact hp | apply List.Mem.tail))
  k_with "mine st" => (
      dsimp only [lawSt, lawBody, lawPack, lawEnv, lawScope, List.getD, List.getElem?_cons_zero, List.getElem?_cons_succ, Option.getD_some])
  trivial
section
variable {prog : Program} {w : World} {A : Around} {E : Value → Shared → Prop} {s : Shared}
noncomputable def FkP (h : Heap) : Prop := h.get? 165 = some fkObj
theorem callWith_Fk {env : Env} {pos : Pos} {first : List Value} {e : Expr} {rest : List Expr} {Q : Value → Shared → Prop}
    (h : wpAny (model prog w) A (spliced (backTo pos (starEach (e :: rest) env))) (fun vs s₁ => FkP s₁.heap ∧ wpAny (model prog w) A (call (.ref 165) (first ++ vs)) Q E s₁) E s)
    (he : starEach (e :: rest) env = (false, eval e env) :: starEach rest env := by rfl) (hplain : (backTo pos (starEach rest env)).any (·.1) = false := by rfl) :
    wpAny (model prog w) A (callWith pos (.ref 165) first (backTo pos (starEach (e :: rest) env)) []) Q E s := by
  rw [he] at h ⊢
  exact callWith_of (P := FkP) (by show ((false || (backTo pos (starEach rest env)).any (·.1)) || false) = false; rw [hplain]; rfl) (fun h X => ⟨.machine, .inr (.inl rfl), (Looks.ld (part := none) X).andThen .now⟩) (evalArgs_plain h)
theorem fkP {h : Heap} {P : Prop} (e : h.get? 165 = some fkObj) (hp : P) : FkP h ∧ P := ⟨e, hp⟩
end
theorem lines_S05_1 : True := by
  k_with "callWith ref" => (
      k_here
      with_reducible show wpAny _ _ (callWith _ (Value.ref 165) _ _ _) _ _ _
      k_dflt (refine' callWith_Fk ?_; k_whole))
  k_with "And" => (
      k_here
      k_dflt (refine' fkP ?k1 ?_; (case k1 => exact (XK.keeps (Fr.keep (by k_asm))) _ _ (by k_is)); k_whole))
  trivial
noncomputable def dedupe (xs : List Str) : List Str := (fkAll [] xs).map (·.1)
theorem lines_S05_2 : True := by
  k_with "call ref" => (
      k_here
      first
      | (with_reducible show wpAny _ _ (call (Value.ref 172) _) _ _ _
         k_dflt (refine diff_callK [_, _, _, _, _, _] [_, _] (Lm := fo) (Ls := nl) (xv := fv) (yv := nv) (km := fv.length) (ks := kn) G (by exact rfl) (by dsimp +zetaDelta only [aA]; omega) (by dsimp +zetaDelta only [aA]; omega) (by k_asm) (by k_asm) (by k_all) (by k_all) ok (News.get (h₀ := h₀) (L := L) (by k_asm) (by k_mem)) (News.get (h₀ := h₀) (L := L) (by k_asm) (by k_mem)) hin (by omega) ?_)
         intro X dx I B S oI oS n ps' h4 tk4 F4 N4 ok4 ho4 hI4 hso4 hn4 hX4
         simp only [List.cons_append, List.nil_append] at N4 ho4)
      | (with_reducible show wpAny _ _ (call (Value.ref 165) _) _ _ _
         k_dflt (refine ff_dedupe G (by exact rfl) (by dsimp +zetaDelta only [aA]; omega) (by dsimp +zetaDelta only [aA]; omega) (by exact rfl) F4 N4 ho4 (.inr ⟨_, by k_mem, rfl, _, rfl⟩) hI4 hfv hso4 hn4 (by omega) ?_)
         intro D5 oD5 h5 tk5 hd5 F5 N5 l5 lo5))
  k_with "call type:list" => (
      k_here
      k_dflt (refine list_dictK (by exact rfl) F5 N5 (.head _) hd5 lo5 hfz ?_)
      intro D6 vs6 c6 h6 tk6 hv6 F6 N6 l6)
  trivial
theorem l_st5 (w : World) {mean : ExcName → Option Value} {mg mb : Str → Option Value} {A₀ : Around} {Q : Flow → Shared → Prop} {E : Value → Shared → Prop} {s : Shared} {h₀ : Heap} {L f nl fo : Addr} {cd : Value} {gd : Option (List Code)} {dp un : Nat} {outer : List Env} {m : Str → Option Value} {o1 o2 o3 o4 o5 o6 : Obj} {ps : Array Value} {nv fv : List Value} {names folders : List Str} {kn : Nat}
    (G : Gnd w mean mg mb A₀ h₀ outer (lawEnv L f cd) L) (h198 : @LT.lt Nat _ 198 h₀.objs.size) (hdp : dp + 60 ≤ recursionLimit) (hun : un + 1000 ≤ cLine) (ok : TabOk ps) (hap : apL L nl) (hap2 : apL L fo) (hne : @Ne Nat fo nl)
    (hin : Are IsS nv names) (hnl : names.length ≤ 2) (hfv : Are IsS fv folders) (hfl : folders.length ≤ 900) (hfz : (fkAll [] (minus folders names)).length ≤ 2000) (e1 : cellIs o1 (some (.ref nl)))
    (F : Fr h₀ L s.heap (fun z => if z = Str.ofString "folders" then some (.ref fo) else m z)) (N : News h₀ L s.heap (lLed L o1 o2 o3 o4 o5 o6 ps [(fo, lst fv), (nl, W.listOf nv.toArray kn)]))
    (k : ∀ D iv c ps' h' tk (m' : Str → Option Value), TabOk ps' → apL L D → @Ne Nat D nl → Are IsS iv (dedupe (minus folders names)) → Fr h₀ L h' (fun z => if z = Str.ofString "implied" then some (.ref D) else m' z) → News h₀ L h' (lLed L o1 o2 o3 o4 o5 o6 ps' [(D, W.listOf (List.toArray iv) c), (nl, W.listOf nv.toArray kn)]) → Q .next { s with heap := h', toks := tk }) :
    wpAny (model PySem.Challenge.rw_ij0107_01.row.prog w) (lA dp un (lawEnv L f cd) outer gd) (exec (lawSt 5) (lawEnv L f cd)) Q E s := by
  have hLs := F.above
  have h198' : @LT.lt Nat _ 198 L := Nat.lt_of_lt_of_le h198 hLs
  have hq1 := hin.length
  have hq2 := hfv.length
  obtain ⟨XK, T, B, hf, hke⟩ := id G
  revert XK T
  k_fill
  intro XK T
  walk_at "mine st"
  refine envL ?_
  intro A1 e1
  dsimp only [apL] at hap hap2
  dsimp only [lLed] at N
  k_steps
  rename News _ _ _ _ => N9
  rename Fr _ _ _ _ => F9
  simp only [List.forall_mem_cons] at l6
  refine k D6 vs6 c6 _ _ _ _ ok4 ?_ ?_ hv6 F9 (News.sub N9 (by walk_at "mine sub"))
  · refine ⟨?_, ?_, ?_, ?_, ?_, ?_, ?_⟩ <;> omega
  · omega
end Mine
end
section
open PySem PySem.W PySem.Spec PySem.Calls PyProof.Rows PyProof.Rows.LCg
set_option maxRecDepth 100000
set_option maxHeartbeats 2000000
namespace Mine
theorem lines_S06_0 : True := by
  k_with_none
  k_with "q" => (all_goals first | assumption | with_unfolding_all exact rfl)
  k_with "ar" => with_reducible first | assumption | (apply Ar.rm1; k_extra "q") | (apply Ar.sn; k_extra "q") | (apply Ar.sne; k_extra "q") | (apply Ar.sn2; k_extra "q") | (apply Ar.rl1; k_extra "q") | (apply Ar.nl2; k_extra "q") | (apply Ar.pn0; k_extra "q") | (apply Ar.pg0; k_extra "q") | (apply Ar.pg1; k_extra "q") | (apply Ar.pn2; k_extra "q") | (apply Ar.pg2; k_extra "q") | (apply Ar.pg3; k_extra "q") | (apply Ar.pg4; k_extra "q") | (apply Ar.pg5; k_extra "q") | (apply Ar.pg6; k_extra "q") | (apply Ar.pg7; k_extra "q") | (apply Ar.pg8e; k_extra "q")
  k_with "mine sub" => first
      | exact List.forall_mem_nil _
      | (refine' allC ?s1 ?s2; (case s1 => k_mem); (case s2 => walk_at "mine sub"))
      | (intro p hp; repeat (first | exact hp | apply List.Mem.tail))
  k_with "mine st" => (
      dsimp only [lawSt, lawBody, lawPack, lawEnv, lawScope, List.getD, List.getElem?_cons_zero, List.getElem?_cons_succ, Option.getD_some])
  k_with "binaryOp Add ref ref" => (
      k_here
      k_dflt (refine add_listsK (by k_asm) (by k_asm) (News.isList (by k_asm) (by k_mem)) (News.isList (by k_asm) (by k_mem)) (by ((try simp only [List.length_append] at *); omega)) ?_)
      intro D7 h7 F7 N7 l7
      (try k_lt l7))
  trivial
theorem l_st6 (w : World) {mean : ExcName → Option Value} {mg mb : Str → Option Value} {A₀ : Around} {Q : Flow → Shared → Prop} {E : Value → Shared → Prop} {s : Shared} {h₀ : Heap} {L f nl im : Addr} {cd : Value} {gd : Option (List Code)} {dp un : Nat} {outer : List Env} {m : Str → Option Value} {o1 o2 o3 o4 o5 o6 : Obj} {ps : Array Value} {nv iv : List Value} {kn ki : Nat}
    (G : Gnd w mean mg mb A₀ h₀ outer (lawEnv L f cd) L) (h198 : @LT.lt Nat _ 198 h₀.objs.size) (hap : apL L nl) (hap2 : apL L im) (hne : @Ne Nat im nl)
    (hnl : nv.length ≤ 2) (hiv : iv.length ≤ 100) (e1 : cellIs o1 (some (.ref nl))) (e2 : cellIs o2 none)
    (F : Fr h₀ L s.heap (fun z => if z = Str.ofString "implied" then some (.ref im) else m z)) (N : News h₀ L s.heap (lLed L o1 o2 o3 o4 o5 o6 ps [(im, W.listOf iv.toArray ki), (nl, W.listOf nv.toArray kn)]))
    (k : ∀ li o2' h' tk, cellIs o2' (some (.ref li)) → apL L li → @Ne Nat li nl → @Ne Nat li im → Fr h₀ L h' (fun z => if z = Str.ofString "implied" then some (.ref im) else m z) → News h₀ L h' (lLed L o1 o2' o3 o4 o5 o6 ps [(li, W.listOf (nv ++ iv).toArray 0), (im, W.listOf iv.toArray ki), (nl, W.listOf nv.toArray kn)]) → Q .next { s with heap := h', toks := tk }) :
    wpAny (model PySem.Challenge.rw_ij0107_01.row.prog w) (lA dp un (lawEnv L f cd) outer gd) (exec (lawSt 6) (lawEnv L f cd)) Q E s := by
  have hLs := F.above
  have h198' : @LT.lt Nat _ 198 L := Nat.lt_of_lt_of_le h198 hLs
  obtain ⟨XK, T, B, hf, hke⟩ := id G
  revert XK T
  k_fill
  intro XK T
  walk_at "mine st"
  refine envL ?_
  intro A1 e1
  dsimp only [apL] at hap hap2
  dsimp only [lLed] at N
  k_steps
  rename _ = Data.cell (some (Value.ref _)) => d9
  rename News _ _ _ _ => N9
  rename Fr _ _ _ _ => F9
  refine k _ _ _ _ d9 ?_ ?_ ?_ F9 (News.sub N9 (by walk_at "mine sub"))
  · refine ⟨?_, ?_, ?_, ?_, ?_, ?_, ?_⟩ <;> k_ne
  · k_ne
  · k_ne
theorem lines_S06_1 : True := by
  k_with "call ref" => (
      k_here
      (with_reducible show wpAny _ _ (call (Value.ref 172) _) _ _ _)
      k_dflt (refine diff_callK [_, _, _, _, _, _, _] [_, _, _] (Lm := D7) (Ls := im) (xv := nv ++ (nv ++ iv)) (yv := iv) (km := 0) (ks := ki) G (by exact rfl) (by dsimp +zetaDelta only [aA]; omega) (by dsimp +zetaDelta only [aA]; omega) (by k_asm) (by k_asm) (by k_all) (by k_all) ok (News.get (h₀ := h₀) (L := L) (by k_asm) (by k_mem)) (News.get (h₀ := h₀) (L := L) (by k_asm) (by k_mem)) hiv (by omega) ?_)
      intro X dx I B S oI oS n ps' h4 tk4 F4 N4 ok4 ho4 hI4 hso4 hn4 hX4
      simp only [List.cons_append, List.nil_append] at N4 ho4)
  k_with "call type:list" => (
      k_here
      k_dflt (refine ff_list G (by exact rfl) (by dsimp +zetaDelta only [aA]; omega) (by dsimp +zetaDelta only [aA]; omega) (by exact rfl) F4 N4 ho4 (.inr ⟨_, by k_mem, rfl, _, rfl⟩) hI4 hxv hso4 hn4 hxz ?_)
      intro D6 vs6 c6 h6 tk6 hv6 F6 N6 l6
      (try k_lt l6))
  k_with "compareOp NotEq ref ref" => (
      k_here
      k_dflt (refine ne_strs (News.isList (by k_asm) (by k_mem)) (News.isList (by k_asm) (by k_mem)) hv6 hnn (by rw [hP1]; exact onn) onn (by dsimp +zetaDelta only [aA]; omega) ?_)
      k_whole)
  trivial
theorem l_st7 (w : World) {mean : ExcName → Option Value} {mg mb : Str → Option Value} {A₀ : Around} {Q : Flow → Shared → Prop} {E : Value → Shared → Prop} {s : Shared} {h₀ : Heap} {L f nl im li : Addr} {cd : Value} {gd : Option (List Code)} {dp un : Nat} {outer : List Env} {m : Str → Option Value} {o1 o2 o3 o4 o5 o6 : Obj} {ps : Array Value} {nv iv : List Value} {kn ki : Nat} {names implied : List Str}
    (G : Gnd w mean mg mb A₀ h₀ outer (lawEnv L f cd) L) (h198 : @LT.lt Nat _ 198 h₀.objs.size) (hdp : dp + 60 ≤ recursionLimit) (hun : un + 1000 ≤ cLine) (ok : TabOk ps) (hap : apL L nl) (hap2 : apL L im) (hap3 : apL L li) (hne : @Ne Nat im nl) (hne2 : @Ne Nat li nl) (hne3 : @Ne Nat li im)
    (hnv : Are IsS nv names) (hnl : names.length ≤ 2) (hiv : Are IsS iv implied) (hil : implied.length ≤ 100) (onn : ∀ x ∈ names ++ names, PyData.strOk x = true) (hP1 : minus (names ++ (names ++ implied)) implied = names ++ names) (e1 : cellIs o1 (some (.ref nl))) (e2 : cellIs o2 (some (.ref li)))
    (F : Fr h₀ L s.heap (fun z => if z = Str.ofString "implied" then some (.ref im) else m z)) (N : News h₀ L s.heap (lLed L o1 o2 o3 o4 o5 o6 ps [(li, W.listOf (nv ++ iv).toArray 0), (im, W.listOf iv.toArray ki), (nl, W.listOf nv.toArray kn)]))
    (k : ∀ ps' h' tk, TabOk ps' → Fr h₀ L h' (fun z => if z = Str.ofString "implied" then some (.ref im) else m z) → News h₀ L h' (lLed L o1 o2 o3 o4 o5 o6 ps' [(li, W.listOf (nv ++ iv).toArray 0), (im, W.listOf iv.toArray ki), (nl, W.listOf nv.toArray kn)]) → Q .next { s with heap := h', toks := tk }) :
    wpAny (model PySem.Challenge.rw_ij0107_01.row.prog w) (lA dp un (lawEnv L f cd) outer gd) (exec (lawSt 7) (lawEnv L f cd)) Q E s := by
  have hLs := F.above
  have h198' : @LT.lt Nat _ 198 L := Nat.lt_of_lt_of_le h198 hLs
  have hq1 := hnv.length
  have hq2 := hiv.length
  have hnn : Are IsS (nv ++ nv) (names ++ names) := hnv.append hnv
  have hxv : Are IsS (nv ++ (nv ++ iv)) (names ++ (names ++ implied)) := hnv.append (hnv.append hiv)
  have hxz : (nv ++ (nv ++ iv)).length ≤ 900 := by simp only [List.length_append]; omega
  obtain ⟨XK, T, B, hf, hke⟩ := id G
  revert XK T
  k_fill
  intro XK T
  walk_at "mine st"
  refine envL ?_
  intro A1 e1
  dsimp only [apL] at hap hap2 hap3
  dsimp only [lLed] at N
  k_steps
  rename News _ _ _ _ => N9
  rename Fr _ _ _ _ => F9
  exact k ps' _ _ ok4 F9 (News.sub N9 (by walk_at "mine sub"))
end Mine
end
section
open PySem PySem.W PySem.Spec PySem.Calls PyProof.Rows PyProof.Rows.LCg
set_option maxRecDepth 100000
set_option maxHeartbeats 2000000
namespace Mine
theorem lines_S08_0 : True := by
  k_with_none
  k_with "q" => (all_goals first | assumption | with_unfolding_all exact rfl)
  k_with "ar" => with_reducible first | assumption | (apply Ar.le0; k_extra "q") | (apply Ar.sze; k_extra "q") | (apply Ar.pred1; k_extra "q") | (apply Ar.pg2; k_extra "q") | (apply Ar.pg3; k_extra "q") | (apply Ar.pg4; k_extra "q") | (apply Ar.pg5; k_extra "q") | (apply Ar.pg6; k_extra "q") | (apply Ar.pg7; k_extra "q") | (apply Ar.pg8; k_extra "q") | (apply Ar.pg9; k_extra "q") | (apply Ar.pg10; k_extra "q") | (apply Ar.i13; k_extra "q")
  k_with "mine sub" => first
      | exact List.forall_mem_nil _
      | (refine' allC ?s1 ?s2; (case s1 => k_mem); (case s2 => walk_at "mine sub"))
      | (intro p hp; repeat (first | exact hp | apply List.Mem.tail))
  k_with "mine st" => (
      dsimp only [lawSt, lawBody, lawPack, lawEnv, lawScope, List.getD, List.getElem?_cons_zero, List.getElem?_cons_succ, Option.getD_some])
  trivial
noncomputable def endsSl (x : Str) : Bool := x.cps.toList.getLast? == some 47
section
variable {prog : Program} {w : World} {A : Around} {E : Value → Shared → Prop} {s : Shared}
theorem item_last {x : Str} {t u : Tok} {c : Nat} {Q : Value → Shared → Prop} {value slice : Expr} (hx : x.cps.toList.getLast? = some c) (hsz : x.length ≤ 5000) (hq : ∀ t', Q (.str ⟨#[c]⟩ t') { s with toks := s.toks + 1 })
    (hs : subscripted slice false (.str x t) (.int (-1) u) = operate [.str x t, .int (-1) u] (getItem (.str x t) (.int (-1) u)) := by with_unfolding_all rfl)
    (ht : ∀ r, letTemporaryGo value (.str x t) r = pure () := by intro _; with_unfolding_all rfl) :
    wpAny (model prog w) A (subscriptTail value slice (.str x t) (.int (-1) u)) Q E s := by
  have hl : x.cps.toList.length = x.length := by simp [Str.length]
  have hne : x.cps.toList ≠ [] := by intro e; rw [e] at hx; cases hx
  have h3 : 1 ≤ x.length := by
    rw [← hl]; exact List.length_pos_iff.mpr hne
  have e : Txt.item x (-1) = ⟨#[c]⟩ := by
    unfold Txt.item Txt.charAt seqIndex?
    have e1 : (if (-1 : Int) < 0 then -1 + (x.length : Int) else -1) = ((x.length - 1 : Nat) : Int) := by rw [if_pos (by decide)]; omega
    simp only [e1]
    rw [if_pos (by simp; omega)]
    show (⟨#[(x.cps[(((x.length - 1 : Nat) : Int)).toNat]?).getD 0]⟩ : Str) = _
    rw [Int.toNat_natCast]
    have h2 : x.cps[x.length - 1]? = some c := by
      rw [List.getLast?_eq_getElem?] at hx
      rw [← Array.getElem?_toList, ← hx, hl]
    rw [h2]; rfl
  refine item_str ?_ (by omega) (by omega) (fun _ => by rw [e]; exact hq _) hs ht
  unfold fitsSsize
  simp
theorem eq_strB {x y : Str} {t u : Tok} {b : Bool} {Q : Value → Shared → Prop} (hb : (x == y) = b) (h : Q (.bool b) s) : wpAny (model prog w) A (compareOp .Eq (.str x t) (.str y u)) Q E s := by
  subst hb
  exact eq_str h
end
theorem lines_S08_1 : True := by
  k_with "CompEnd" => (refine stop_intro ?_)
  k_with "eval ListComp" => (refine stop_intro ?_)
  k_with "subscriptTail" => (
      k_here
      with_reducible show wpAny _ _ (subscriptTail _ _ (Value.str _ _) (Value.int (-1) _)) _ _ _
      k_dflt (refine item_last hc hy ?_)
      intro t')
  k_with "compareOp Eq str str" => (
      k_here
      k_dflt (refine eq_strB hcb ?_))
  k_with "binaryOp Add ref ref" => (
      k_here
      k_dflt (refine add_listsK (us := ys) (vs := [.str (Str.ofString "") _]) (by k_asm) (by k_asm) (News.isList (by k_asm) (by k_mem)) (News.isList (by k_asm) (by k_mem)) (by (have q := hys.length; have q2 := List.length_filter_le endsSl listing; simp only [List.length_singleton]; omega)) ?_)
      intro D7 h7 F7 N7 l7
      (try k_lt l7))
  trivial
theorem l_st8 (w : World) {mean : ExcName → Option Value} {mg mb : Str → Option Value} {A₀ : Around} {Q : Flow → Shared → Prop} {E : Value → Shared → Prop} {s : Shared} {h₀ : Heap} {L f nl im li : Addr} {cd : Value} {gd : Option (List Code)} {dp un : Nat} {outer : List Env} {m : Str → Option Value} {o1 o2 o3 o4 o5 o6 on oi : Obj} {ps : Array Value} {lv : List Value} {kl : Nat} {listing : List Str}
    (G : Gnd w mean mg mb A₀ h₀ outer (lawEnv L f cd) L) (h198 : @LT.lt Nat _ 198 h₀.objs.size) (hdp : dp + 60 ≤ recursionLimit) (hun : un + 1000 ≤ cLine) (hap : apL L nl) (hap2 : apL L im) (hap3 : apL L li)
    (hlv : Are IsS lv listing) (hll : listing.length ≤ 200) (hne : ∀ x ∈ listing, x.cps.toList ≠ []) (hly : ∀ x ∈ listing, x.length ≤ 1000) (e2 : cellIs o2 (some (.ref li)))
    (F : Fr h₀ L s.heap (fun z => if z = Str.ofString "implied" then some (.ref im) else m z)) (N : News h₀ L s.heap (lLed L o1 o2 o3 o4 o5 o6 ps [(li, W.listOf lv.toArray kl), (im, oi), (nl, on)]))
    (k : ∀ pl pv h' tk, apL L pl → @Ne Nat pl nl → @Ne Nat pl im → @Ne Nat pl li → Are IsS pv (Str.ofString "" :: listing.filter endsSl) → Fr h₀ L h' (fun z => if z = Str.ofString "places" then some (.ref pl) else if z = Str.ofString "implied" then some (.ref im) else m z) →
      News h₀ L h' (lLed L o1 o2 o3 o4 o5 o6 ps [(pl, W.listOf (List.toArray pv) 0), (li, W.listOf lv.toArray kl), (im, oi), (nl, on)]) → Q .next { s with heap := h', toks := tk }) :
    wpAny (model PySem.Challenge.rw_ij0107_01.row.prog w) (lA dp un (lawEnv L f cd) outer gd) (exec (lawSt 8) (lawEnv L f cd)) Q E s := by
  have hLs := F.above
  have h198' : @LT.lt Nat _ 198 L := Nat.lt_of_lt_of_le h198 hLs
  have hq1 := hlv.length
  obtain ⟨XK, T, B, hf, hke⟩ := id G
  revert XK T
  k_fill
  intro XK T
  walk_at "mine st"
  refine envL ?_
  intro A1 e1
  dsimp only [apL] at hap hap2 hap3
  dsimp only [lLed] at N
  k_steps
  unfold Stop
  rename News _ _ _ _ => N9
  rename Fr _ _ _ _ => F9
  refine PyProof.Rows.LCt.ListComp_T (F₀ := by k_asm) (by with_unfolding_all rfl) (by decide) (by rfl) (by decide) (by rfl) (nameX_C N9 (by rfl) (by k_mem) e2 ?_ rfl rfl)
  refine .inl ⟨li, lv.toArray, _, rfl, by exact rfl, F9, N9, .inr ⟨_, by k_mem, rfl, _, rfl⟩, by (have q1 := sizeLine_eq; rw [List.size_toArray]; omega), ?_⟩
  (intro s₂ qr1; (refine ex1E qr1 fun g2 qq1 => ?_; try clear qr1; rcases qq1 with rfl))
  refine restT_fun (xs := listing) (R := IsS) (p := endsSl) (g := id) (R' := IsS) (Inv := fun nw => nw = _) (by simpa using hlv.length.symm) (fun i v _ hv => hlv.get (by simpa using hv)) rfl ?_ ?_
  · (intro y vy I oI C oC D m₂ ys h3 tk3 nw3 E' hyt qr14 qr15 hC hx3 F3 N3 off3 ne3; (refine ex1E qr14 fun ty qq1 => ?_; try clear qr14; rcases qq1 with rfl); rcases qr15 with rfl)
    have offK := off3
    simp only [PyProof.Rows.LCg.Off3] at off3
    have hy : y.length ≤ 5000 := Nat.le_trans (hly y hyt) (by decide)
    obtain ⟨c, hc⟩ : ∃ c, y.cps.toList.getLast? = some c := by
      cases q : y.cps.toList.getLast? with
      | none => exact absurd (List.getLast?_eq_none_iff.mp q) (hne y hyt)
      | some c => exact ⟨c, rfl⟩
    cases hq : endsSl y with
    | true =>
      have hcb : ((⟨#[c]⟩ : Str) == Str.ofString "/") = true := by
        unfold endsSl at hq
        rw [hc] at hq
        obtain rfl : c = 47 := by simpa using hq
        decide +kernel
      k_steps
      unfold Stop
      exact PyProof.Rows.LCg.CompEnd.intro (by k_asm) (by k_asm) _ (by walk_at "mine sub") (by exact offK) (.inr ⟨_, by k_mem, rfl, _, rfl⟩) ⟨rfl, _, rfl⟩
    | false =>
      have hcb : ((⟨#[c]⟩ : Str) == Str.ofString "/") = false := by
        unfold endsSl at hq
        rw [hc] at hq
        rw [beq_eq_false_iff_ne]
        intro e
        have e2 : Str.ofString "/" = ⟨#[47]⟩ := by decide +kernel
        rw [e2] at e
        injection e with e
        have := congrArg Array.toList e
        simp at this
        simp [this] at hq
      k_steps
      unfold Stop
      exact PyProof.Rows.LCg.CompEnd.intro (by k_asm) (by k_asm) _ (by walk_at "mine sub") (by exact offK) (.inr ⟨_, by k_mem, rfl, _, rfl⟩) rfl
  · (intro ys nw qr2 hys D h3 tk3 F3 N3 off3; rcases qr2 with rfl)
    simp only [PyProof.Rows.LCg.Off1] at off3
    rw [List.map_id] at hys
    dsimp only
    k_steps
    rename News _ _ _ _ => N9
    rename Fr _ _ _ _ => F9
    refine k D7 (.str (Str.ofString "") _ :: ys) _ _ ?_ ?_ ?_ ?_ (.cons ⟨_, rfl⟩ hys) F9 (News.sub N9 (by walk_at "mine sub"))
    · refine ⟨?_, ?_, ?_, ?_, ?_, ?_, ?_⟩ <;> k_ne
    · k_ne
    · k_ne
    · k_ne
end Mine
end
section
open PySem PySem.W PySem.Spec PySem.Calls PyProof.Rows PyProof.Rows.LCg
set_option maxRecDepth 100000
set_option maxHeartbeats 2000000
namespace Mine

theorem lines_S09_0 : True := by
  k_with_none
  k_with "q" => (all_goals first | assumption | with_unfolding_all exact rfl)
  k_with "ar" => with_reducible first | assumption | (apply Ar.rm1; k_extra "q") | (apply Ar.sz; k_extra "q") | (apply Ar.sn; k_extra "q") | (apply Ar.ch3'; k_extra "q") | (apply Ar.pm0; k_extra "q") | (apply Ar.pm1; k_extra "q") | (apply Ar.pm2; k_extra "q") | (apply Ar.pm3; k_extra "q") | (apply Ar.pm4; k_extra "q") | (apply Ar.pm5; k_extra "q")
  k_with "mine sub" => first
      | exact List.forall_mem_nil _
      | (refine' allC ?s1 ?s2; (case s1 => k_mem); (case s2 => walk_at "mine sub"))
      | (intro p hp; repeat (first | exact hp | apply List.Mem.tail))
  k_with "mine st" => (
      dsimp only [lawSt, lawBody, lawPack, lawEnv, lawScope, List.getD, List.getElem?_cons_zero, List.getElem?_cons_succ, Option.getD_some])
  trivial
noncomputable abbrev patOf9 (a : Str) : Str := esc a ++ Str.ofString "*[!/]*"
theorem lines_S09_1 : True := by
  k_with "mine done" => (refine stop_intro ?_)
  trivial
theorem lx_S09_0 : True := by
  k_with "k_all" => (first | exact hbo8 | exact hboC)
  trivial
theorem lines_S09_2 : True := by
  k_with "binaryOp Add str str" => (
      k_here
      k_dflt (refine add_str (fun t₄ tk₄ => ?_) (by have := sizeLine_eq; have := hpl2; omega)))
  k_with "call ref" => (
      k_here
      first
      | (with_reducible show wpAny _ _ (call (Value.ref 246) _) _ _ _
         k_dflt (refine use2 [_, _, _, _, _, _, _, _, _] (back ++ objs) (c_esc w a ta) (by k_asm) (by k_asm) (by k_asm) (by k_all) (by k_all) (by assumption) (by k_asm) (by exact rfl) hal (by dsimp +zetaDelta only [aA]; omega) (by dsimp +zetaDelta only [aA]; omega) ?_)
         intro v4 h4 tk4 ps4 F4 N4 ok4 G4 hv4 hn4
         (refine ex1E hv4 fun t4 qq1 => ?_; try clear hv4; rcases qq1 with rfl)
         simp only [List.cons_append, List.nil_append] at N4)
      | (with_reducible show wpAny _ _ (call (Value.ref 241) _) _ _ _
         k_dflt (refine use2 [_, _, _, _, _, _, _, _, _] (back ++ objs) (c_taken w hPat _ li lv kl listing hlv hly hll) (by k_asm) (by k_asm) (by k_asm) (by k_all) (by k_all) (by assumption) (by k_asm) (by exact rfl) (News.get (h₀ := h₀) (L := L) (by k_asm) (by repeat (first | exact List.mem_append_left _ hli | apply List.Mem.tail))) (by dsimp +zetaDelta only [aA]; omega) (by dsimp +zetaDelta only [aA]; omega) ?_)
         intro v5 h5 tk5 ps5 F5 N5 ok5 G5 hv5 hn5
         obtain ⟨r5, vs5, k5, hr5, hrn5, hA5⟩ := hv5
         simp only [List.cons_append, List.nil_append] at N5))
  trivial
theorem l_st9 (w : World) {mean : ExcName → Option Value} {mg mb : Str → Option Value} {A₀ : Around} {Q : Flow → Shared → Prop} {E : Value → Shared → Prop} {s : Shared} {h₀ : Heap} {L f li pl : Addr} {cd : Value} {gd : Option (List Code)} {dp un : Nat} {outer : List Env} {m : Str → Option Value} {o1 o2 o3 o4 o5 o6 : Obj} {ps : Array Value} {lv pv : List Value} {kl kp : Nat} {listing places : List Str} {back : List (Addr × Obj)} {resOf : Str → List Stp}
    (G : Gnd w mean mg mb A₀ h₀ outer (lawEnv L f cd) L) (h198 : @LT.lt Nat _ 198 h₀.objs.size) (hdp : dp + 60 ≤ recursionLimit) (hun : un + 1000 ≤ cLine) (ok : TabOk ps) (hbk : ∀ q ∈ back, apL L q.1)
    (hlv : Are IsS lv listing) (hll : listing.length ≤ 1000) (hly : ∀ y ∈ listing, y.length ≤ 1000) (hpv : Are IsS pv places) (hpz : places.length ≤ 1000) (hnd : places.Nodup) (hpa : ∀ a ∈ places, a.length ≤ 100 ∧ Pat (patOf9 a) (resOf a))
    (hli : (li, W.listOf lv.toArray kl) ∈ back) (hpl : (pl, W.listOf pv.toArray kp) ∈ back) (hmp : m (Str.ofString "places") = some (.ref pl)) (e2 : cellIs o2 (some (.ref li))) (eC : cellIs o4 none)
    (F : Fr h₀ L s.heap m) (N : News h₀ L s.heap (lLed L o1 o2 o3 o4 o5 o6 ps back))
    (k : ∀ D oD oc kvs objs ps' h' tk, cellIs oc (some (.ref D)) → apL L D → (∀ q ∈ back, @Ne Nat q.1 D) → (D == sysModules) = false → oD.IsDictOf (strKind PySem.Challenge.rw_ij0107_01.row.prog w) kvs → DMap L (fun a => taken (resOf a) listing) places kvs objs → TabOk ps' → Fr h₀ L h' m →
      News h₀ L h' (lLed L o1 o2 o3 oc o5 o6 ps' ((D, oD) :: (back ++ objs))) → Q .next { s with heap := h', toks := tk }) :
    wpAny (model PySem.Challenge.rw_ij0107_01.row.prog w) (lA dp un (lawEnv L f cd) outer gd) (exec (lawSt 9) (lawEnv L f cd)) Q E s := by
  have hLs := F.above
  have h198' : @LT.lt Nat _ 198 L := Nat.lt_of_lt_of_le h198 hLs
  have hq1 := hlv.length
  have hmod : @LT.lt Nat _ sysModules h₀.objs.size := modules_low G.T.nolimit
  obtain ⟨XK, T, B, hf, hke⟩ := id G
  rw [fn_if hmp] at F
  revert XK T
  k_fill
  intro XK T
  walk_at "mine st"
  refine envL ?_
  intro A1 e1
  dsimp only [lLed] at N
  refine wpAny_Assign_Name (DictComp_K (h₀ := h₀) (L := L) (m := fun y => if y = Str.ofString "places" then some (Value.ref pl) else m y) (by exact rfl) (by with_unfolding_all rfl) (by decide) (by rfl) (by decide) (by rfl) (nameX_L F rfl ?_)) (by with_unfolding_all rfl)
  refine ⟨pl, pv.toArray, _, DInv L o1 o2 o3 o4 o5 o6 back (fun a => taken (resOf a) listing) places, ?_, F, News.sub (small := lLed L o1 o2 o3 o4 o5 o6 ps (back ++ [])) N (by rw [List.append_nil]; exact fun p hp => hp), .inr ⟨W.listOf pv.toArray kp, ?_, rfl, _, rfl⟩, ⟨ps, [], ok, .nil⟩, ?_⟩
  · rw [List.size_toArray, hpv.length]; omega
  · rw [List.append_nil]; repeat (first | exact hpl | apply List.Mem.tail)
  (intro s₂ qr1; (refine ex1E qr1 fun g2 qq1 => ?_; try clear qr1; rcases qq1 with rfl))
  refine ⟨?_, ?_⟩
  · (intro i v I oI C oC D oD m₂ h3 tk3 kvs news E' hv qr15 hC hx3 hdD F3 N3 off3 ne3; obtain ⟨ps3, objs, ok3, hdm⟩ := qr15)
    (refine ex1E (hpv.get (by simpa using hv)) fun a qq1 => ?_; refine and2E qq1 fun hpi qq11 => ?_; try clear qq1; refine ex1E qq11 fun ta qq111 => ?_; try clear qq11; rcases qq111 with rfl)
    refine and2E (hpa a (List.mem_of_getElem? hpi)) fun hal hPat => ?_
    have hpl2 := hPat.len
    rw [Str.length_append] at hpl2
    dsimp only [lLed] at N3
    have off4 := off3.mem
    have offK := off3
    simp only [lLed, PyProof.Rows.LCg.Off3] at off3
    have hbo8 : ∀ q ∈ back ++ objs, q.1 ≠ 198 := fun q hq => by
      rcases List.mem_append.mp hq with hq | hq
      · exact (hbk q hq).1
      · exact (hdm.ap q hq).1
    k_steps
    have hold : ∀ q ∈ (I, oI) :: (C, oC) :: (D, oD) :: lLed L o1 o2 o3 o4 o5 o6 ps4 (back ++ objs), @Ne Nat r5 q.1 := fun q hq => new_ne hrn5 (N4 q hq).1
    have zP : ∀ q ∈ lLed L o1 o2 o3 o4 o5 o6 ps5 (back ++ objs), q ∈ (I, oI) :: (C, oC) :: (D, oD) :: lLed L o1 o2 o3 o4 o5 o6 ps5 (back ++ objs) := fun q hq => .tail _ (.tail _ (.tail _ hq))
    have hap5 : apL L r5 := lled_ap fun q hq => hold q (.tail _ (.tail _ (.tail _ hq)))
    have hI5 := hold (I, oI) (.head _)
    have hC5 := hold (C, oC) (.tail _ (.head _))
    have hD5 := hold (D, oD) (.tail _ (.tail _ (.head _)))
    have N6 := news_add (hn5 _ hrn5) hr5 N5
    refine ⟨a, _, _, lLed L o1 o2 o3 o4 o5 o6 ps5 (back ++ (r5, W.listOf (List.toArray vs5) k5) :: objs), strKind_is _ _ a ta, F5, ?_, Off3.of (lled_put ⟨hI5, hC5, hD5⟩ (lled_ps (P := fun b => b ≠ I ∧ b ≠ C ∧ b ≠ D) off4)), .inr ⟨W.listOf pv.toArray kp, ?_, rfl, _, rfl⟩, ⟨ps5, _, ok5, ?_⟩⟩
    · exact newsZ (N6 (I, oI) (.tail _ (.head _))) (newsZ (N6 (C, oC) (.tail _ (.tail _ (.head _)))) (newsZ (N6 (D, oD) (.tail _ (.tail _ (.tail _ (.head _))))) (lled_put (N6 _ (.head _)) fun q hq => N6 q (.tail _ (zP q hq)))))
    · repeat (first | exact List.mem_append_left _ hpl | apply List.Mem.tail)
    · rw [take_next hpi]
      exact hdm.snoc (take_notin hnd hpi) hap5 hA5
  · (intro D oD h3 tk3 kvs news qr6 hdD F3 N3 hof hLD; obtain ⟨ps3, objs, ok3, hdm⟩ := qr6)
    rw [show places.take pv.toArray.size = places by rw [List.size_toArray, hpv.length, List.take_length]] at hdm
    have o1m : ∀ q ∈ lLed L o1 o2 o3 o4 o5 o6 ps3 (back ++ objs), @Ne Nat q.1 D := off1_mem hof
    simp only [lLed, PyProof.Rows.LCg.Off1] at hof
    have hboC : ∀ q ∈ back ++ objs, q.1 ≠ L + 1 + 1 + 1 + 1 := fun q hq => by
      rcases List.mem_append.mp hq with hq | hq
      · exact (hbk q hq).2.2.2.2.1
      · exact (hdm.ap q hq).2.2.2.2.1
    dsimp only [lLed] at N3
    k_steps
    rename _ = Data.cell (some (Value.ref _)) => d9
    rename News _ _ _ _ => N9
    rename Fr _ _ _ _ => F9
    have hap : apL L D := ⟨by omega, by omega, by omega, by omega, by omega, by omega, by omega⟩
    refine k D oD _ kvs objs ps3 _ _ d9 hap (fun q hq => o1m q (by repeat (first | exact List.mem_append_left _ hq | apply List.Mem.tail))) (beq_eq_false_iff_ne.mpr (Nat.ne_of_gt (Nat.lt_trans hmod (Nat.lt_of_le_of_lt hLs hLD)))) hdD hdm ok3 (fr_eq F9 fun z => ?_) (News.sub N9 ?_)
    · by_cases hz : z = Str.ofString "places"
      · subst hz; rw [if_pos rfl, hmp]
      · rw [if_neg hz]
    · exact lled_join (by walk_at "mine sub") (allC (by k_mem) fun q hq => by repeat (first | exact hq | apply List.Mem.tail))
end Mine
end
section
open PySem PySem.W PySem.Spec PySem.Calls PyProof.Rows PyProof.Rows.LCg
set_option maxRecDepth 100000
set_option maxHeartbeats 2000000
namespace Mine

theorem lines_S10_0 : True := by
  k_with_none
  k_with "q" => (all_goals first | assumption | with_unfolding_all exact rfl)
  k_with "ar" => with_reducible first | assumption | (apply Ar.rm1; k_extra "q") | (apply Ar.sz; k_extra "q") | (apply Ar.sn; k_extra "q") | (apply Ar.ch3'; k_extra "q") | (apply Ar.pm0; k_extra "q") | (apply Ar.pm1; k_extra "q") | (apply Ar.pm2; k_extra "q") | (apply Ar.pm3; k_extra "q") | (apply Ar.pm4; k_extra "q") | (apply Ar.pm5; k_extra "q")
  k_with "mine sub" => first
      | exact List.forall_mem_nil _
      | (refine' allC ?s1 ?s2; (case s1 => k_mem); (case s2 => walk_at "mine sub"))
      | (intro p hp; repeat (first | exact hp | apply List.Mem.tail))
  k_with "mine st" => (
      dsimp only [lawSt, lawBody, lawPack, lawEnv, lawScope, List.getD, List.getElem?_cons_zero, List.getElem?_cons_succ, Option.getD_some])
  trivial
noncomputable abbrev patOf10 (a : Str) : Str := esc a ++ Str.ofString "*[!/]/[!/]*"
theorem lines_S10_1 : True := by
  k_with "mine done" => (refine stop_intro ?_)
  trivial
theorem lx_S10_0 : True := by
  k_with "k_all" => (first | exact hbo8 | exact hboC)
  trivial
theorem lines_S10_2 : True := by
  k_with "binaryOp Add str str" => (
      k_here
      k_dflt (refine add_str (fun t₄ tk₄ => ?_) (by have := sizeLine_eq; have := hpl2; omega)))
  k_with "call ref" => (
      k_here
      first
      | (with_reducible show wpAny _ _ (call (Value.ref 246) _) _ _ _
         k_dflt (refine use2 [_, _, _, _, _, _, _, _, _] (back ++ objs) (c_esc w a ta) (by k_asm) (by k_asm) (by k_asm) (by k_all) (by k_all) (by assumption) (by k_asm) (by exact rfl) hal (by dsimp +zetaDelta only [aA]; omega) (by dsimp +zetaDelta only [aA]; omega) ?_)
         intro v4 h4 tk4 ps4 F4 N4 ok4 G4 hv4 hn4
         (refine ex1E hv4 fun t4 qq1 => ?_; try clear hv4; rcases qq1 with rfl)
         simp only [List.cons_append, List.nil_append] at N4)
      | (with_reducible show wpAny _ _ (call (Value.ref 241) _) _ _ _
         k_dflt (refine use2 [_, _, _, _, _, _, _, _, _] (back ++ objs) (c_taken w hPat _ li lv kl listing hlv hly hll) (by k_asm) (by k_asm) (by k_asm) (by k_all) (by k_all) (by assumption) (by k_asm) (by exact rfl) (News.get (h₀ := h₀) (L := L) (by k_asm) (by repeat (first | exact List.mem_append_left _ hli | apply List.Mem.tail))) (by dsimp +zetaDelta only [aA]; omega) (by dsimp +zetaDelta only [aA]; omega) ?_)
         intro v5 h5 tk5 ps5 F5 N5 ok5 G5 hv5 hn5
         obtain ⟨r5, vs5, k5, hr5, hrn5, hA5⟩ := hv5
         simp only [List.cons_append, List.nil_append] at N5))
  trivial
theorem l_st10 (w : World) {mean : ExcName → Option Value} {mg mb : Str → Option Value} {A₀ : Around} {Q : Flow → Shared → Prop} {E : Value → Shared → Prop} {s : Shared} {h₀ : Heap} {L f li pl : Addr} {cd : Value} {gd : Option (List Code)} {dp un : Nat} {outer : List Env} {m : Str → Option Value} {o1 o2 o3 o4 o5 o6 : Obj} {ps : Array Value} {lv pv : List Value} {kl kp : Nat} {listing places : List Str} {back : List (Addr × Obj)} {resOf : Str → List Stp}
    (G : Gnd w mean mg mb A₀ h₀ outer (lawEnv L f cd) L) (h198 : @LT.lt Nat _ 198 h₀.objs.size) (hdp : dp + 60 ≤ recursionLimit) (hun : un + 1000 ≤ cLine) (ok : TabOk ps) (hbk : ∀ q ∈ back, apL L q.1)
    (hlv : Are IsS lv listing) (hll : listing.length ≤ 1000) (hly : ∀ y ∈ listing, y.length ≤ 1000) (hpv : Are IsS pv places) (hpz : places.length ≤ 1000) (hnd : places.Nodup) (hpa : ∀ a ∈ places, a.length ≤ 100 ∧ Pat (patOf10 a) (resOf a))
    (hli : (li, W.listOf lv.toArray kl) ∈ back) (hpl : (pl, W.listOf pv.toArray kp) ∈ back) (hmp : m (Str.ofString "places") = some (.ref pl)) (e2 : cellIs o2 (some (.ref li))) (eC : cellIs o5 none)
    (F : Fr h₀ L s.heap m) (N : News h₀ L s.heap (lLed L o1 o2 o3 o4 o5 o6 ps back))
    (k : ∀ D oD oc kvs objs ps' h' tk, cellIs oc (some (.ref D)) → apL L D → (∀ q ∈ back, @Ne Nat q.1 D) → (D == sysModules) = false → oD.IsDictOf (strKind PySem.Challenge.rw_ij0107_01.row.prog w) kvs → DMap L (fun a => taken (resOf a) listing) places kvs objs → TabOk ps' → Fr h₀ L h' m →
      News h₀ L h' (lLed L o1 o2 o3 o4 oc o6 ps' ((D, oD) :: (back ++ objs))) → Q .next { s with heap := h', toks := tk }) :
    wpAny (model PySem.Challenge.rw_ij0107_01.row.prog w) (lA dp un (lawEnv L f cd) outer gd) (exec (lawSt 10) (lawEnv L f cd)) Q E s := by
  have hLs := F.above
  have h198' : @LT.lt Nat _ 198 L := Nat.lt_of_lt_of_le h198 hLs
  have hq1 := hlv.length
  have hmod : @LT.lt Nat _ sysModules h₀.objs.size := modules_low G.T.nolimit
  obtain ⟨XK, T, B, hf, hke⟩ := id G
  rw [fn_if hmp] at F
  revert XK T
  k_fill
  intro XK T
  walk_at "mine st"
  refine envL ?_
  intro A1 e1
  dsimp only [lLed] at N
  refine wpAny_Assign_Name (DictComp_K (h₀ := h₀) (L := L) (m := fun y => if y = Str.ofString "places" then some (Value.ref pl) else m y) (by exact rfl) (by with_unfolding_all rfl) (by decide) (by rfl) (by decide) (by rfl) (nameX_L F rfl ?_)) (by with_unfolding_all rfl)
  refine ⟨pl, pv.toArray, _, DInv L o1 o2 o3 o4 o5 o6 back (fun a => taken (resOf a) listing) places, ?_, F, News.sub (small := lLed L o1 o2 o3 o4 o5 o6 ps (back ++ [])) N (by rw [List.append_nil]; exact fun p hp => hp), .inr ⟨W.listOf pv.toArray kp, ?_, rfl, _, rfl⟩, ⟨ps, [], ok, .nil⟩, ?_⟩
  · rw [List.size_toArray, hpv.length]; omega
  · rw [List.append_nil]; repeat (first | exact hpl | apply List.Mem.tail)
  (intro s₂ qr1; (refine ex1E qr1 fun g2 qq1 => ?_; try clear qr1; rcases qq1 with rfl))
  refine ⟨?_, ?_⟩
  · (intro i v I oI C oC D oD m₂ h3 tk3 kvs news E' hv qr15 hC hx3 hdD F3 N3 off3 ne3; obtain ⟨ps3, objs, ok3, hdm⟩ := qr15)
    (refine ex1E (hpv.get (by simpa using hv)) fun a qq1 => ?_; refine and2E qq1 fun hpi qq11 => ?_; try clear qq1; refine ex1E qq11 fun ta qq111 => ?_; try clear qq11; rcases qq111 with rfl)
    refine and2E (hpa a (List.mem_of_getElem? hpi)) fun hal hPat => ?_
    have hpl2 := hPat.len
    rw [Str.length_append] at hpl2
    dsimp only [lLed] at N3
    have off4 := off3.mem
    have offK := off3
    simp only [lLed, PyProof.Rows.LCg.Off3] at off3
    have hbo8 : ∀ q ∈ back ++ objs, q.1 ≠ 198 := fun q hq => by
      rcases List.mem_append.mp hq with hq | hq
      · exact (hbk q hq).1
      · exact (hdm.ap q hq).1
    k_steps
    have hold : ∀ q ∈ (I, oI) :: (C, oC) :: (D, oD) :: lLed L o1 o2 o3 o4 o5 o6 ps4 (back ++ objs), @Ne Nat r5 q.1 := fun q hq => new_ne hrn5 (N4 q hq).1
    have zP : ∀ q ∈ lLed L o1 o2 o3 o4 o5 o6 ps5 (back ++ objs), q ∈ (I, oI) :: (C, oC) :: (D, oD) :: lLed L o1 o2 o3 o4 o5 o6 ps5 (back ++ objs) := fun q hq => .tail _ (.tail _ (.tail _ hq))
    have hap5 : apL L r5 := lled_ap fun q hq => hold q (.tail _ (.tail _ (.tail _ hq)))
    have hI5 := hold (I, oI) (.head _)
    have hC5 := hold (C, oC) (.tail _ (.head _))
    have hD5 := hold (D, oD) (.tail _ (.tail _ (.head _)))
    have N6 := news_add (hn5 _ hrn5) hr5 N5
    refine ⟨a, _, _, lLed L o1 o2 o3 o4 o5 o6 ps5 (back ++ (r5, W.listOf (List.toArray vs5) k5) :: objs), strKind_is _ _ a ta, F5, ?_, Off3.of (lled_put ⟨hI5, hC5, hD5⟩ (lled_ps (P := fun b => b ≠ I ∧ b ≠ C ∧ b ≠ D) off4)), .inr ⟨W.listOf pv.toArray kp, ?_, rfl, _, rfl⟩, ⟨ps5, _, ok5, ?_⟩⟩
    · exact newsZ (N6 (I, oI) (.tail _ (.head _))) (newsZ (N6 (C, oC) (.tail _ (.tail _ (.head _)))) (newsZ (N6 (D, oD) (.tail _ (.tail _ (.tail _ (.head _))))) (lled_put (N6 _ (.head _)) fun q hq => N6 q (.tail _ (zP q hq)))))
    · repeat (first | exact List.mem_append_left _ hpl | apply List.Mem.tail)
    · rw [take_next hpi]
      exact hdm.snoc (take_notin hnd hpi) hap5 hA5
  · (intro D oD h3 tk3 kvs news qr6 hdD F3 N3 hof hLD; obtain ⟨ps3, objs, ok3, hdm⟩ := qr6)
    rw [show places.take pv.toArray.size = places by rw [List.size_toArray, hpv.length, List.take_length]] at hdm
    have o1m : ∀ q ∈ lLed L o1 o2 o3 o4 o5 o6 ps3 (back ++ objs), @Ne Nat q.1 D := off1_mem hof
    simp only [lLed, PyProof.Rows.LCg.Off1] at hof
    have hboC : ∀ q ∈ back ++ objs, q.1 ≠ L + 1 + 1 + 1 + 1 + 1 := fun q hq => by
      rcases List.mem_append.mp hq with hq | hq
      · exact (hbk q hq).2.2.2.2.2.1
      · exact (hdm.ap q hq).2.2.2.2.2.1
    dsimp only [lLed] at N3
    k_steps
    rename _ = Data.cell (some (Value.ref _)) => d9
    rename News _ _ _ _ => N9
    rename Fr _ _ _ _ => F9
    have hap : apL L D := ⟨by omega, by omega, by omega, by omega, by omega, by omega, by omega⟩
    refine k D oD _ kvs objs ps3 _ _ d9 hap (fun q hq => o1m q (by repeat (first | exact List.mem_append_left _ hq | apply List.Mem.tail))) (beq_eq_false_iff_ne.mpr (Nat.ne_of_gt (Nat.lt_trans hmod (Nat.lt_of_le_of_lt hLs hLD)))) hdD hdm ok3 (fr_eq F9 fun z => ?_) (News.sub N9 ?_)
    · by_cases hz : z = Str.ofString "places"
      · subst hz; rw [if_pos rfl, hmp]
      · rw [if_neg hz]
    · exact lled_join (by walk_at "mine sub") (allC (by k_mem) fun q hq => by repeat (first | exact hq | apply List.Mem.tail))
end Mine
end
section
open PySem PySem.W PySem.Spec PySem.Calls PyProof.Rows PyProof.Rows.LCg
set_option maxRecDepth 100000
set_option maxHeartbeats 2000000
namespace Mine

theorem lines_S11_0 : True := by
  k_with_none
  k_with "q" => (all_goals first | assumption | with_unfolding_all exact rfl)
  k_with "ar" => with_reducible first | assumption | (apply Ar.rm1; k_extra "q") | (apply Ar.sn; k_extra "q") | (apply Ar.ch3'; k_extra "q") | (apply Ar.pm0; k_extra "q") | (apply Ar.pm1; k_extra "q") | (apply Ar.pm2; k_extra "q") | (apply Ar.pm3; k_extra "q") | (apply Ar.pm4; k_extra "q") | (apply Ar.pm5; k_extra "q")
  k_with "mine sub" => first
      | exact List.forall_mem_nil _
      | (refine' allC ?s1 ?s2; (case s1 => k_mem); (case s2 => walk_at "mine sub"))
      | (intro p hp; repeat (first | exact hp | apply List.Mem.tail))
  k_with "mine st" => (
      dsimp only [lawSt, lawBody, lawPack, lawEnv, lawScope, List.getD, List.getElem?_cons_zero, List.getElem?_cons_succ, Option.getD_some])
  k_with "mine done" => (refine stop_intro ?_)
  trivial
theorem lx_S11_0 : True := by
  k_with "k_all" => (first | exact hbo8 | exact hboC)
  trivial
theorem lines_S11_1 : True := by
  k_with "subscriptTail" => (
      k_here
      with_reducible show wpAny _ _ (subscriptTail _ _ (Value.ref _) (Value.str _ _)) _ _ _
      k_dflt (first
      | (refine kda_item (d := ud) (h₀ := h₀) (L := L) (by k_asm) (by repeat (first | exact List.mem_append_left _ hud | apply List.Mem.tail)) hdU (strKind_is _ _ a _) hvU ?_ (by with_unfolding_all rfl) (by intro _; with_unfolding_all rfl))
      | (refine kda_item (d := lo) (h₀ := h₀) (L := L) (by k_asm) (by repeat (first | exact List.mem_append_left _ hlo | apply List.Mem.tail)) hdL (strKind_is _ _ a _) hvL ?_ (by with_unfolding_all rfl) (by intro _; with_unfolding_all rfl))))
  k_with "call ref" => (
      k_here
      (with_reducible show wpAny _ _ (call (Value.ref 172) _) _ _ _)
      k_dflt (refine diff_callK [_, _, _, _, _, _, _, _, _] (back ++ objs) (Lm := rU) (Ls := rL) (xv := vsU) (yv := vsL) (km := nU) (ks := nL) G (by exact rfl) (by dsimp +zetaDelta only [aA]; omega) (by dsimp +zetaDelta only [aA]; omega) (by k_asm) (by k_asm) (by k_all) (by k_all) ok3 (News.get (h₀ := h₀) (L := L) (by k_asm) (by repeat (first | exact List.mem_append_left _ (hsU _ hmU) | apply List.Mem.tail))) (News.get (h₀ := h₀) (L := L) (by k_asm) (by repeat (first | exact List.mem_append_left _ (hsL _ hmL) | apply List.Mem.tail))) hAL hlL ?_)
      intro X dx I4 B4 S4 oI4 oS4 n4 ps5 h4 tk4 F4 N4 ok5 ho4 hI4 hso4 hn4 hX4
      simp only [List.cons_append, List.nil_append] at N4 ho4)
  k_with "call type:list" => (
      k_here
      k_dflt (refine ff_list G (by exact rfl) (by dsimp +zetaDelta only [aA]; omega) (by dsimp +zetaDelta only [aA]; omega) (by exact rfl) F4 N4 ho4 (.inr ⟨W.listOf vsU.toArray nU, (by repeat (first | exact List.mem_append_left _ (hsU _ hmU) | apply List.Mem.tail)), rfl, _, rfl⟩) hI4 hAU hso4 hn4 hlU ?_)
      intro r5 vs5 k5 h5 tk5 hA5 F5 N6 l6)
  trivial
theorem l_st11 (w : World) {mean : ExcName → Option Value} {mg mb : Str → Option Value} {A₀ : Around} {Q : Flow → Shared → Prop} {E : Value → Shared → Prop} {s : Shared} {h₀ : Heap} {L f pl : Addr} {cd : Value} {gd : Option (List Code)} {dp un : Nat} {outer : List Env} {m : Str → Option Value} {o1 o2 o3 o4 o5 o6 : Obj} {ps : Array Value} {pv : List Value} {kp : Nat} {places : List Str} {back objsU objsL : List (Addr × Obj)} {ud lo : Addr} {odU odL : Obj} {kvsU kvsL : List (Str × Value)} {TU TL : Str → List Str}
    (G : Gnd w mean mg mb A₀ h₀ outer (lawEnv L f cd) L) (h198 : @LT.lt Nat _ 198 h₀.objs.size) (hdp : dp + 60 ≤ recursionLimit) (hun : un + 1000 ≤ cLine) (ok : TabOk ps) (hbk : ∀ q ∈ back, apL L q.1)
    (hpv : Are IsS pv places) (hpz : places.length ≤ 1000) (hnd : places.Nodup) (hud : (ud, odU) ∈ back) (hlo : (lo, odL) ∈ back) (hdU : odU.IsDictOf (strKind PySem.Challenge.rw_ij0107_01.row.prog w) kvsU) (hdL : odL.IsDictOf (strKind PySem.Challenge.rw_ij0107_01.row.prog w) kvsL)
    (hmapU : DMap L TU places kvsU objsU) (hmapL : DMap L TL places kvsL objsL) (hsU : ∀ q ∈ objsU, q ∈ back) (hsL : ∀ q ∈ objsL, q ∈ back) (hTU : ∀ a, (TU a).length ≤ 900) (hTL : ∀ a, (TL a).length ≤ 900)
    (hpl : (pl, W.listOf pv.toArray kp) ∈ back) (hmp : m (Str.ofString "places") = some (.ref pl)) (e4 : cellIs o4 (some (.ref ud))) (e5 : cellIs o5 (some (.ref lo))) (eC : cellIs o6 none)
    (F : Fr h₀ L s.heap m) (N : News h₀ L s.heap (lLed L o1 o2 o3 o4 o5 o6 ps back))
    (k : ∀ D oD oc kvs objs ps' h' tk, cellIs oc (some (.ref D)) → apL L D → (∀ q ∈ back, @Ne Nat q.1 D) → (D == sysModules) = false → oD.IsDictOf (strKind PySem.Challenge.rw_ij0107_01.row.prog w) kvs → DMap L (fun a => minus (TU a) (TL a)) places kvs objs → TabOk ps' → Fr h₀ L h' m →
      News h₀ L h' (lLed L o1 o2 o3 o4 o5 oc ps' ((D, oD) :: (back ++ objs))) → Q .next { s with heap := h', toks := tk }) :
    wpAny (model PySem.Challenge.rw_ij0107_01.row.prog w) (lA dp un (lawEnv L f cd) outer gd) (exec (lawSt 11) (lawEnv L f cd)) Q E s := by
  have hLs := F.above
  have h198' : @LT.lt Nat _ 198 L := Nat.lt_of_lt_of_le h198 hLs
  have hmod : @LT.lt Nat _ sysModules h₀.objs.size := modules_low G.T.nolimit
  obtain ⟨XK, T, B, hf, hke⟩ := id G
  rw [fn_if hmp] at F
  revert XK T
  k_fill
  intro XK T
  walk_at "mine st"
  refine envL ?_
  intro A1 e1
  dsimp only [lLed] at N
  refine wpAny_Assign_Name (DictComp_K (h₀ := h₀) (L := L) (m := fun y => if y = Str.ofString "places" then some (Value.ref pl) else m y) (by exact rfl) (by with_unfolding_all rfl) (by decide) (by rfl) (by decide) (by rfl) (nameX_L F rfl ?_)) (by with_unfolding_all rfl)
  refine ⟨pl, pv.toArray, _, DInv L o1 o2 o3 o4 o5 o6 back (fun a => minus (TU a) (TL a)) places, ?_, F, News.sub (small := lLed L o1 o2 o3 o4 o5 o6 ps (back ++ [])) N (by rw [List.append_nil]; exact fun p hp => hp), .inr ⟨W.listOf pv.toArray kp, ?_, rfl, _, rfl⟩, ⟨ps, [], ok, .nil⟩, ?_⟩
  · rw [List.size_toArray, hpv.length]; omega
  · rw [List.append_nil]; repeat (first | exact hpl | apply List.Mem.tail)
  (intro s₂ qr1; (refine ex1E qr1 fun g2 qq1 => ?_; try clear qr1; rcases qq1 with rfl))
  refine ⟨?_, ?_⟩
  · (intro i v I oI C oC D oD m₂ h3 tk3 kvs news E' hv qr15 hC hx3 hdD F3 N3 off3 ne3; obtain ⟨ps3, objs, ok3, hdm⟩ := qr15)
    (refine ex1E (hpv.get (by simpa using hv)) fun a qq1 => ?_; refine and2E qq1 fun hpi qq11 => ?_; try clear qq1; refine ex1E qq11 fun ta qq111 => ?_; try clear qq11; rcases qq111 with rfl)
    (refine ex3E (hmapU.get (List.mem_of_getElem? hpi)) fun rU vsU nU qq3 => ?_; refine and3E qq3 fun hvU hmU hAU => ?_; try clear qq3)
    (refine ex3E (hmapL.get (List.mem_of_getElem? hpi)) fun rL vsL nL qq3 => ?_; refine and3E qq3 fun hvL hmL hAL => ?_; try clear qq3)
    have hlU : vsU.length ≤ 900 := by rw [hAU.length]; exact hTU a
    have hlL : vsL.length ≤ 900 := by rw [hAL.length]; exact hTL a
    dsimp only [lLed] at N3
    have off4 := off3.mem
    have offK := off3
    simp only [lLed, PyProof.Rows.LCg.Off3] at off3
    have hbo8 : ∀ q ∈ back ++ objs, q.1 ≠ 198 := fun q hq => by
      rcases List.mem_append.mp hq with hq | hq
      · exact (hbk q hq).1
      · exact (hdm.ap q hq).1
    k_steps
    have hold : ∀ q ∈ (I, oI) :: (C, oC) :: (D, oD) :: lLed L o1 o2 o3 o4 o5 o6 ps5 (back ++ objs), @Ne Nat r5 q.1 := fun q hq => Nat.ne_of_gt (l6 q hq)
    have zP : ∀ q ∈ lLed L o1 o2 o3 o4 o5 o6 ps5 (back ++ objs), q ∈ (I, oI) :: (C, oC) :: (D, oD) :: lLed L o1 o2 o3 o4 o5 o6 ps5 (back ++ objs) := fun q hq => .tail _ (.tail _ (.tail _ hq))
    have hap5 : apL L r5 := lled_ap fun q hq => hold q (.tail _ (.tail _ (.tail _ hq)))
    have hI5 := hold (I, oI) (.head _)
    have hC5 := hold (C, oC) (.tail _ (.head _))
    have hD5 := hold (D, oD) (.tail _ (.tail _ (.head _)))
    refine ⟨a, _, _, lLed L o1 o2 o3 o4 o5 o6 ps5 (back ++ (r5, W.listOf (List.toArray vs5) k5) :: objs), strKind_is _ _ a ta, F5, ?_, Off3.of (lled_put ⟨hI5, hC5, hD5⟩ (lled_ps (P := fun b => b ≠ I ∧ b ≠ C ∧ b ≠ D) off4)), .inr ⟨W.listOf pv.toArray kp, ?_, rfl, _, rfl⟩, ⟨ps5, _, ok5, ?_⟩⟩
    · exact newsZ (N6 (I, oI) (.tail _ (.head _))) (newsZ (N6 (C, oC) (.tail _ (.tail _ (.head _)))) (newsZ (N6 (D, oD) (.tail _ (.tail _ (.tail _ (.head _))))) (lled_put (N6 _ (.head _)) fun q hq => N6 q (.tail _ (zP q hq)))))
    · repeat (first | exact List.mem_append_left _ hpl | apply List.Mem.tail)
    · rw [take_next hpi]
      exact hdm.snoc (take_notin hnd hpi) hap5 hA5
  · (intro D oD h3 tk3 kvs news qr6 hdD F3 N3 hof hLD; obtain ⟨ps3, objs, ok3, hdm⟩ := qr6)
    rw [show places.take pv.toArray.size = places by rw [List.size_toArray, hpv.length, List.take_length]] at hdm
    have o1m : ∀ q ∈ lLed L o1 o2 o3 o4 o5 o6 ps3 (back ++ objs), @Ne Nat q.1 D := off1_mem hof
    simp only [lLed, PyProof.Rows.LCg.Off1] at hof
    have hboC : ∀ q ∈ back ++ objs, q.1 ≠ L + 1 + 1 + 1 + 1 + 1 + 1 := fun q hq => by
      rcases List.mem_append.mp hq with hq | hq
      · exact (hbk q hq).2.2.2.2.2.2
      · exact (hdm.ap q hq).2.2.2.2.2.2
    dsimp only [lLed] at N3
    k_steps
    rename _ = Data.cell (some (Value.ref _)) => d9
    rename News _ _ _ _ => N9
    rename Fr _ _ _ _ => F9
    have hap : apL L D := ⟨by omega, by omega, by omega, by omega, by omega, by omega, by omega⟩
    refine k D oD _ kvs objs ps3 _ _ d9 hap (fun q hq => o1m q (by repeat (first | exact List.mem_append_left _ hq | apply List.Mem.tail))) (beq_eq_false_iff_ne.mpr (Nat.ne_of_gt (Nat.lt_trans hmod (Nat.lt_of_le_of_lt hLs hLD)))) hdD hdm ok3 (fr_eq F9 fun z => ?_) (News.sub N9 ?_)
    · by_cases hz : z = Str.ofString "places"
      · subst hz; rw [if_pos rfl, hmp]
      · rw [if_neg hz]
    · exact lled_join (by walk_at "mine sub") (allC (by k_mem) fun q hq => by repeat (first | exact hq | apply List.Mem.tail))
end Mine
end
section
open PySem PySem.W PySem.Spec PySem.Calls PyProof.Rows PyProof.Rows.LCg
set_option maxRecDepth 100000
set_option maxHeartbeats 2000000
namespace Mine
theorem lines_S12a_0 : True := by
  k_with_none
  k_with "q" => (all_goals first | assumption | with_unfolding_all exact rfl)
  k_with "ar" => with_reducible first | assumption | (apply Ar.sze; k_extra "q") | (apply Ar.snq; k_extra "q") | (apply Ar.rl1; k_extra "q")
  k_with "mine sub" => first
      | exact List.forall_mem_nil _
      | (refine' allC ?s1 ?s2; (case s1 => k_mem); (case s2 => walk_at "mine sub"))
      | (intro p hp; repeat (first | exact hp | apply List.Mem.tail))
  k_with "mine st" => (
      dsimp only [lawFor, lawForBody, lawSt, lawBody, lawPack, lawEnv, lawScope, List.getD, List.getElem?_cons_zero, List.getElem?_cons_succ, Option.getD_some])
  k_with "CompEnd" => (refine stop_intro ?_)
  k_with "eval ListComp" => (refine stop_intro ?_)
  trivial
noncomputable def parOf (x : Str) : Str := Txt.join (Str.ofString "") [(Txt.rpartition (Txt.slice x none (some (-1))) (Str.ofString "/")).1, (Txt.rpartition (Txt.slice x none (some (-1))) (Str.ofString "/")).2.1]
theorem lines_S12a_1 : True := by
  k_with "subscriptTail" => (
      k_here
      with_reducible show wpAny _ _ (subscriptTail _ (Expr.Slice none (some _) none _) (Value.ref _) (Value.ref _)) _ _ _
      k_dflt (refine slice_tuple_to2 (h₀ := h₀) (L := L) (by k_asm) (by k_asm) (News.isTup (by k_asm) (by k_mem)) ?_ (by with_unfolding_all rfl) (by intro _; with_unfolding_all rfl))
      intro D8 h8 F8 N8 l8)
  k_with "call builtin:str.join" => (
      k_here
      k_dflt (refine join_tuple (News.isTup N8 (.head _)) (.cons _ _ (.cons _ _ .nil)) hjo ?_)
      intro t9 k9)
  k_with "compareOp Eq str str" => (
      k_here
      k_dflt (refine eq_strB hq ?_))
  k_with "subscriptTail" => (
      k_here
      with_reducible show wpAny _ _ (subscriptTail _ _ (Value.ref _) (Value.str _ _)) _ _ _
      k_dflt (refine kda_item (d := be) (h₀ := h₀) (L := L) (by k_asm) (by repeat (first | exact hbe | apply List.Mem.tail)) hdB (strKind_is _ _ a _) hvB ?_ (by with_unfolding_all rfl) (by intro _; with_unfolding_all rfl)))
  k_with "compareOp NotEq ref ref" => (
      k_here
      k_dflt (refine ne_strs (News.isList (h₀ := h₀) (L := L) (by k_asm) (by repeat (first | exact hmB | apply List.Mem.tail))) (News.isList (h₀ := h₀) (L := L) (by k_asm) (.head _)) hAB hys oB (by rw [← hP4]; exact oB) (by dsimp +zetaDelta only [aA]; omega) ?_)
      k_whole)
  trivial
theorem l_f0 (w : World) {mean : ExcName → Option Value} {mg mb : Str → Option Value} {A₀ : Around} {Q : Flow → Shared → Prop} {E : Value → Shared → Prop} {s : Shared} {h₀ : Heap} {L f li be rB : Addr} {cd : Value} {gd : Option (List Code)} {dp un : Nat} {outer : List Env} {m : Str → Option Value} {o1 o2 o3 o4 o5 o6 odB : Obj} {ps : Array Value} {lv vsB : List Value} {kl nB : Nat} {listing below : List Str} {back : List (Addr × Obj)} {kvsB : List (Str × Value)} {a : Str} {ta : Tok}
    (G : Gnd w mean mg mb A₀ h₀ outer (lawEnv L f cd) L) (h198 : @LT.lt Nat _ 198 h₀.objs.size) (hdp : dp + 60 ≤ recursionLimit) (hun : un + 1000 ≤ cLine) (hbk : ∀ q ∈ back, apL L q.1)
    (hlv : Are IsS lv listing) (hll : listing.length ≤ 200) (hne : ∀ x ∈ listing, x.cps.toList ≠ []) (hly : ∀ y ∈ listing, y.length ≤ 1000) 
    (hbe : (be, odB) ∈ back) (hdB : odB.IsDictOf (strKind PySem.Challenge.rw_ij0107_01.row.prog w) kvsB) (hvB : valueAt kvsB a = some (.ref rB)) (hmB : (rB, W.listOf vsB.toArray nB) ∈ back) (hAB : Are IsS vsB below) (oB : ∀ x ∈ below, PyData.strOk x = true)
    (hli : (li, W.listOf lv.toArray kl) ∈ back) (e2 : cellIs o2 (some (.ref li))) (e3 : cellIs o3 (some (.str a ta))) (e6 : cellIs o6 (some (.ref be))) (hP4 : below = listing.filter fun x => parOf x == a)
    (F : Fr h₀ L s.heap m) (N : News h₀ L s.heap (lLed L o1 o2 o3 o4 o5 o6 ps back))
    (k : ∀ h' tk, Fr h₀ L h' m → News h₀ L h' (lLed L o1 o2 o3 o4 o5 o6 ps back) → Q .next { s with heap := h', toks := tk }) :
    wpAny (model PySem.Challenge.rw_ij0107_01.row.prog w) (lA dp un (lawEnv L f cd) outer gd) (exec (lawFor 0) (lawEnv L f cd)) Q E s := by
  have hLs := F.above
  have h198' : @LT.lt Nat _ 198 L := Nat.lt_of_lt_of_le h198 hLs
  have hq1 := hlv.length
  obtain ⟨XK, T, B, hf, hke⟩ := id G
  revert XK T
  k_fill
  intro XK T
  walk_at "mine st"
  refine envL ?_
  intro A1 e1
  dsimp only [lLed] at N
  k_steps
  unfold Stop
  refine PyProof.Rows.LCt.ListComp_T (F₀ := by k_asm) (by with_unfolding_all rfl) (by decide) (by rfl) (by decide) (by rfl) (nameX_C N (by rfl) (by k_mem) e2 ?_ rfl rfl)
  refine .inl ⟨li, lv.toArray, _, rfl, by exact rfl, F, N, .inr ⟨W.listOf lv.toArray kl, by repeat (first | exact hli | apply List.Mem.tail), rfl, _, rfl⟩, by (have q1 := sizeLine_eq; rw [List.size_toArray]; omega), ?_⟩
  (intro s₂ qr1; (refine ex1E qr1 fun g2 qq1 => ?_; try clear qr1; rcases qq1 with rfl))
  refine restT_fun (xs := listing) (R := IsS) (p := fun x => parOf x == a) (g := id) (R' := IsS) (Inv := fun nw => nw = _) (by simpa using hlv.length.symm) (fun i v _ hv => hlv.get (by simpa using hv)) rfl ?_ ?_
  · (intro y vy I oI C oC D m₂ ys h3 tk3 nw3 E' hyt qr14 qr15 hC hx3 F3 N3 off3 ne3; (refine ex1E qr14 fun ty qq1 => ?_; try clear qr14; rcases qq1 with rfl); rcases qr15 with rfl)
    have offK := off3
    simp only [PyProof.Rows.LCg.Off3] at off3
    have hy : y.length ≤ 5000 := Nat.le_trans (hly y hyt) (by decide)
    have hjo : ([(Txt.rpartition (Txt.slice y none (some (-1))) (Str.ofString "/")).1, (Txt.rpartition (Txt.slice y none (some (-1))) (Str.ofString "/")).2.1].map (·.length)).sum + 2 * (Str.ofString "").length ≤ 16777216 := by
      have h1 := PyProof.Rows.fact_rpartition (Txt.slice y none (some (-1))) (Str.ofString "/")
      have h2 := Txt.slice_le y none (some (-1))
      have h3 : (Str.ofString "").length = 0 := by decide +kernel
      simp only [List.map_cons, List.map_nil, List.sum_cons, List.sum_nil]
      omega
    cases hq : parOf y == a with
    | true =>
      k_steps
      unfold Stop
      exact PyProof.Rows.LCg.CompEnd.intro (by k_asm) (by k_asm) _ (by walk_at "mine sub") (by exact offK) (.inr ⟨W.listOf lv.toArray kl, by repeat (first | exact hli | apply List.Mem.tail), rfl, _, rfl⟩) ⟨rfl, _, rfl⟩
    | false =>
      k_steps
      unfold Stop
      exact PyProof.Rows.LCg.CompEnd.intro (by k_asm) (by k_asm) _ (by walk_at "mine sub") (by exact offK) (.inr ⟨W.listOf lv.toArray kl, by repeat (first | exact hli | apply List.Mem.tail), rfl, _, rfl⟩) rfl
  · (intro ys nw qr2 hys D h3 tk3 F3 N3 off3; rcases qr2 with rfl)
    simp only [PyProof.Rows.LCg.Off1] at off3
    rw [List.map_id] at hys
    dsimp only
    k_steps
    exact k h3 tk3 F3 (News.sub N3 (by walk_at "mine sub"))
end Mine
end
section
open PySem PySem.W PySem.Spec PySem.Calls PyProof.Rows PyProof.Rows.LCg
set_option maxRecDepth 100000
set_option maxHeartbeats 2000000
namespace Mine
theorem lines_S12b_0 : True := by
  k_with_none
  k_with "q" => (all_goals first | assumption | with_unfolding_all exact rfl)
  k_with "ar" => with_reducible first | assumption | (apply Ar.le0; k_extra "q") | (apply Ar.pg0; k_extra "q") | (apply Ar.pg1; k_extra "q") | (apply Ar.pg2; k_extra "q") | (apply Ar.pg3; k_extra "q") | (apply Ar.pg4; k_extra "q") | (apply Ar.pg5; k_extra "q") | (apply Ar.pg6; k_extra "q") | (apply Ar.pg7; k_extra "q")
  k_with "mine sub" => first
      | exact List.forall_mem_nil _
      | (refine' allC ?s1 ?s2; (case s1 => k_mem); (case s2 => walk_at "mine sub"))
      | (intro p hp; repeat (first | exact hp | apply List.Mem.tail))
  k_with "mine st" => (
      dsimp only [lawFor, lawForBody, lawSt, lawBody, lawPack, lawEnv, lawScope, List.getD, List.getElem?_cons_zero, List.getElem?_cons_succ, Option.getD_some])
  trivial
theorem l_f1 (w : World) {mean : ExcName → Option Value} {mg mb : Str → Option Value} {A₀ : Around} {Q : Flow → Shared → Prop} {E : Value → Shared → Prop} {s : Shared} {h₀ : Heap} {L f : Addr} {cd : Value} {gd : Option (List Code)} {dp un : Nat} {outer : List Env} {m : Str → Option Value} {o1 o2 o3 o4 o5 o6 : Obj} {ps : Array Value} {back : List (Addr × Obj)} {a : Str} {ta : Tok}
    (G : Gnd w mean mg mb A₀ h₀ outer (lawEnv L f cd) L) (h198 : @LT.lt Nat _ 198 h₀.objs.size) (hdp : dp + 60 ≤ recursionLimit) (hun : un + 1000 ≤ cLine)
    (e3 : cellIs o3 (some (.str a ta)))
    (F : Fr h₀ L s.heap m) (N : News h₀ L s.heap (lLed L o1 o2 o3 o4 o5 o6 ps back))
    (k : ∀ lv mt h' tk, apL L lv → apL L mt → @Ne Nat mt lv → (∀ q ∈ back, @Ne Nat q.1 lv ∧ @Ne Nat q.1 mt) → Fr h₀ L h' (fun z => if z = Str.ofString "level" then some (.ref lv) else if z = Str.ofString "met" then some (.ref mt) else m z) → News h₀ L h' (lLed L o1 o2 o3 o4 o5 o6 ps ((lv, W.listOf #[.str a ta] 0) :: (mt, W.listOf #[] 0) :: back)) → Q .next { s with heap := h', toks := tk }) :
    wpAny (model PySem.Challenge.rw_ij0107_01.row.prog w) (lA dp un (lawEnv L f cd) outer gd) (exec (lawFor 1) (lawEnv L f cd)) Q E s := by
  have hLs := F.above
  have h198' : @LT.lt Nat _ 198 L := Nat.lt_of_lt_of_le h198 hLs
  obtain ⟨XK, T, B, hf, hke⟩ := id G
  revert XK T
  k_fill
  intro XK T
  walk_at "mine st"
  refine envL ?_
  intro A1 e1
  dsimp only [lLed] at N
  k_steps
  rename News _ _ _ _ => N9
  rename Fr _ _ _ _ => F9
  rename _ ∧ _ => l3
  revert l3
  rename _ ∧ _ => l2
  revert l2
  rename _ ∧ _ => l1
  intro l2 l3
  refine k _ _ _ _ ?_ ?_ ?_ ?_ F9 (News.sub N9 (by walk_at "mine sub"))
  · refine ⟨?_, ?_, ?_, ?_, ?_, ?_, ?_⟩ <;> k_ne
  · refine ⟨?_, ?_, ?_, ?_, ?_, ?_, ?_⟩ <;> k_ne
  · k_ne
  · exact fun q hq => ⟨Nat.ne_of_lt (ktn_ltOf l1.2.2.2.2.2.2.2 q hq), Nat.ne_of_lt (ktn_ltOf l2.2.2.2.2.2.2.2.2 q hq)⟩
end Mine
end
section
open PySem PySem.W PySem.Spec PySem.Calls PyProof.Rows PyProof.Rows.LCg
set_option maxRecDepth 100000
set_option maxHeartbeats 2000000
namespace Mine
theorem lines_S12c_0 : True := by
  k_with_none
  k_with "q" => (all_goals first | assumption | with_unfolding_all exact rfl)
  k_with "ar" => with_reducible first | assumption | (apply Ar.le1; k_extra "q") | (apply Ar.n49; k_extra "q") | (apply Ar.nes; k_extra "q") | (apply Ar.pm0; k_extra "q") | (apply Ar.pm1; k_extra "q") | (apply Ar.pm2; k_extra "q") | (apply Ar.pm3; k_extra "q") | (apply Ar.pm4; k_extra "q") | (apply Ar.pm5; k_extra "q") | (apply Ar.pm6; k_extra "q") | (apply Ar.pm6e; k_extra "q") | (apply Ar.pm7; k_extra "q") | (apply Ar.pm8; k_extra "q") | (apply Ar.pn9; k_extra "q")
  k_with "storeName" => (
      k_here
      k_dflt (refine storeL (by k_asm) (by k_asm) ?_ (by rfl) (by rfl))
      k_whole
      intro m1 h' tk F' N'
      (try k_sweep))
  k_with "ite" => first | with_reducible refine ite_tt ?_ | with_reducible refine ite_ff ?_
  k_with "execs cons" => first | (with_reducible refine seqT1 ?_; intro tk) | (with_reducible refine seqT ?_; intro Kc tk hKc) | (with_reducible refine blkT ?_; intro Qd tk hQd)
  k_with "Nxt" => (k_dflt (dsimp only [Nxt]))
  k_with "Kont" => first | (k_dflt (refine hKc _ _ ?_; try clear hKc)) | (k_dflt (refine hQd _ _ ?_; try clear hQd)) | (k_dflt (refine hQc _ _ ?_; try clear hQc)) | (k_dflt (refine kont_app (by assumption) ?_))
  k_with "mine sub" => first
      | exact List.forall_mem_nil _
      | (refine' allC ?s1 ?s2; (case s1 => k_mem); (case s2 => walk_at "mine sub"))
      | (intro p hp; repeat (first | exact hp | apply List.Mem.tail))
  k_with "mine st" => (
      dsimp only [lawFor, lawForBody, lawSt, lawBody, lawPack, lawEnv, lawScope, List.getD, List.getElem?_cons_zero, List.getElem?_cons_succ, Option.getD_some])
  trivial
noncomputable def levF (TB : Str → List Str) (places : List Str) (l : List Str) : List Str := l.flatMap fun p => if places.contains p then TB p else []
noncomputable def levAt (TB : Str → List Str) (places : List Str) (a : Str) : Nat → List Str
  | 0 => [a]
  | j + 1 => levF TB places (levAt TB places a j)
noncomputable def metAt (TB : Str → List Str) (places : List Str) (a : Str) : Nat → List Str
  | 0 => []
  | j + 1 => metAt TB places a j ++ levAt TB places a (j + 1)
inductive LevSt (L : Nat) (o1 o2 o3 o4 o5 o6 : Obj) (ps : Array Value) (mt im : Addr) (back : List (Addr × Obj)) (TB : Str → List Str) (places : List Str) (a : Str) (j : Nat) : (Str → Option Value) → List (Addr × Obj) → Prop
  | mk (u : Str → Option Value) (lv' : Addr) (lvv mv : List Value) (kl km : Nat) (h4 : apL L lv') (h5 : @Ne Nat mt lv') (hAl : Are IsS lvv (levAt TB places a j)) (hAm : Are IsS mv (metAt TB places a j)) :
    LevSt L o1 o2 o3 o4 o5 o6 ps mt im back TB places a j (fun z => if z = Str.ofString "level" then some (.ref lv') else if z = Str.ofString "met" then some (.ref mt) else if z = Str.ofString "implied" then some (.ref im) else u z) (lLed L o1 o2 o3 o4 o5 o6 ps ((lv', W.listOf lvv.toArray kl) :: (mt, W.listOf mv.toArray km) :: back))
noncomputable def EndIf (P : Prop) : Prop := P
theorem endIf {P : Prop} (h : P) : EndIf P := h
theorem lines_S12c_1 : True := by
  k_with "exec Assign cons ListComp" => (refine stop_intro ?_)
  k_with "pyIter ref" => (refine stop_intro ?_)
  trivial
theorem lx_S12c_0 : True := by
  k_with "k_all" => (first | exact hbM)
  trivial
theorem lines_S12c_2 : True := by
  k_with "compareOp In str ref" => (
      k_here
      k_dflt (refine kda_in (d := be) (h₀ := h₀) (L := L) (by k_asm) (by repeat (first | exact hbe | apply List.Mem.tail)) hdB lo (strKind_is _ _ p _) _ hin ?_))
  k_with "subscriptTail" => (
      k_here
      with_reducible show wpAny _ _ (subscriptTail _ _ (Value.ref _) (Value.str _ _)) _ _ _
      k_dflt (refine kda_item (d := be) (h₀ := h₀) (L := L) (by k_asm) (by repeat (first | exact hbe | apply List.Mem.tail)) hdB (strKind_is _ _ p _) hvB ?_ (by with_unfolding_all rfl) (by intro _; with_unfolding_all rfl)))
  k_with "inplaceOp Add ref ref" => (
      k_here
      k_dflt (refine iadd_lists (by k_asm) (by k_asm) (by k_updF) ⟨_, News.get (h₀ := h₀) (L := L) (by k_asm) (.head _)⟩ hsum ?_)
      intro h9 n9 F9 N9
      (try dsimp only at N9))
  trivial
theorem l_f2 (w : World) {mean : ExcName → Option Value} {mg mb : Str → Option Value} {A₀ : Around} {Q : Flow → Shared → Prop} {E : Value → Shared → Prop} {s : Shared} {h₀ : Heap} {L f lv mt be im : Addr} {cd : Value} {gd : Option (List Code)} {dp un : Nat} {outer : List Env} {m : Str → Option Value} {o1 o2 o3 o4 o5 o6 odB : Obj} {ps : Array Value} {back objsB : List (Addr × Obj)} {a : Str} {ta : Tok} {kvsB : List (Str × Value)} {places : List Str} {TB : Str → List Str}
    (G : Gnd w mean mg mb A₀ h₀ outer (lawEnv L f cd) L) (h198 : @LT.lt Nat _ 198 h₀.objs.size) (hdp : dp + 60 ≤ recursionLimit) (hun : un + 1000 ≤ cLine) (hbk : ∀ q ∈ back, apL L q.1)
    (hbe : (be, odB) ∈ back) (hdB : odB.IsDictOf (strKind PySem.Challenge.rw_ij0107_01.row.prog w) kvsB) (lo : (be == sysModules) = false) (hmapB : DMap L TB places kvsB objsB) (hsB : ∀ q ∈ objsB, q ∈ back) (e6 : cellIs o6 (some (.ref be)))
    (hlev : ∀ j, j ≤ 3 → (levAt TB places a j).length ≤ 900) (hmet : ∀ j, j ≤ 3 → (metAt TB places a j).length ≤ 900)
    (hl1 : apL L lv) (hl2 : apL L mt) (hl3 : @Ne Nat mt lv) (hbM : ∀ q ∈ back, q.1 ≠ mt)
    (hE : PassesOwn (model PySem.Challenge.rw_ij0107_01.row.prog w) (lA dp un (lawEnv L f cd) outer gd) (lawEnv L f cd) E)
    (F : Fr h₀ L s.heap (fun z => if z = Str.ofString "level" then some (.ref lv) else if z = Str.ofString "met" then some (.ref mt) else if z = Str.ofString "implied" then some (.ref im) else m z))
    (N : News h₀ L s.heap (lLed L o1 o2 o3 o4 o5 o6 ps ((lv, W.listOf #[.str a ta] 0) :: (mt, W.listOf #[] 0) :: back)))
    (k : ∀ mv km h' tk m', Are IsS mv (metAt TB places a 3) → m' (Str.ofString "implied") = some (.ref im) → m' (Str.ofString "met") = some (.ref mt) → Fr h₀ L h' m' → News h₀ L h' (lLed L o1 o2 o3 o4 o5 o6 ps ((mt, W.listOf (List.toArray mv) km) :: back)) → Q .next { s with heap := h', toks := tk }) :
    wpAny (model PySem.Challenge.rw_ij0107_01.row.prog w) (lA dp un (lawEnv L f cd) outer gd) (exec (lawFor 2) (lawEnv L f cd)) Q E s := by
  have hLs := F.above
  have h198' : @LT.lt Nat _ 198 L := Nat.lt_of_lt_of_le h198 hLs
  obtain ⟨XK, T, B, hf, hke⟩ := id G
  revert XK T
  k_fill
  intro XK T
  walk_at "mine st"
  refine envL ?_
  intro A1 e1
  dsimp only [lLed] at N
  dsimp only [apL] at hl1 hl2
  refine for_walks (h₀ := h₀) (L := L) ?_ (by intro _; rfl) hE
  k_steps
  unfold Stop
  rename News _ _ _ _ => N9
  rename Fr _ _ _ _ => F9
  have fr4 : ∀ {h : Heap} {m1 : Str → Option Value} {lv' : Addr}, Fr h₀ L h m1 → m1 (Str.ofString "level") = some (.ref lv') → m1 (Str.ofString "met") = some (.ref mt) → m1 (Str.ofString "implied") = some (.ref im) → Fr h₀ L h (fun z => if z = Str.ofString "level" then some (.ref lv') else if z = Str.ofString "met" then some (.ref mt) else if z = Str.ofString "implied" then some (.ref im) else m1 z) := by
    intro h m1 lv' F1 q1 q2 q3
    refine fr_eq F1 fun z => ?_
    by_cases h1 : z = Str.ofString "level"
    · rw [if_pos h1, h1, q1]
    · rw [if_neg h1]
      by_cases h2 : z = Str.ofString "met"
      · rw [if_pos h2, h2, q2]
      · rw [if_neg h2]
        by_cases h3 : z = Str.ofString "implied"
        · rw [if_pos h3, h3, q3]
        · rw [if_neg h3]
  refine forAt_range (n := 3) (LevSt L o1 o2 o3 o4 o5 o6 ps mt im back TB places a)
    (by exact rfl) F9 N9 (by assumption) (by decide) (by rfl) (.mk m lv [.str a ta] [] 0 0 hl1 hl3 (.cons ⟨_, rfl⟩ .nil) .nil) ?_ ?_
  · (intro j tj I2 oI2 m2 nw2 h3 tk3 hjn qr9 F3 N3 off3; obtain ⟨u, lv', lvv, mv, kl, km, hl4, hl5, hAl, hAm⟩ := qr9)
    dsimp only [lLed] at N3
    dsimp only [apL] at hl4
    have offI := off3
    simp only [List.forall_mem_cons] at off3
    have hlj := hlev j (by omega)
    have hlj1 := hlev (j + 1) (by omega)
    have hmj := hmet j (by omega)
    k_steps
    unfold Stop
    refine Assign_two (Gn := fun g => g = s.gens) (by k_asm) (by exact rfl) (by rfl) (by with_unfolding_all rfl) (by with_unfolding_all rfl) (by decide) (by rfl) (by decide) (by rfl) (by rfl) (by rfl) (nameX_L (by k_asm) rfl ?_)
    rename News _ _ _ _ => N10
    rename Fr _ _ _ _ => F10
    refine ⟨lv', lvv.toArray, _, rfl, F10, N10, .inr ⟨W.listOf lvv.toArray kl, by k_mem, rfl, _, rfl⟩, rfl, ?_⟩
    (intro s₂ qr1; (refine ex1E qr1 fun g2 qq1 => ?_; try clear qr1; rcases qq1 with rfl))
    refine comp2_fun (xs := levAt TB places a j) (R := IsS) (f := fun p => if places.contains p then TB p else []) (R' := IsS) (Inv := fun nw => nw = _) (by simpa using hAl.length.symm) (fun i v _ hv => hAl.get (by simpa using hv)) rfl ?_ ?_
    · (intro p va I3 oI3 C oC D m₂ ys h4 tk4 gs nw3 E' hp qr15 qr16 qr17 hC hx3 F4 N4 off4 ne4 qr24; (refine ex1E qr15 fun tp qq1 => ?_; try clear qr15; rcases qq1 with rfl); rcases qr16 with rfl; (refine ex1E qr17 fun jj qq1 => ?_; try clear qr17; refine and2E qq1 fun hja hys => ?_; try clear qq1); rcases qr24 with rfl)
      have offK := off4
      simp only [PyProof.Rows.LCg.Off3] at off4
      refine wpAny_tests_one ?_
      refine wpAny_mono (Q := fun ok s₃ => ok = places.contains p ∧ ∃ tk, s₃ = { s with heap := h4, toks := tk }) ?_ (fun ok s₃ hq => ?_) (fun _ _ e => e)
      · cases hpc : places.contains p with
        | true =>
          (refine ex3E (hmapB.get (List.contains_iff_mem.mp hpc)) fun rB vsB nB qq3 => ?_; refine and3E qq3 fun hvB hmB hAB => ?_; try clear qq3)
          have hin : (valueAt kvsB p).isSome = true := by rw [hvB]; rfl
          k_steps
        | false =>
          have hin : (valueAt kvsB p).isSome = false := by
            rw [hmapB.none fun q => by rw [List.contains_iff_mem.mpr q] at hpc; cases hpc]; rfl
          k_steps
      · (refine and2E hq fun qq0 qq1 => ?_; try clear hq; rcases qq0 with rfl; refine ex1E qq1 fun tk5 qq11 => ?_; try clear qq1; rcases qq11 with rfl)
        cases hpc : places.contains p with
        | true =>
          rw [if_pos rfl]
          (refine ex3E (hmapB.get (List.contains_iff_mem.mp hpc)) fun rB vsB nB qq3 => ?_; refine and3E qq3 fun hvB hmB hAB => ?_; try clear qq3)
          k_steps
          unfold Stop
          have hof := Off3.mem offK (rB, W.listOf vsB.toArray nB) (by repeat (first | exact hsB _ hmB | apply List.Mem.tail))
          have hyl : ys.length + vsB.length ≤ sizeLine := by
            have q1 := sizeLine_eq
            have q2 := hys.length
            have q3 := hAB.length
            have q4 : levAt TB places a (j + 1) = (levAt TB places a j).flatMap fun p => if places.contains p then TB p else [] := rfl
            have q5 := hlev (j + 1) (by omega)
            rw [q4, ← List.take_append_drop (jj + 1) (levAt TB places a j), List.take_add_one, hja, List.flatMap_append, List.flatMap_append, List.length_append, List.length_append] at q5
            simp only [Option.toList_some, List.flatMap_cons, List.flatMap_nil, List.append_nil, hpc, if_true] at q5
            omega
          refine wpAny_mono (inner_names (by exact rfl) F4 N4 hC offK ne4 (News.isList N4 (by repeat (first | exact hsB _ hmB | apply List.Mem.tail))) hof.2.1 hof.2.2 (by rfl) (by rfl) (by decide) hyl) (fun it s₅ h5 => codeAny_mono h5 fun r s₆ hr => ?_) fun _ _ e => e
          obtain ⟨f', h', tk', oC', m', F', N', hC'⟩ := hr
          exact ⟨f', h', tk', _, oC', m', vsB, _, rfl, F', N', hC', offK, .inr ⟨W.listOf lvv.toArray kl, by k_mem, rfl, _, rfl⟩, rfl, hAB⟩
        | false =>
          rw [if_neg Bool.false_ne_true]
          exact ⟨by simp, h4, tk5, _, _, rfl, F4, N4, offK, .inr ⟨W.listOf lvv.toArray kl, by k_mem, rfl, _, rfl⟩, rfl⟩
    · (intro ys nw qr2 hys D h4 tk4 gs qr8 F4 N4 off4; rcases qr2 with rfl; rcases qr8 with rfl)
      simp only [PyProof.Rows.LCg.Off1] at off4
      have hsum : mv.toArray.size + ys.toArray.size ≤ 4000 := by
        have q1 := hAm.length
        have q2 : Are IsS ys (levAt TB places a (j + 1)) := hys
        have q3 := q2.length
        simp only [List.size_toArray]; omega
      have hof4 : @Ne Nat D 198 ∧ apL L D ∧ @Ne Nat mt D ∧ @Ne Nat D I2 := ⟨by omega, ⟨by omega, by omega, by omega, by omega, by omega, by omega, by omega⟩, by omega, by omega⟩
      dsimp only
      k_steps
      rename News _ _ _ _ => N11
      rename Fr _ _ _ _ => F11
      rw [List.append_toArray] at N11
      refine forPost_next (fr4 F11 (by rfl) (by rfl) (by rfl)) N11 (news := lLed L o1 o2 o3 o4 o5 o6 ps ((D, W.listOf ys.toArray ys.length) :: (mt, W.listOf (mv ++ ys).toArray n9) :: back)) (by walk_at "mine sub") ?_ (.mk _ D ys (mv ++ ys) _ _ hof4.2.1 hof4.2.2.1 hys (hAm.append hys))
      exact allC off3.1 (allC off3.2.1 (allC off3.2.2.1 (allC off3.2.2.2.1 (allC off3.2.2.2.2.1 (allC off3.2.2.2.2.2.1 (allC off3.2.2.2.2.2.2.1 (allC hof4.2.2.2 (allC off3.2.2.2.2.2.2.2.2.1 off3.2.2.2.2.2.2.2.2.2))))))))
  · (intro m2 nw2 h3 tk3 qr4 F3 N3; obtain ⟨u, lv', lvv, mv, kl, km, hl4, hl5, hAl, hAm⟩ := qr4)
    exact k mv km h3 tk3 _ hAm (by rfl) (by rfl) F3 (News.sub N3 (by walk_at "mine sub"))
end Mine
end
section
open PySem PySem.W PySem.Spec PySem.Calls PyProof.Rows PyProof.Rows.LCg
set_option maxRecDepth 100000
set_option maxHeartbeats 2000000
namespace Mine
theorem lines_S12d_0 : True := by
  k_with_none
  k_with "q" => (all_goals first | assumption | with_unfolding_all exact rfl)
  k_with "ar" => with_reducible first | assumption | (apply Ar.rl1; k_extra "q")
  k_with "mine sub" => first
      | exact List.forall_mem_nil _
      | (refine' allC ?s1 ?s2; (case s1 => k_mem); (case s2 => walk_at "mine sub"))
      | (intro p hp; repeat (first | exact hp | apply List.Mem.tail))
  k_with "mine st" => (
      dsimp only [lawFor, lawForBody, lawSt, lawBody, lawPack, lawEnv, lawScope, List.getD, List.getElem?_cons_zero, List.getElem?_cons_succ, Option.getD_some])
  trivial
theorem rising_pair : ∀ (l : List Str) (p : Str), risingS p l = true → (p :: l).Pairwise (fun a b : Str => ¬ b.cps.toList < a.cps.toList)
  | [], p, _ => List.pairwise_singleton _ _
  | x :: r, p, h => by
    have h' : (!ltCps x.cps.toList p.cps.toList && risingS x r) = true := h
    rw [Bool.and_eq_true] at h'
    have h1 : ¬ x.cps.toList < p.cps.toList := by
      have := h'.1
      rw [ltCps_eq] at this
      simpa using this
    have ih := rising_pair r x h'.2
    refine List.pairwise_cons.mpr ⟨fun y hy => ?_, ih⟩
    rcases List.mem_cons.mp hy with rfl | hy
    · exact h1
    · have h2 := List.rel_of_pairwise_cons ih hy
      exact List.not_lt.mpr (List.le_trans (List.not_lt.mp h1) (List.not_lt.mp h2))
theorem sorted_pair : ∀ (l : List Str), sortedS l = true → l.Pairwise (fun a b : Str => ¬ b.cps.toList < a.cps.toList)
  | [], _ => .nil
  | x :: r, h => rising_pair r x h
theorem sorted_same {l l' : List Str} (hp : l.Perm l') (h : sortedS l = true) (h' : sortedS l' = true) : l = l' := by
  refine List.Perm.eq_of_pairwise (le := fun a b : Str => ¬ b.cps.toList < a.cps.toList) (fun a b _ _ h1 h2 => ?_) (sorted_pair l h) (sorted_pair l' h') hp
  have e : a.cps.toList = b.cps.toList := List.le_antisymm (List.not_lt.mp h1) (List.not_lt.mp h2)
  obtain ⟨x⟩ := a
  obtain ⟨y⟩ := b
  exact congrArg Str.mk (Array.toList_inj.mp e)
theorem lines_S12d_1 : True := by
  k_with "subscriptTail" => (
      k_here
      with_reducible show wpAny _ _ (subscriptTail _ _ (Value.ref _) (Value.str _ _)) _ _ _
      k_dflt (refine kda_item (d := ud) (h₀ := h₀) (L := L) (by k_asm) (by repeat (first | exact hud | apply List.Mem.tail)) hdU (strKind_is _ _ a _) hvU ?_ (by with_unfolding_all rfl) (by intro _; with_unfolding_all rfl)))
  k_with "call builtin:sorted" => (
      k_here
      first
      | (k_dflt (refine sorted_N_str (l := mt) (h₀ := h₀) (L := L) (by k_asm) (by k_asm) (News.isList (by k_asm) (by k_mem)) (Are.strs hAm) (by omega) ?_)
         intro h8 vs8 ss8 e8 F8 N8 hs8 hp8 hq8)
      | (k_dflt (refine sorted_N_str (l := rU) (h₀ := h₀) (L := L) (by k_asm) (by k_asm) (News.isList (by k_asm) (by repeat (first | exact hmU | apply List.Mem.tail))) (Are.strs hAU) (by omega) ?_)
         intro h9 vs9 ss9 e9 F9 N9 hs9 hp9 hq9
         have heq : ss8 = ss9 := sorted_same (hp8.trans (hperm.trans hp9.symm)) hq8 hq9))
  k_with "compareOp NotEq ref ref" => (
      k_here
      k_dflt (refine ne_strs (News.isList (h₀ := h₀) (L := L) (by k_asm) (.tail _ (.head _))) (News.isList (h₀ := h₀) (L := L) (by k_asm) (.head _)) (Are.of_strs hs8) (Are.of_strs hs9) (fun x hx => oU x (hperm.mem_iff.mp (hp8.mem_iff.mp hx))) (fun x hx => oU x (hp9.mem_iff.mp hx)) (by dsimp +zetaDelta only [aA]; omega) ?_)
      k_whole)
  trivial
theorem l_f3 (w : World) {mean : ExcName → Option Value} {mg mb : Str → Option Value} {A₀ : Around} {Q : Flow → Shared → Prop} {E : Value → Shared → Prop} {s : Shared} {h₀ : Heap} {L f mt ud rU : Addr} {cd : Value} {gd : Option (List Code)} {dp un : Nat} {outer : List Env} {m : Str → Option Value} {o1 o2 o3 o4 o5 o6 odU : Obj} {ps : Array Value} {mv vsU : List Value} {km nU : Nat} {met und : List Str} {back : List (Addr × Obj)} {kvsU : List (Str × Value)} {a : Str} {ta : Tok}
    (G : Gnd w mean mg mb A₀ h₀ outer (lawEnv L f cd) L) (h198 : @LT.lt Nat _ 198 h₀.objs.size) (hdp : dp + 60 ≤ recursionLimit) (hun : un + 1000 ≤ cLine)
    (hud : (ud, odU) ∈ back) (hdU : odU.IsDictOf (strKind PySem.Challenge.rw_ij0107_01.row.prog w) kvsU) (hvU : valueAt kvsU a = some (.ref rU)) (hmU : (rU, W.listOf vsU.toArray nU) ∈ back) (hAU : Are IsS vsU und) (oU : ∀ x ∈ und, PyData.strOk x = true)
    (e3 : cellIs o3 (some (.str a ta))) (e4 : cellIs o4 (some (.ref ud))) (hAm : Are IsS mv met) (hperm : met.Perm und) (hml : met.length ≤ 60) (hmm : m (Str.ofString "met") = some (.ref mt))
    (F : Fr h₀ L s.heap m) (N : News h₀ L s.heap (lLed L o1 o2 o3 o4 o5 o6 ps ((mt, W.listOf mv.toArray km) :: back)))
    (k : ∀ h' tk, Fr h₀ L h' m → News h₀ L h' (lLed L o1 o2 o3 o4 o5 o6 ps back) → Q .next { s with heap := h', toks := tk }) :
    wpAny (model PySem.Challenge.rw_ij0107_01.row.prog w) (lA dp un (lawEnv L f cd) outer gd) (exec (lawFor 3) (lawEnv L f cd)) Q E s := by
  have hLs := F.above
  have h198' : @LT.lt Nat _ 198 L := Nat.lt_of_lt_of_le h198 hLs
  have hq1 := hAm.length
  have hq2 := hAU.length
  have hq3 := hperm.length_eq
  obtain ⟨XK, T, B, hf, hke⟩ := id G
  rw [fn_if hmm] at F
  revert XK T
  k_fill
  intro XK T
  walk_at "mine st"
  refine envL ?_
  intro A1 e1
  dsimp only [lLed] at N
  k_steps
  rename Fr _ _ _ _ => F10
  rename News _ _ _ _ => N10
  refine k _ _ (fr_eq F10 fun z => ?_) (News.sub N10 (by walk_at "mine sub"))
  by_cases hz : z = Str.ofString "met"
  · subst hz; rw [if_pos rfl, hmm]
  · rw [if_neg hz]
end Mine
end
section
open PySem PySem.W PySem.Spec PySem.Calls PyProof.Rows PyProof.Rows.LCg
set_option maxRecDepth 100000
set_option maxHeartbeats 2000000
namespace Mine
theorem lines_S12_0 : True := by
  k_with_none
  k_with "q" => (all_goals first | assumption | with_unfolding_all exact rfl)
  k_with "ar" => with_reducible first | assumption | (apply Ar.pm0; k_extra "q") | (apply Ar.pm1; k_extra "q") | (apply Ar.pm2; k_extra "q") | (apply Ar.pm3; k_extra "q") | (apply Ar.pm4; k_extra "q") | (apply Ar.pm5; k_extra "q") | (apply Ar.pm6; k_extra "q")
  k_with "mine sub" => first
      | exact List.forall_mem_nil _
      | (refine' allC ?s1 ?s2; (case s1 => k_mem); (case s2 => walk_at "mine sub"))
      | (intro p hp; repeat (first | exact hp | apply List.Mem.tail))
  k_with "mine st" => (
      dsimp only [lawFor, lawForBody, lawSt, lawBody, lawPack, lawEnv, lawScope, List.getD, List.getElem?_cons_zero, List.getElem?_cons_succ, Option.getD_some])
  k_with "exec If" => (refine stop_intro ?_)
  trivial
theorem lx_S12_0 : True := by
  k_with "k_all" => (first | exact hbo3 | exact hboI)
  trivial
inductive PlSt (L : Nat) (o1 o2 o4 o5 o6 : Obj) (ps : Array Value) (back : List (Addr × Obj)) (im : Addr) (i : Nat) : (Str → Option Value) → List (Addr × Obj) → Prop
  | mk (u : Str → Option Value) (o3' : Obj) (v : Option Value) (e : cellIs o3' v) : PlSt L o1 o2 o4 o5 o6 ps back im i (fun z => if z = Str.ofString "implied" then some (.ref im) else u z) (lLed L o1 o2 o3' o4 o5 o6 ps back)
theorem l_st12 (w : World) {mean : ExcName → Option Value} {mg mb : Str → Option Value} {A₀ : Around} {Q : Flow → Shared → Prop} {E : Value → Shared → Prop} {s : Shared} {h₀ : Heap} {L f li pl im ud be : Addr} {cd : Value} {gd : Option (List Code)} {dp un : Nat} {outer : List Env} {m : Str → Option Value} {o1 o2 o3 o4 o5 o6 odU odB : Obj} {ps : Array Value} {lv pv : List Value} {kl kp : Nat} {listing places : List Str} {back objsU objsB : List (Addr × Obj)} {kvsU kvsB : List (Str × Value)} {TU TB : Str → List Str}
    (G : Gnd w mean mg mb A₀ h₀ outer (lawEnv L f cd) L) (h198 : @LT.lt Nat _ 198 h₀.objs.size) (hdp : dp + 60 ≤ recursionLimit) (hun : un + 1000 ≤ cLine) (hbk : ∀ q ∈ back, apL L q.1)
    (hlv : Are IsS lv listing) (hll : listing.length ≤ 200) (hne : ∀ x ∈ listing, x.cps.toList ≠ []) (hly : ∀ y ∈ listing, y.length ≤ 1000) (hP4 : ∀ a ∈ places, TB a = listing.filter fun x => parOf x == a) (hP5 : ∀ a ∈ places, (metAt TB places a 3).Perm (TU a)) (oU : ∀ a ∈ places, ∀ x ∈ TU a, PyData.strOk x = true) (oB : ∀ a ∈ places, ∀ x ∈ TB a, PyData.strOk x = true) (hml : ∀ a ∈ places, (metAt TB places a 3).length ≤ 60) (hlev : ∀ a ∈ places, ∀ j, j ≤ 3 → (levAt TB places a j).length ≤ 900) (hmet : ∀ a ∈ places, ∀ j, j ≤ 3 → (metAt TB places a j).length ≤ 900)
    (hpv : Are IsS pv places) (hpz : places.length ≤ 1000)
    (hud : (ud, odU) ∈ back) (hbe : (be, odB) ∈ back) (hdU : odU.IsDictOf (strKind PySem.Challenge.rw_ij0107_01.row.prog w) kvsU) (hdB : odB.IsDictOf (strKind PySem.Challenge.rw_ij0107_01.row.prog w) kvsB) (lo : (be == sysModules) = false)
    (hmapU : DMap L TU places kvsU objsU) (hmapB : DMap L TB places kvsB objsB) (hsU : ∀ q ∈ objsU, q ∈ back) (hsB : ∀ q ∈ objsB, q ∈ back)
    (hli : (li, W.listOf lv.toArray kl) ∈ back) (hpl : (pl, W.listOf pv.toArray kp) ∈ back) (hmp : m (Str.ofString "places") = some (.ref pl)) (hmi : m (Str.ofString "implied") = some (.ref im)) (e2 : cellIs o2 (some (.ref li))) (e3 : cellIs o3 none) (e4 : cellIs o4 (some (.ref ud))) (e6 : cellIs o6 (some (.ref be)))
    (hE : PassesOwn (model PySem.Challenge.rw_ij0107_01.row.prog w) (lA dp un (lawEnv L f cd) outer gd) (lawEnv L f cd) E)
    (F : Fr h₀ L s.heap m) (N : News h₀ L s.heap (lLed L o1 o2 o3 o4 o5 o6 ps back))
    (k : ∀ o3' v h' tk m', cellIs o3' v → m' (Str.ofString "implied") = some (.ref im) → Fr h₀ L h' m' → News h₀ L h' (lLed L o1 o2 o3' o4 o5 o6 ps back) → Q .next { s with heap := h', toks := tk }) :
    wpAny (model PySem.Challenge.rw_ij0107_01.row.prog w) (lA dp un (lawEnv L f cd) outer gd) (exec (lawSt 12) (lawEnv L f cd)) Q E s := by
  have hLs := F.above
  have h198' : @LT.lt Nat _ 198 L := Nat.lt_of_lt_of_le h198 hLs
  have hmod : @LT.lt Nat _ sysModules h₀.objs.size := modules_low G.T.nolimit
  have hbo3 : ∀ q ∈ back, q.1 ≠ L + 1 + 1 + 1 := fun q hq => (hbk q hq).2.2.2.1
  obtain ⟨XK, T, B, hf, hke⟩ := id G
  have F0 := F
  rw [fn_if hmi] at F0
  revert XK T
  k_fill
  intro XK T
  walk_at "mine st"
  refine for_list (h₀ := h₀) (L := L) (l := pl) (vs := pv) (PlSt L o1 o2 o4 o5 o6 ps back im) (by exact rfl) F0 N ?j0 ?hev ?hl (.inl ⟨_, _, rfl⟩) ?turn ?done (by intro _; rfl) hE
  case j0 => exact ⟨m, o3, none, e3⟩
  case hev =>
    intro Q' hq
    exact nameX_L F hmp hq
  case hl =>
    (intro h nw hk N' qr4; (refine ex2E qr4 fun i m' qq2 => ?_; try clear qr4; rcases qq2 with ⟨u, o3', v, _⟩))
    exact News.isList N' (by repeat (first | exact hpl | apply List.Mem.tail))
  case done =>
    (intro m' nw h tk' qr4 F N; obtain ⟨u, o3', v, e3'⟩ := qr4)
    exact k o3' v h tk' _ e3' (if_pos rfl) F N
  case turn =>
    (intro i va I oI m' nw h tk' hv qr9 F N off; obtain ⟨u, o3', v3, e3'⟩ := qr9)
    (refine ex1E (hpv.get hv) fun a qq1 => ?_; refine and2E qq1 fun hpi qq11 => ?_; try clear qq1; refine ex1E qq11 fun ta qq111 => ?_; try clear qq11; rcases qq111 with rfl)
    have hap := List.mem_of_getElem? hpi
    (refine ex3E (hmapU.get hap) fun rU vsU nU qq3 => ?_; refine and3E qq3 fun hvU hmU hAU => ?_; try clear qq3)
    (refine ex3E (hmapB.get hap) fun rB vsB nB qq3 => ?_; refine and3E qq3 fun hvB hmB hAB => ?_; try clear qq3)
    have hboI : ∀ q ∈ back, q.1 ≠ I := fun q hq => off q (by repeat (first | exact hq | apply List.Mem.tail))
    have offI := off
    dsimp only [lLed] at N
    simp only [List.forall_mem_cons] at off
    k_steps
    unfold Stop
    rename _ = Data.cell (some (Value.str a ta)) => d9
    rename News _ _ _ _ => N9
    rename Fr _ _ _ _ => F9
    have hbk' : ∀ q ∈ (I, oI) :: back, apL L q.1 := allC ⟨by omega, by omega, by omega, by omega, by omega, by omega, by omega⟩ hbk
    refine l_f0 w G h198 hdp hun hbk' hlv hll hne hly (.tail _ hbe) hdB hvB (.tail _ (hsB _ hmB)) hAB (oB a hap) (.tail _ hli) e2 d9 e6 (hP4 a hap) F9 (News.sub N9 (by walk_at "mine sub")) fun h4 tk4 F4 N4 => ?_
    refine wpAny_execs_cons (l_f1 w G h198 hdp hun d9 F4 N4 fun lvl mt h5 tk5 hl5 hm5 hn5 hb5 F5 N5 => ?_)
    refine wpAny_execs_cons (l_f2 (im := im) (m := u) w G h198 hdp hun hbk' (.tail _ hbe) hdB lo hmapB (fun q hq => .tail _ (hsB q hq)) e6 (hlev a hap) (hmet a hap) hl5 hm5 hn5 (fun q hq => (hb5 q hq).2) hE F5 N5 fun mv km h6 tk6 m6 hAm q1 q2 F6 N6 => ?_)
    refine wpAny_execs_cons (l_f3 w G h198 hdp hun (.tail _ hud) hdU hvU (.tail _ (hsU _ hmU)) hAU (oU a hap) d9 e4 hAm (hP5 a hap) (hml a hap) q2 F6 N6 fun h7 tk7 F7 N7 => ?_)
    refine wpAny_execs_nil ?_
    refine forPost_next (fr_eq (m' := fun z => if z = Str.ofString "implied" then some (Value.ref im) else m6 z) F7 fun z => ?_) N7 (by walk_at "mine sub") ?_ ⟨m6, _, _, d9⟩
    · by_cases hz : z = Str.ofString "implied"
      · subst hz; rw [if_pos rfl, q1]
      · rw [if_neg hz]
    · exact allC off.1 (allC off.2.1 (allC off.2.2.1 (allC off.2.2.2.1 (allC off.2.2.2.2.1 (allC off.2.2.2.2.2.1 (allC off.2.2.2.2.2.2.1 off.2.2.2.2.2.2.2))))))
end Mine
end
section
open PySem PySem.W PySem.Spec PySem.Calls PyProof.Rows PyProof.Rows.LCg
set_option maxRecDepth 100000
set_option maxHeartbeats 2000000
namespace Mine
theorem lines_S13_0 : True := by
  k_with_none
  k_with "q" => (all_goals first | assumption | with_unfolding_all exact rfl)
  k_with "ar" => with_reducible first | assumption | (apply Ar.le0; k_extra "q") | (apply Ar.sze; k_extra "q") | (apply Ar.rl1; k_extra "q")
  k_with "mine sub" => first
      | exact List.forall_mem_nil _
      | (refine' allC ?s1 ?s2; (case s1 => k_mem); (case s2 => walk_at "mine sub"))
      | (intro p hp; repeat (first | exact hp | apply List.Mem.tail))
  k_with "mine st" => (
      dsimp only [lawFor, lawForBody, lawSt, lawBody, lawPack, lawEnv, lawScope, List.getD, List.getElem?_cons_zero, List.getElem?_cons_succ, Option.getD_some])
  k_with "CompEnd" => (refine stop_intro ?_)
  k_with "eval ListComp" => (refine stop_intro ?_)
  k_with "subscriptTail" => (
      k_here
      with_reducible show wpAny _ _ (subscriptTail _ _ (Value.ref _) (Value.str _ _)) _ _ _
      k_dflt (refine kda_item (d := ud) (h₀ := h₀) (L := L) (by k_asm) (by repeat (first | exact hud | apply List.Mem.tail)) hdU (strKind_is _ _ a _) hvU ?_ (by with_unfolding_all rfl) (by intro _; with_unfolding_all rfl)))
  k_with "compareOp In str ref" => (
      k_here
      k_dflt (refine in_list_strs (News.isList (h₀ := h₀) (L := L) (by k_asm) (by repeat (first | exact hsU _ hmU | apply List.Mem.tail))) (Are.strs hAU) ?_)
      (rw [hq]))
  k_with "compareOp Eq ref ref" => (
      k_here
      k_dflt (first
      | (refine eq_strs (xs := names.filter fun x => (TU a).any (· == x)) (ys := []) (us := []) (News.isList (h₀ := h₀) (L := L) (by k_asm) (by k_mem)) (News.isList (h₀ := h₀) (L := L) (by k_asm) (.head _)) hys .nil (fun x hx => onm x (List.mem_filter.mp hx).1) (fun _ h => (nomatch h)) (by dsimp only [aA]; omega) ?_; rw [decide_eq_false (hP6 a hai)])
      | (refine eq_strs (xs := []) (ys := []) (vs := []) (us := []) (News.isList (h₀ := h₀) (L := L) (by k_asm) (by k_mem)) (News.isList (h₀ := h₀) (L := L) (by k_asm) (.head _)) .nil .nil (fun _ h => (nomatch h)) (fun _ h => (nomatch h)) (by dsimp only [aA]; omega) ?_; rw [decide_eq_true rfl])))
  trivial
theorem l_st13 (w : World) {mean : ExcName → Option Value} {mg mb : Str → Option Value} {A₀ : Around} {Q : Flow → Shared → Prop} {E : Value → Shared → Prop} {s : Shared} {h₀ : Heap} {L f nl im ud : Addr} {cd : Value} {gd : Option (List Code)} {dp un : Nat} {outer : List Env} {m : Str → Option Value} {o1 o2 o3 o4 o5 o6 odU : Obj} {ps : Array Value} {nv iv : List Value} {kn ki : Nat} {names implied places : List Str} {back objsU : List (Addr × Obj)} {kvsU : List (Str × Value)} {TU : Str → List Str}
    (G : Gnd w mean mg mb A₀ h₀ outer (lawEnv L f cd) L) (h198 : @LT.lt Nat _ 198 h₀.objs.size) (hdp : dp + 60 ≤ recursionLimit) (hun : un + 1000 ≤ cLine) (hbk : ∀ q ∈ back, apL L q.1)
    (hnv : Are IsS nv names) (hnl : names.length ≤ 2) (onm : ∀ x ∈ names, PyData.strOk x = true) (hiv : Are IsS iv implied) (hil : implied.length ≤ 100) (hip : ∀ a ∈ implied, a ∈ places)
    (hud : (ud, odU) ∈ back) (hdU : odU.IsDictOf (strKind PySem.Challenge.rw_ij0107_01.row.prog w) kvsU) (hmapU : DMap L TU places kvsU objsU) (hsU : ∀ q ∈ objsU, q ∈ back)
    (hnm : (nl, W.listOf nv.toArray kn) ∈ back) (him : (im, W.listOf iv.toArray ki) ∈ back) (hmi : m (Str.ofString "implied") = some (.ref im)) (e1 : cellIs o1 (some (.ref nl))) (e4 : cellIs o4 (some (.ref ud)))
    (hP6 : ∀ a ∈ implied, ¬ (names.filter fun x => (TU a).any (· == x)) = [])
    (F : Fr h₀ L s.heap m) (N : News h₀ L s.heap (lLed L o1 o2 o3 o4 o5 o6 ps back))
    (k : ∀ h' tk, Fr h₀ L h' m → News h₀ L h' (lLed L o1 o2 o3 o4 o5 o6 ps back) → Q (.ret (.bool true)) { s with heap := h', toks := tk }) :
    wpAny (model PySem.Challenge.rw_ij0107_01.row.prog w) (lA dp un (lawEnv L f cd) outer gd) (exec (lawSt 13) (lawEnv L f cd)) Q E s := by
  have hLs := F.above
  have h198' : @LT.lt Nat _ 198 L := Nat.lt_of_lt_of_le h198 hLs
  have hq1 := hnv.length
  have hq2 := hiv.length
  have hL0 : h₀.get? L = none := Heap.get?_none_of_le F.above
  obtain ⟨XK, T, B, hf, hke⟩ := id G
  rw [fn_if hmi] at F
  revert XK T
  k_fill
  intro XK T
  walk_at "mine st"
  dsimp only [lLed] at N
  k_steps
  unfold Stop
  refine ListComp_own (h₀ := h₀) (L := L) (m := fun y => if y = Str.ofString "implied" then some (Value.ref im) else m y) (by exact rfl) (by with_unfolding_all rfl) (by rfl) (by intro _; rfl) (by intro _; rfl) (by with_unfolding_all rfl) (by decide) (nameX_L F rfl ?_)
  refine ⟨im, iv.toArray, _, rfl, F, N, .inr ⟨W.listOf iv.toArray ki, by repeat (first | exact him | apply List.Mem.tail), rfl, _, rfl⟩, ?_⟩
  (intro s₂ qr1; (refine ex1E qr1 fun g2 qq1 => ?_; try clear qr1; rcases qq1 with rfl))
  refine ⟨?_, ?_⟩
  · intro i v I oI C oC K oK D h3 tk3 E' hv hK F3 N3 off3 ne3
    (refine ex1E (hiv.get (by simpa using hv)) fun a qq1 => ?_; refine and2E qq1 fun hpi qq11 => ?_; try clear qq1; refine ex1E qq11 fun ta qq111 => ?_; try clear qq11; rcases qq111 with rfl)
    have hai := List.mem_of_getElem? hpi
    (refine ex3E (hmapU.get (hip a hai)) fun rU vsU nU qq3 => ?_; refine and3E qq3 fun hvU hmU hAU => ?_; try clear qq3)
    dsimp only [cellOk] at hK
    k_steps
    unfold Stop
    refine PyProof.Rows.LCt.ListComp_T (F₀ := F3) (by with_unfolding_all rfl) (by decide) (by rfl) (by decide) (by rfl) (wpAny_Name (wpAny_loadName_cell (c := L + 1) (by rfl) (by rfl) (by rfl) ⟨o1, (N3 (L + 1, o1) (by k_mem)).1, e1⟩ ?_) (by decide))
    refine .inl ⟨nl, nv.toArray, _, rfl, by exact rfl, F3, N3, .inr ⟨W.listOf nv.toArray kn, by repeat (first | exact hnm | apply List.Mem.tail), rfl, _, rfl⟩, by (have q1 := sizeLine_eq; rw [List.size_toArray]; omega), ?_⟩
    (intro s₂ qr1; (refine ex1E qr1 fun g3 qq1 => ?_; try clear qr1; rcases qq1 with rfl))
    refine restT_fun (xs := names) (R := IsS) (p := fun x => (TU a).any (· == x)) (g := id) (R' := IsS) (Inv := fun nw => nw = _) (by simpa using hnv.length.symm) (fun i v _ hv => hnv.get (by simpa using hv)) rfl ?_ ?_
    · (intro y vy I4 oI4 C4 oC4 D4 m₄ ys h4 tk4 nw4 E4 hyt qr14 qr15 hC4 hx4 F4 N4 off4 ne4; (refine ex1E qr14 fun ty qq1 => ?_; try clear qr14; rcases qq1 with rfl); rcases qr15 with rfl)
      have offK := off4
      simp only [PyProof.Rows.LCg.Off3] at off4
      cases hq : (TU a).any (· == y) with
      | true =>
        k_steps
        unfold Stop
        exact PyProof.Rows.LCg.CompEnd.intro (by k_asm) (by k_asm) _ (by walk_at "mine sub") (by exact offK) (.inr ⟨W.listOf nv.toArray kn, by repeat (first | exact hnm | apply List.Mem.tail), rfl, _, rfl⟩) ⟨rfl, _, rfl⟩
      | false =>
        k_steps
        unfold Stop
        exact PyProof.Rows.LCg.CompEnd.intro (by k_asm) (by k_asm) _ (by walk_at "mine sub") (by exact offK) (.inr ⟨W.listOf nv.toArray kn, by repeat (first | exact hnm | apply List.Mem.tail), rfl, _, rfl⟩) rfl
    · (intro ys nw qr2 hys D4 h4 tk4 F4 N4 off4; rcases qr2 with rfl)
      simp only [PyProof.Rows.LCg.Off1] at off4
      rw [List.map_id] at hys
      dsimp only
      k_steps
      rename News _ _ _ _ => N9
      rename Fr _ _ _ _ => F9
      exact ⟨_, _, F9, News.sub N9 (by walk_at "mine sub")⟩
  · intro D h3 tk3 F3 N3 off3
    simp only [List.forall_mem_cons] at off3
    k_steps
    rename News _ _ _ _ => N9
    rename Fr _ _ _ _ => F9
    refine k _ _ (fr_eq F9 fun z => ?_) (News.sub N9 (by walk_at "mine sub"))
    by_cases hz : z = Str.ofString "implied"
    · subst hz; rw [if_pos rfl, hmi]
    · rw [if_neg hz]
end Mine
end
section
open PySem PySem.W PySem.Spec PySem.Calls PyProof.Rows
set_option maxRecDepth 100000
set_option maxHeartbeats 2000000
namespace Mine
theorem l0_S14 : True := by
  k_with_none
  k_with "q" => (all_goals first | assumption | with_unfolding_all exact rfl)
  k_with "ar" => with_reducible first | assumption | (apply Ar.sn; k_extra "q")
  trivial
noncomputable abbrev impOf (pars : Str → List Str) (names : List Str) : List Str := dedupe (minus (names.flatMap pars) names)
noncomputable abbrev lisOf (pars : Str → List Str) (names : List Str) : List Str := names ++ impOf pars names
noncomputable abbrev plaOf (pars : Str → List Str) (names : List Str) : List Str := Str.ofString "" :: (lisOf pars names).filter endsSl
structure Facts (names : List Str) (pars : Str → List Str) (resU resL : Str → List Stp) : Prop where
  few : names.length ≤ 2
  par : ∀ x ∈ names, ParOk pars x
  fold : (names.flatMap pars).length ≤ 900
  imp : (impOf pars names).length ≤ 100
  lis : (lisOf pars names).length ≤ 60
  pla : (plaOf pars names).length ≤ 1000
  ok : ∀ x ∈ lisOf pars names, x.cps.toList ≠ [] ∧ x.length ≤ 1000 ∧ PyData.strOk x = true
  p1 : minus (names ++ lisOf pars names) (impOf pars names) = names ++ names
  nodup : (plaOf pars names).Nodup
  patU : ∀ a ∈ plaOf pars names, a.length ≤ 100 ∧ Pat (patOf9 a) (resU a)
  patL : ∀ a ∈ plaOf pars names, a.length ≤ 100 ∧ Pat (patOf10 a) (resL a)
  p4 : ∀ a ∈ plaOf pars names, minus (taken (resU a) (lisOf pars names)) (taken (resL a) (lisOf pars names)) = (lisOf pars names).filter fun x => parOf x == a
  p5 : ∀ a ∈ plaOf pars names, (metAt (fun a => minus (taken (resU a) (lisOf pars names)) (taken (resL a) (lisOf pars names))) (plaOf pars names) a 3).Perm (taken (resU a) (lisOf pars names))
  lev : ∀ a ∈ plaOf pars names, ∀ j, j ≤ 3 → (levAt (fun a => minus (taken (resU a) (lisOf pars names)) (taken (resL a) (lisOf pars names))) (plaOf pars names) a j).length ≤ 900
  met : ∀ a ∈ plaOf pars names, ∀ j, j ≤ 3 → (metAt (fun a => minus (taken (resU a) (lisOf pars names)) (taken (resL a) (lisOf pars names))) (plaOf pars names) a j).length ≤ 900
  hip : ∀ a ∈ impOf pars names, a ∈ plaOf pars names
  p6 : ∀ a ∈ impOf pars names, ¬ (names.filter fun x => (taken (resU a) (lisOf pars names)).any (· == x)) = []
theorem taken_le (res : List Stp) (xs : List Str) : (taken res xs).length ≤ xs.length := List.length_filter_le _ _
theorem taken_in {res : List Stp} {xs : List Str} {x : Str} (h : x ∈ taken res xs) : x ∈ xs := (List.mem_filter.mp h).1
theorem law_chain (w : World) {mean : ExcName → Option Value} {mg mb : Str → Option Value} {A₀ : Around} {Q : Flow → Shared → Prop} {E : Value → Shared → Prop} {s : Shared} {h₀ : Heap} {L f sc : Addr} {cd : Value} {gd : Option (List Code)} {dp un : Nat} {outer : List Env} {m : Str → Option Value} {o1 o2 o3 o4 o5 o6 : Obj} {ps : Array Value} {vs : List Value} {ns : List Int} {pars : Str → List Str} {resU resL : Str → List Stp}
    (G : Gnd w mean mg mb A₀ h₀ outer (lawEnv L f cd) L) (h198 : @LT.lt Nat _ 198 h₀.objs.size) (hdp : dp + 60 ≤ recursionLimit) (hun : un + 1000 ≤ cLine) (ok : TabOk ps)
    (hls : h₀.IsList sc vs.toArray) (hin : IntsAre vs ns) (hlen : ns.length ≤ 63) (hm : m (Str.ofString "script") = some (.ref sc)) (hb : AllBare s.gens)
    (e1 : cellIs o1 none) (e2 : cellIs o2 none) (e3 : cellIs o3 none) (e4 : cellIs o4 none) (e5 : cellIs o5 none) (e6 : cellIs o6 none)
    (hE : PassesOwn (model PySem.Challenge.rw_ij0107_01.row.prog w) (lA dp un (lawEnv L f cd) outer gd) (lawEnv L f cd) E)
    (H : Facts (namesOf (numsOf ns)) pars resU resL)
    (F : Fr h₀ L s.heap m) (N : News h₀ L s.heap (lLed L o1 o2 o3 o4 o5 o6 ps []))
    (k : ∀ o1 o2 o3 o4 o5 o6 ps' back h' tk m' gs, TabOk ps' → AllBare gs → Fr h₀ L h' m' → News h₀ L h' (lLed L o1 o2 o3 o4 o5 o6 ps' back) → Q (.ret (.bool true)) { s with heap := h', toks := tk, gens := gs }) :
    wpAny (model PySem.Challenge.rw_ij0107_01.row.prog w) (lA dp un (lawEnv L f cd) outer gd) (execs lawBody (lawEnv L f cd)) Q E s := by
  have hLs := F.above
  have hL8 : @LT.lt Nat _ 198 L := Nat.lt_of_lt_of_le h198 hLs
  have chain : ∀ {i : Nat} {s : Shared} {Q : Flow → Shared → Prop}, i < 14 → wpAny (model PySem.Challenge.rw_ij0107_01.row.prog w) (lA dp un (lawEnv L f cd) outer gd) (exec (lawSt i) (lawEnv L f cd)) (fun fl s' => match fl with | .next => wpAny (model PySem.Challenge.rw_ij0107_01.row.prog w) (lA dp un (lawEnv L f cd) outer gd) (execs (lawBody.drop (i + 1)) (lawEnv L f cd)) Q E s' | fl => Q fl s') E s →
      wpAny (model PySem.Challenge.rw_ij0107_01.row.prog w) (lA dp un (lawEnv L f cd) outer gd) (execs (lawBody.drop i) (lawEnv L f cd)) Q E s := by
    intro i s Q hi h
    have hl : lawBody.length = 14 := by rfl
    rw [List.drop_eq_getElem_cons (by rw [hl]; exact hi)]
    refine wpAny_execs_cons ?_
    have e : lawBody[i]'(by rw [hl]; exact hi) = lawSt i := by
      unfold lawSt
      rw [List.getD_eq_getElem?_getD, List.getElem?_eq_getElem (by rw [hl]; exact hi)]; rfl
    rw [e]
    exact h
  show wpAny _ _ (execs (lawBody.drop 0) _) _ _ _
  refine chain (by decide) (l_st0 w G hL8 hdp hun hls hin hlen hm F N fun D ys h1 tk1 m1 hap1 hm1 hi1 F1 N1 => ?_)
  refine chain (by decide) (l_st1 w G hL8 hdp hun hap1 hi1 hm1 F1 N1 fun ys2 kn2 h2 tk2 m2 hm2 hi2 F2 N2 => ?_)
  refine chain (by decide) (l_st2 w G hL8 hdp hun hap1 e1 F2 N2 fun o1' nl h3 tk3 e1' hapn hne3 F3 N3 => ?_)
  refine chain (by decide) (l_st3 w G hL8 hdp hun ok hap1 hapn hne3 hi2 (numsOf_in ns) (numsOf_len ns) hm2 e1' F3 N3 hE fun nv kn ps4 h4 tk4 m4 ok4 hnv F4 N4 => ?_)
  refine chain (by decide) (l_st4 w G h198 hdp hun ok4 hapn hnv H.few H.par H.fold e1' hb F4 N4 fun fo fv ps5 h5 tk5 gs5 hb5 ok5 hapf hne5 hfv F5 N5 => ?_)
  refine chain (by decide) (l_st5 w G h198 hdp hun ok5 hapn hapf hne5 hnv H.few hfv H.fold (by have := H.imp; unfold impOf dedupe at this; rw [List.length_map] at this; omega) e1' F5 N5 fun im iv ki ps6 h6 tk6 m6 ok6 hapi hne6 hiv F6 N6 => ?_)
  have hnl2 : nv.length ≤ 2 := by rw [hnv.length]; exact H.few
  have hil : iv.length ≤ 100 := by rw [hiv.length]; exact H.imp
  refine chain (by decide) (l_st6 w G h198 hapn hapi hne6 hnl2 hil e1' e2 F6 N6 fun li o2' h7 tk7 e2' hapl hne7 hne8 F7 N7 => ?_)
  have onm : ∀ x ∈ namesOf (numsOf ns), PyData.strOk x = true := fun x hx => (H.ok x (List.mem_append_left _ hx)).2.2
  refine chain (by decide) (l_st7 w G h198 hdp hun ok6 hapn hapi hapl hne6 hne7 hne8 hnv H.few hiv H.imp (fun x hx => by rcases List.mem_append.mp hx with h | h <;> exact onm x h) H.p1 e1' e2' F7 N7 fun ps8 h8 tk8 ok8 F8 N8 => ?_)
  have hlv : Are IsS (nv ++ iv) (lisOf pars (namesOf (numsOf ns))) := hnv.append hiv
  refine chain (by decide) (l_st8 w G h198 hdp hun hapn hapi hapl hlv (Nat.le_trans H.lis (by decide)) (fun x hx => (H.ok x hx).1) (fun x hx => (H.ok x hx).2.1) e2' F8 N8 fun pl pv h9 tk9 happ hne9 hne10 hne11 hpv F9 N9 => ?_)
  have hbk9 : ∀ q ∈ [(pl, W.listOf (List.toArray pv) 0), (li, W.listOf (nv ++ iv).toArray 0), (im, W.listOf (List.toArray iv) ki), (nl, W.listOf (List.toArray nv) kn)], apL L q.1 := by
    simp only [List.forall_mem_cons]
    exact ⟨happ, hapl, hapi, hapn, fun _ h => (nomatch h)⟩
  have hl1000 : (lisOf pars (namesOf (numsOf ns))).length ≤ 1000 := Nat.le_trans H.lis (by decide)
  have hly : ∀ y ∈ lisOf pars (namesOf (numsOf ns)), y.length ≤ 1000 := fun x hx => (H.ok x hx).2.1
  refine chain (by decide) (l_st9 (resOf := resU) w G h198 hdp hun ok8 hbk9 hlv hl1000 hly hpv H.pla H.nodup H.patU (.tail _ (.head _)) (.head _) (by rfl) e2' e4 F9 N9 fun ud odU oc4 kvsU objsU ps10 h10 tk10 e4' hapU hneU loU hdU hmU ok10 F10 N10 => ?_)
  have hbk10 : ∀ q ∈ (ud, odU) :: ([(pl, W.listOf (List.toArray pv) 0), (li, W.listOf (nv ++ iv).toArray 0), (im, W.listOf (List.toArray iv) ki), (nl, W.listOf (List.toArray nv) kn)] ++ objsU), apL L q.1 := by
    intro q hq
    rcases List.mem_cons.mp hq with rfl | hq
    · exact hapU
    rcases List.mem_append.mp hq with hq | hq
    · exact hbk9 q hq
    · exact hmU.ap q hq
  refine chain (by decide) (l_st10 (resOf := resL) w G h198 hdp hun ok10 hbk10 hlv hl1000 hly hpv H.pla H.nodup H.patL (.tail _ (.tail _ (.head _))) (.tail _ (.head _)) (by rfl) e2' e5 F10 N10 fun lo odL oc5 kvsL objsL ps11 h11 tk11 e5' hapL hneL loL hdL hmL ok11 F11 N11 => ?_)
  generalize hback : (lo, odL) :: (((ud, odU) :: ([(pl, W.listOf (List.toArray pv) 0), (li, W.listOf (nv ++ iv).toArray 0), (im, W.listOf (List.toArray iv) ki), (nl, W.listOf (List.toArray nv) kn)] ++ objsU)) ++ objsL) = back at N11
  have hbk11 : ∀ q ∈ back, apL L q.1 := by
    rw [← hback]
    intro q hq
    rcases List.mem_cons.mp hq with rfl | hq
    · exact hapL
    rcases List.mem_append.mp hq with hq | hq
    · exact hbk10 q hq
    · exact hmL.ap q hq
  have mlo : (lo, odL) ∈ back := by rw [← hback]; exact .head _
  have mud : (ud, odU) ∈ back := by rw [← hback]; exact .tail _ (List.mem_append_left _ (.head _))
  have mL : ∀ q ∈ objsL, q ∈ back := fun q hq => by rw [← hback]; exact .tail _ (List.mem_append_right _ hq)
  have mU : ∀ q ∈ objsU, q ∈ back := fun q hq => by rw [← hback]; exact .tail _ (List.mem_append_left _ (.tail _ (List.mem_append_right _ hq)))
  have m4 : ∀ q ∈ [(pl, W.listOf (List.toArray pv) 0), (li, W.listOf (nv ++ iv).toArray 0), (im, W.listOf (List.toArray iv) ki), (nl, W.listOf (List.toArray nv) kn)], q ∈ back := fun q hq => by rw [← hback]; exact .tail _ (List.mem_append_left _ (.tail _ (List.mem_append_left _ hq)))
  have hT60 : ∀ (res : Str → List Stp) (a : Str), (taken (res a) (lisOf pars (namesOf (numsOf ns)))).length ≤ 900 := fun res a => Nat.le_trans (taken_le _ _) (Nat.le_trans H.lis (by decide))
  refine chain (by decide) (l_st11 (pl := pl) (pv := pv) (kp := 0) w G h198 hdp hun ok11 hbk11 hpv H.pla H.nodup mud mlo hdU hdL hmU hmL mU mL (hT60 resU) (hT60 resL) (m4 _ (.head _)) (by rfl) e4' e5' e6 F11 N11 fun be odB oc6 kvsB objsB ps12 h12 tk12 e6' hapB hneB loB hdB hmB ok12 F12 N12 => ?_)
  generalize hback2 : (be, odB) :: (back ++ objsB) = back2 at N12
  have hbk12 : ∀ q ∈ back2, apL L q.1 := by
    rw [← hback2]
    intro q hq
    rcases List.mem_cons.mp hq with rfl | hq
    · exact hapB
    rcases List.mem_append.mp hq with hq | hq
    · exact hbk11 q hq
    · exact hmB.ap q hq
  have mb2 : ∀ q ∈ back, q ∈ back2 := fun q hq => by rw [← hback2]; exact .tail _ (List.mem_append_left _ hq)
  have mB2 : ∀ q ∈ objsB, q ∈ back2 := fun q hq => by rw [← hback2]; exact .tail _ (List.mem_append_right _ hq)
  have mbe : (be, odB) ∈ back2 := by rw [← hback2]; exact .head _
  refine chain (by decide) (l_st12 w G h198 hdp hun hbk12 hlv (Nat.le_trans H.lis (by decide)) (fun x hx => (H.ok x hx).1) hly H.p4 H.p5 (fun a _ x hx => (H.ok x (taken_in hx)).2.2) (fun a _ x hx => (H.ok x (taken_in (List.mem_filter.mp hx).1)).2.2) (fun a ha => by rw [(H.p5 a ha).length_eq]; exact Nat.le_trans (taken_le _ _) H.lis) H.lev H.met hpv H.pla
    (mb2 _ mud) mbe hdU hdB loB hmU hmB (fun q hq => mb2 q (mU q hq)) mB2 (mb2 _ (m4 _ (.tail _ (.head _)))) (mb2 _ (m4 _ (.head _))) (by rfl) (by rfl) e2' e3 e4' e6' hE F12 N12 fun o3' v3 h13 tk13 m13 e3' hmi F13 N13 => ?_)
  refine chain (by decide) (l_st13 w G h198 hdp hun hbk12 hnv H.few onm hiv H.imp H.hip (mb2 _ mud) hdU hmU (fun q hq => mb2 q (mU q hq)) (mb2 _ (m4 _ (.tail _ (.tail _ (.tail _ (.head _)))))) (mb2 _ (m4 _ (.tail _ (.tail _ (.head _))))) hmi e1' e4' H.p6 F13 N13 fun h14 tk14 F14 N14 => ?_)
  exact k _ _ _ _ _ _ _ _ h14 tk14 _ gs5 ok12 hb5 F14 N14
end Mine
end
section
open PySem
set_option maxRecDepth 100000
set_option maxHeartbeats 2000000
namespace Mine
theorem l0_P1 : True := by
  k_with_none
  k_with "q" => (all_goals first | assumption | with_unfolding_all exact rfl)
  k_with "ar" => with_reducible first | assumption | (apply Ar.le2; k_extra "q") | (apply Ar.le3; k_extra "q") | (apply Ar.subC; k_extra "q")
  trivial
noncomputable def dir (qs : List (List Nat)) : List Nat := qs.flatMap (· ++ [47])
theorem dir_nil : dir [] = [] := rfl
theorem dir_cons (q : List Nat) (r : List (List Nat)) : dir (q :: r) = q ++ 47 :: dir r := by simp [dir]
theorem dir_append (a b : List (List Nat)) : dir (a ++ b) = dir a ++ dir b := by simp [dir]
theorem dir_one (q : List Nat) : dir [q] = q ++ [47] := by simp [dir]
theorem cut_eq {q p u v : List Nat} (hq : 47 ∉ q) (hp : 47 ∉ p) : q ++ 47 :: u <+: p ++ 47 :: v ↔ q = p ∧ u <+: v := by
  induction q generalizing p with
  | nil => cases p with
    | nil => simp [List.prefix_cons_inj]
    | cons c p =>
      constructor
      · intro h
        rw [List.nil_append, List.cons_append, List.cons_prefix_cons] at h
        exact absurd (List.mem_cons.mpr (.inl h.1)) hp
      · (intro qr0; (refine and2E qr0 fun h ux => ?_; try clear qr0)); cases h
  | cons c q ih => cases p with
    | nil =>
      constructor
      · intro h
        rw [List.nil_append, List.cons_append, List.cons_prefix_cons] at h
        exact absurd (List.mem_cons.mpr (.inl h.1.symm)) hq
      · (intro qr0; (refine and2E qr0 fun h ux => ?_; try clear qr0)); cases h
    | cons d p =>
      rw [List.cons_append, List.cons_append, List.cons_prefix_cons, ih (fun h => hq (.tail _ h)) (fun h => hp (.tail _ h))]
      constructor
      · (intro qr0; (refine and3E qr0 fun qq0 qq1 h => ?_; try clear qr0; rcases qq0 with rfl; rcases qq1 with rfl)); exact ⟨rfl, h⟩
      · (intro qr0; (refine and2E qr0 fun h h2 => ?_; try clear qr0)); injection h with h3 h4; exact ⟨h3, h4, h2⟩
theorem cut_end : ∀ {q l u : List Nat} {b : Bool}, 47 ∉ q → 47 ∉ l → (q ++ 47 :: u <+: l ++ (if b then [47] else []) ↔ b = true ∧ q = l ∧ u = [])
  | q, l, u, true, hq, hl => by
    rw [if_pos rfl, show l ++ [47] = l ++ 47 :: [] from rfl, cut_eq hq hl]
    simp
  | q, l, u, false, hq, hl => by
    simp only [Bool.false_eq_true, if_false, List.append_nil, false_and, iff_false]
    intro h
    exact hl (h.subset (List.mem_append_right _ (.head _)))
structure It where
  d : List (List Nat)
  l : List Nat
  b : Bool
noncomputable def It.code (x : It) : List Nat := dir x.d ++ x.l ++ (if x.b then [47] else [])
noncomputable def It.str (x : It) : Str := ⟨x.code.toArray⟩
noncomputable def okPc (p : List Nat) : Prop := p ≠ [] ∧ 47 ∉ p ∧ p.length ≤ 4 ∧ ∀ c ∈ p, c < 1114112
noncomputable def okPs (d : List (List Nat)) : Prop := ∀ p ∈ d, okPc p
structure It.Ok (x : It) : Prop where
  d : okPs x.d
  l : okPc x.l
  few : x.d.length ≤ 2
theorem dir_pre : ∀ {qs d : List (List Nat)} {l : List Nat} {b : Bool}, okPs qs → okPs d → okPc l →
    (dir qs <+: dir d ++ l ++ (if b then [47] else []) ↔ qs <+: d ∨ (b = true ∧ qs = d ++ [l]))
  | [], d, l, b, _, _, _ => by simp [dir_nil]
  | q :: qs, [], l, b, hq, _, hl => by
    rw [dir_cons, dir_nil, List.nil_append, cut_end (hq q (.head _)).2.1 hl.2.1]
    constructor
    · (intro qr0; (refine and3E qr0 fun qq0 qq1 h => ?_; try clear qr0; rcases qq0 with rfl; rcases qq1 with rfl))
      have : qs = [] := by
        cases qs with
        | nil => rfl
        | cons r s => rw [dir_cons] at h; simp at h
      subst this
      exact .inr ⟨rfl, rfl⟩
    · (intro qr0; rcases qr0 with (h | ⟨rfl, h⟩))
      · cases List.prefix_nil.mp h
      · simp at h
        (refine and2E h fun qq0 qq1 => ?_; try clear h; rcases qq0 with rfl; rcases qq1 with rfl)
        exact ⟨rfl, rfl, rfl⟩
  | q :: qs, p :: d, l, b, hq, hd, hl => by
    rw [dir_cons, dir_cons, List.append_assoc, List.append_assoc, List.cons_append, cut_eq (hq q (.head _)).2.1 (hd p (.head _)).2.1, ← List.append_assoc, dir_pre (fun r h => hq r (.tail _ h)) (fun r h => hd r (.tail _ h)) hl, List.cons_prefix_cons]
    constructor
    · (intro qr0; rcases qr0 with ⟨rfl, h | ⟨rfl, rfl⟩⟩)
      · exact .inl ⟨rfl, h⟩
      · exact .inr ⟨rfl, rfl⟩
    · (intro qr0; rcases qr0 with (⟨rfl, h⟩ | ⟨rfl, h⟩))
      · exact ⟨rfl, .inl h⟩
      · injection h with h1 h2
        exact ⟨h1, .inr ⟨rfl, h2⟩⟩
theorem dir_inj {qs d : List (List Nat)} (hq : okPs qs) (hd : okPs d) (h : dir qs = dir d) : qs = d := by
  induction qs generalizing d with
  | nil => cases d with
    | nil => rfl
    | cons p d => rw [dir_cons, dir_nil] at h; cases p <;> cases h
  | cons q qs ih => cases d with
    | nil => rw [dir_cons, dir_nil] at h; cases q <;> cases h
    | cons p d =>
      rw [dir_cons, dir_cons] at h
      have h1 := (cut_eq (hq q (.head _)).2.1 (hd p (.head _)).2.1).mp (show q ++ 47 :: dir qs <+: p ++ 47 :: dir d from ⟨[], by rw [List.append_nil, h]⟩)
      (refine and2E h1 fun qq0 ux => ?_; try clear h1; rcases qq0 with rfl)
      have h2 := List.append_cancel_left h
      injection h2 with _ h2
      rw [ih (fun r h => hq r (.tail _ h)) (fun r h => hd r (.tail _ h)) h2]
theorem code_ne {x : It} (h : x.Ok) : x.code ≠ [] := by
  unfold It.code
  intro e
  simp only [List.append_eq_nil_iff] at e
  exact h.l.1 e.1.2
theorem code_last {x : It} (h : x.Ok) : x.code.getLast? = some 47 ↔ x.b = true := by
  unfold It.code
  cases hb : x.b with
  | true => simp
  | false =>
    simp only [Bool.false_eq_true, if_false, List.append_nil, iff_false]
    rw [List.getLast?_append]
    intro e
    refine ex2E ((List.eq_nil_or_concat x.l).resolve_left h.l.1) fun l' c hl => ?_
    rw [hl, List.concat_eq_append, List.getLast?_append] at e
    simp at e
    exact h.l.2.1 (by rw [hl, List.concat_eq_append, e]; simp)
theorem code_dir {x : It} (hb : x.b = true) : x.code = dir (x.d ++ [x.l]) := by
  unfold It.code
  rw [hb, dir_append, dir_one, if_pos rfl, List.append_assoc]
theorem str_inj {x y : It} (h : x.str = y.str) : x.code = y.code := by
  unfold It.str at h
  injection h with h
  simpa using h
theorem code_d {x y : It} (hx : x.Ok) (hy : y.Ok) (h : x.code = y.code) : x.d = y.d := by
  have key : ∀ {x y : It}, x.Ok → y.Ok → x.code = y.code → x.d <+: y.d := by
    intro x y hx hy h
    have h1 : dir x.d <+: y.code := by
      rw [← h]
      unfold It.code
      rw [List.append_assoc]
      exact List.prefix_append _ _
    rcases (dir_pre hx.d hy.d hy.l).mp h1 with h2 | ⟨hb, h2⟩
    · exact h2
    · have e1 : y.code = dir x.d := by rw [code_dir hb, h2]
      rw [e1] at h
      unfold It.code at h
      rw [List.append_assoc] at h
      have := congrArg List.length h
      rw [List.length_append, List.length_append] at this
      have hl : x.l.length ≠ 0 := fun q => hx.l.1 (List.length_eq_zero_iff.mp q)
      omega
  have a := key hx hy h
  have b := key hy hx h.symm
  exact a.eq_of_length (Nat.le_antisymm a.length_le b.length_le)
noncomputable def hasN (r : List Nat) : Prop := ∃ c ∈ r, c ≠ 47
noncomputable def hasNSN (r : List Nat) : Prop := ∃ i a c, r[i]? = some a ∧ a ≠ 47 ∧ r[i + 1]? = some 47 ∧ r[i + 2]? = some c ∧ c ≠ 47
theorem pc_head {l : List Nat} (h : okPc l) : ∃ c r, l = c :: r ∧ c ≠ 47 := by
  cases l with
  | nil => exact absurd rfl h.1
  | cons c r => exact ⟨c, r, rfl, fun e => h.2.1 (e ▸ .head _)⟩
theorem pc_last {l : List Nat} (h : okPc l) : ∃ r c, l = r ++ [c] ∧ c ≠ 47 := by
  refine ex2E ((List.eq_nil_or_concat l).resolve_left h.1) fun r c e => ?_
  rw [List.concat_eq_append] at e
  exact ⟨r, c, e, fun q => h.2.1 (by rw [e, q]; simp)⟩
theorem rest_N {e : List (List Nat)} {l t : List Nat} (hl : okPc l) : hasN (dir e ++ l ++ t) := by
  (refine ex2E (pc_head hl) fun c r qq2 => ?_; refine and2E qq2 fun qq20 hc => ?_; try clear qq2; rcases qq20 with rfl)
  exact ⟨c, by simp, hc⟩
theorem rest_NSN {e : List (List Nat)} {l t : List Nat} (he : okPs e) (hl : okPc l) (hne : e ≠ []) : hasNSN (dir e ++ l ++ t) := by
  (refine ex2E ((List.eq_nil_or_concat e).resolve_left hne) fun e' p qq2 => ?_; rcases qq2 with rfl)
  rw [List.concat_eq_append] at he ⊢
  (refine ex2E (pc_last (he p (by simp))) fun r a qq2 => ?_; refine and2E qq2 fun qq20 ha => ?_; try clear qq2; rcases qq20 with rfl)
  (refine ex2E (pc_head hl) fun c s qq2 => ?_; refine and2E qq2 fun qq20 hc => ?_; try clear qq2; rcases qq20 with rfl)
  refine ⟨(dir e' ++ r).length, a, c, ?_, ha, ?_, ?_, hc⟩
  all_goals
    rw [dir_append, dir_one, show dir e' ++ (r ++ [a] ++ [47]) ++ c :: s ++ t = (dir e' ++ r) ++ (a :: 47 :: c :: (s ++ t)) by simp]
    rw [List.getElem?_append_right (by omega)]
  · simp
  · rw [show (dir e' ++ r).length + 1 - (dir e' ++ r).length = 1 by omega]; rfl
  · rw [show (dir e' ++ r).length + 2 - (dir e' ++ r).length = 2 by omega]; rfl
theorem one_NSN {l : List Nat} {b : Bool} (hl : okPc l) : ¬ hasNSN (l ++ (if b then [47] else [])) := by
  (intro qr0; (refine ex3E qr0 fun i a c qq3 => ?_; try clear qr0; refine and5E qq3 fun h1 ha h2 h3 hc => ?_; try clear qq3))
  by_cases hi : i + 1 < l.length
  · rw [List.getElem?_append_left hi] at h2
    exact hl.2.1 (List.mem_of_getElem? h2)
  · have h4 := (List.getElem?_eq_some_iff.mp h3).1
    rw [List.length_append] at h4
    have : (if b = true then [47] else ([] : List Nat)).length ≤ 1 := by cases b <;> simp
    omega
theorem nil_N : ¬ hasN [] := fun ⟨_, h, _⟩ => nomatch h
theorem it_U {x : It} {qs : List (List Nat)} (hx : x.Ok) (hq : okPs qs) : (dir qs <+: x.code ∧ hasN (x.code.drop (dir qs).length)) ↔ qs <+: x.d := by
  constructor
  · (intro qr0; (refine and2E qr0 fun h1 h2 => ?_; try clear qr0))
    rcases (dir_pre hq hx.d hx.l).mp h1 with h | ⟨hb, h⟩
    · exact h
    · rw [code_dir hb, h, List.drop_length] at h2
      exact absurd h2 nil_N
  · intro h
    (refine ex1E h fun e he => ?_; try clear h)
    refine ⟨(dir_pre hq hx.d hx.l).mpr (.inl ⟨e, he⟩), ?_⟩
    unfold It.code
    rw [← he, dir_append, List.append_assoc, List.append_assoc, List.drop_left, ← List.append_assoc]
    exact rest_N hx.l
theorem it_L {x : It} {qs : List (List Nat)} (hx : x.Ok) (hq : okPs qs) : (dir qs <+: x.code ∧ hasNSN (x.code.drop (dir qs).length)) ↔ qs <+: x.d ∧ qs ≠ x.d := by
  constructor
  · (intro qr0; (refine and2E qr0 fun h1 h2 => ?_; try clear qr0))
    rcases (dir_pre hq hx.d hx.l).mp h1 with h | ⟨hb, h⟩
    · refine ⟨h, fun e => ?_⟩
      unfold It.code at h2
      rw [e, List.append_assoc, List.drop_left] at h2
      exact one_NSN hx.l h2
    · rw [code_dir hb, h, List.drop_length] at h2
      (refine ex3E h2 fun i a c qq3 => ?_; try clear h2; refine and2E qq3 fun h3 ux => ?_; try clear qq3)
      cases h3
  · (intro qr0; (refine and2E qr0 fun qq0 hne => ?_; try clear qr0; refine ex1E qq0 fun e he => ?_; try clear qq0))
    refine ⟨(dir_pre hq hx.d hx.l).mpr (.inl ⟨e, he⟩), ?_⟩
    have hn : e ≠ [] := fun q => hne (by rw [← he, q, List.append_nil])
    unfold It.code
    rw [← he, dir_append, List.append_assoc, List.append_assoc, List.drop_left, ← List.append_assoc]
    exact rest_NSN (fun p hp => hx.d p (by rw [← he]; exact List.mem_append_right _ hp)) hx.l hn
end Mine
end
section
open PySem
set_option maxRecDepth 100000
set_option maxHeartbeats 2000000
namespace Mine
theorem l0_P2 : True := by
  k_with_none
  k_with "q" => (all_goals first | assumption | with_unfolding_all exact rfl)
  k_with "ar" => with_reducible first | assumption | (apply Ar.le1; k_extra "q") | (apply Ar.notlt; k_extra "q") | (apply Ar.n6; k_extra "q") | (apply Ar.pt0; k_extra "q") | (apply Ar.nel; k_extra "q") | (apply Ar.sub0; k_extra "q") | (apply Ar.sub0'; k_extra "q") | (apply Ar.subA; k_extra "q") | (apply Ar.subA'; k_extra "q") | (apply Ar.n2; k_extra "q") | (apply Ar.n4; k_extra "q") | (apply Ar.n16; k_extra "q") | (apply Ar.n7; k_extra "q") | (apply Ar.n8; k_extra "q") | (apply Ar.n5; k_extra "q")
  trivial
noncomputable abbrev litS (f : List Nat) : List Stp := f.map fun c => .one ⟨0, false, [c]⟩
noncomputable abbrev notSl : Sg := ⟨0, true, [47]⟩
noncomputable abbrev isSl : Sg := ⟨0, false, [47]⟩
noncomputable abbrev anySg : Sg := ⟨1, true, []⟩
theorem endsF_app (t : List Nat) (a b : List Stp) (ps : List Nat) : endsF t (a ++ b) ps = endsF t b (endsF t a ps) := List.foldl_append ..
theorem sg0_one (t : List Nat) (g : Sg) (hg : g.many = 0) (k : Nat) : sgF t g [k] = if k < t.length ∧ hit t g k = true then [k + 1] else [] := by
  unfold sgF
  rw [if_pos hg]
  unfold sgF0
  by_cases h : k < t.length ∧ hit t g k = true
  · rw [if_pos h]
    simp [List.filter_cons, h.1, h.2]
  · rw [if_neg h]
    have : (decide (k < t.length) && hit t g k) = false := by
      rw [Bool.and_eq_false_iff]
      by_cases h1 : k < t.length
      · exact .inr (by cases q : hit t g k with
          | true => exact absurd ⟨h1, q⟩ h
          | false => rfl)
      · exact .inl (decide_eq_false h1)
    simp [List.filter_cons, this]
theorem getD_eq {t : List Nat} {k : Nat} (h : k < t.length) : t.getD k 0 = t[k] := by simp [h]
theorem lit_ends (t : List Nat) : ∀ (f : List Nat) (k : Nat), k ≤ t.length → endsF t (litS f) [k] = if f <+: t.drop k then [k + f.length] else []
  | [], k, _ => by simp [litS, endsF]
  | c :: f, k, hk => by
    show endsF t (litS f) (sgF t ⟨0, false, [c]⟩ [k]) = _
    rw [sg0_one t _ rfl]
    by_cases h : k < t.length
    · have e : (c :: f <+: t.drop k) ↔ c = t[k] ∧ f <+: t.drop (k + 1) := by
        rw [List.drop_eq_getElem_cons h, List.cons_prefix_cons]
      by_cases hc : c = t[k]
      · have : hit t ⟨0, false, [c]⟩ k = true := by unfold hit; simp only [getD_eq h, hc]; simp
        rw [if_pos ⟨h, this⟩, lit_ends t f (k + 1) h]
        by_cases hf : f <+: t.drop (k + 1)
        · rw [if_pos hf, if_pos (e.mpr ⟨hc, hf⟩), List.length_cons]; congr 1; omega
        · rw [if_neg hf, if_neg fun q => hf (e.mp q).2]
      · have : ¬ hit t ⟨0, false, [c]⟩ k = true := by
          unfold hit
          simp only [getD_eq h, List.cons.injEq, and_true]
          simp [Ne.symm hc]
        rw [if_neg fun q => this q.2, if_neg fun q => hc (e.mp q).1]
        exact endsF_nil _ _
    · rw [if_neg fun q => h q.1, if_neg]
      · exact endsF_nil _ _
      · rw [List.drop_of_length_le (by omega)]
        intro q
        cases List.prefix_nil.mp q
theorem any_fold (t : List Nat) (e : Nat) : ∀ n, (List.range n).foldl (mvF t anySg [e]) [] = List.range' e (n - e)
  | 0 => by simp
  | n + 1 => by
    rw [List.range_succ, List.foldl_append, any_fold t e n]
    simp only [List.foldl_cons, List.foldl_nil]
    have hh : hit t anySg (n - 1) = true := by unfold hit; simp
    unfold mvF
    rw [hh, Bool.and_true]
    by_cases h : n < e
    · have e1 : n - e = 0 := by omega
      have e2 : n + 1 - e = 0 := by omega
      rw [e1, e2]
      have : ([e].contains n) = false := by simp; omega
      simp [this]; omega
    · have e2 : n + 1 - e = (n - e) + 1 := by omega
      rw [e2, List.range'_1_concat]
      have e3 : e + (n - e) = n := by omega
      rw [e3, if_pos]
      by_cases hne : n = e
      · subst hne; simp
      · have e4 : n - e = (n - e - 1) + 1 := by omega
        rw [e4, List.range'_1_concat]
        simp
        omega
theorem any_ends (t : List Nat) (e : Nat) (h : e ≤ t.length) : (sgF t anySg [e]).contains t.length = true := by
  unfold sgF
  rw [if_neg (by decide)]
  unfold sgF1
  rw [any_fold, List.contains_iff_mem, List.mem_range'_1]
  omega
theorem first_ne (t : List Nat) (G : List Sg) (p : Nat) : firstF t G p ≠ [] ↔ ∃ q, p ≤ q ∧ q ≤ t.length ∧ endsG t G [q] ≠ [] := by
  unfold firstF
  cases h : (List.range' p (t.length + 1 - p)).findSome? fun q => (endsG t G [q]).head? with
  | none =>
    simp only [Option.toList_none, ne_eq, not_true_eq_false, false_iff]
    (intro qr0; (refine ex1E qr0 fun q qq1 => ?_; try clear qr0; refine and3E qq1 fun h1 h2 h3 => ?_; try clear qq1))
    have := List.findSome?_eq_none_iff.mp h q (List.mem_range'_1.mpr (by omega))
    exact h3 (List.head?_eq_none_iff.mp this)
  | some e =>
    simp only [Option.toList_some, ne_eq, List.cons_ne_nil, not_false_eq_true, true_iff]
    (refine ex1E (List.exists_of_findSome?_eq_some h) fun q qq1 => ?_; refine and2E qq1 fun h1 h2 => ?_; try clear qq1)
    rw [List.mem_range'_1] at h1
    refine ⟨q, by omega, by omega, fun e => ?_⟩
    rw [e] at h2; cases h2
theorem res_takes (t f : List Nat) (G : List Sg) : (endsF t (litS f ++ [.grp G, .one anySg]) [0]).contains t.length = true ↔ f <+: t ∧ ∃ q, f.length ≤ q ∧ q ≤ t.length ∧ endsG t G [q] ≠ [] := by
  rw [endsF_app, lit_ends t f 0 (Nat.zero_le _), List.drop_zero]
  by_cases hf : f <+: t
  · rw [if_pos hf, Nat.zero_add]
    show (sgF t anySg ([f.length].flatMap (firstF t G))).contains t.length = true ↔ _
    rw [List.flatMap_cons, List.flatMap_nil, List.append_nil, ← first_ne]
    simp only [hf, true_and]
    have h1 := first_one (t := t) (gs := G) (p := f.length)
    have h2 := first_within (t := t) (gs := G) (p := f.length)
    cases q : firstF t G f.length with
    | nil =>
      simp only [ne_eq, not_true_eq_false, iff_false]
      have : sgF t anySg [] = [] := stF_nil t (.one anySg)
      rw [this]; simp
    | cons e r =>
      rw [q] at h1 h2
      have : r = [] := List.length_eq_zero_iff.mp (by rw [List.length_cons] at h1; omega)
      subst this
      simp only [ne_eq, List.cons_ne_nil, not_false_eq_true, iff_true]
      exact any_ends t e (h2 e (.head _))
  · rw [if_neg hf, endsF_nil]
    simp [hf]
theorem not_hit {t : List Nat} {q : Nat} (h : q < t.length) : hit t notSl q = true ↔ t[q] ≠ 47 := by
  unfold hit
  simp only [getD_eq h]
  simp
theorem is_hit {t : List Nat} {q : Nat} (h : q < t.length) : hit t isSl q = true ↔ t[q] = 47 := by
  unfold hit
  simp only [getD_eq h]
  simp
theorem ends_N (t : List Nat) (q : Nat) : endsG t [notSl] [q] ≠ [] ↔ ∃ c, t[q]? = some c ∧ c ≠ 47 := by
  show sgF t notSl [q] ≠ [] ↔ _
  rw [sg0_one t _ rfl]
  by_cases h : q < t.length
  · rw [List.getElem?_eq_getElem h]
    by_cases hh : hit t notSl q = true
    · rw [if_pos ⟨h, hh⟩]
      simp only [ne_eq, List.cons_ne_nil, not_false_eq_true, true_iff]
      exact ⟨_, rfl, (not_hit h).mp hh⟩
    · rw [if_neg fun z => hh z.2]
      simp only [ne_eq, not_true_eq_false, false_iff]
      (intro qr0; (refine ex1E qr0 fun c qq1 => ?_; try clear qr0; refine and2E qq1 fun e hc => ?_; try clear qq1))
      cases e
      exact hh ((not_hit h).mpr hc)
  · rw [if_neg fun z => h z.1, List.getElem?_eq_none (by omega)]
    simp
theorem ends_NSN (t : List Nat) (q : Nat) : endsG t [notSl, isSl, notSl] [q] ≠ [] ↔ ∃ a c, t[q]? = some a ∧ a ≠ 47 ∧ t[q + 1]? = some 47 ∧ t[q + 2]? = some c ∧ c ≠ 47 := by
  have z : ∀ g, sgF t g [] = [] := fun g => stF_nil t (.one g)
  show sgF t notSl (sgF t isSl (sgF t notSl [q])) ≠ [] ↔ _
  constructor
  · intro h
    by_cases h1 : q < t.length ∧ hit t notSl q = true
    · rw [sg0_one t notSl rfl q, if_pos h1] at h
      by_cases h2 : q + 1 < t.length ∧ hit t isSl (q + 1) = true
      · rw [sg0_one t isSl rfl (q + 1), if_pos h2] at h
        by_cases h3 : q + 1 + 1 < t.length ∧ hit t notSl (q + 1 + 1) = true
        · refine ⟨t[q], t[q + 1 + 1], List.getElem?_eq_getElem h1.1, (not_hit h1.1).mp h1.2, ?_, List.getElem?_eq_getElem h3.1, (not_hit h3.1).mp h3.2⟩
          rw [List.getElem?_eq_getElem h2.1, (is_hit h2.1).mp h2.2]
        · rw [sg0_one t notSl rfl (q + 1 + 1), if_neg h3] at h
          exact absurd rfl h
      · rw [sg0_one t isSl rfl (q + 1), if_neg h2, z] at h
        exact absurd rfl h
    · rw [sg0_one t notSl rfl q, if_neg h1, z, z] at h
      exact absurd rfl h
  · (intro qr0; (refine ex2E qr0 fun a c qq2 => ?_; try clear qr0; refine and5E qq2 fun e1 ha e2 e3 hc => ?_; try clear qq2))
    refine ex1E (List.getElem?_eq_some_iff.mp e1) fun l1 e1 => ?_
    refine ex1E (List.getElem?_eq_some_iff.mp e2) fun l2 e2 => ?_
    refine ex1E (List.getElem?_eq_some_iff.mp e3) fun l3 e3 => ?_
    rw [sg0_one t notSl rfl q, if_pos ⟨l1, (not_hit l1).mpr (by rw [e1]; exact ha)⟩, sg0_one t isSl rfl (q + 1), if_pos ⟨l2, (is_hit l2).mpr e2⟩, sg0_one t notSl rfl (q + 1 + 1), if_pos ⟨l3, (not_hit l3).mpr (by rw [show t[q + 1 + 1] = c from e3]; exact hc)⟩]
    simp
theorem takes_U (t f : List Nat) : (endsF t (litS f ++ [.grp [notSl], .one anySg]) [0]).contains t.length = true ↔ f <+: t ∧ hasN (t.drop f.length) := by
  rw [res_takes]
  refine and_congr_right fun _ => ⟨?_, ?_⟩
  · (intro qr0; (refine ex1E qr0 fun q qq1 => ?_; try clear qr0; refine and3E qq1 fun h1 h2 h3 => ?_; try clear qq1))
    (refine ex1E ((ends_N t q).mp h3) fun c qq1 => ?_; refine and2E qq1 fun e hc => ?_; try clear qq1)
    refine ⟨c, ?_, hc⟩
    refine List.mem_of_getElem? (i := q - f.length) ?_
    rw [List.getElem?_drop, show f.length + (q - f.length) = q by omega, e]
  · (intro qr0; (refine ex1E qr0 fun c qq1 => ?_; try clear qr0; refine and2E qq1 fun hm hc => ?_; try clear qq1))
    refine ex1E (List.getElem?_of_mem hm) fun i e => ?_
    rw [List.getElem?_drop] at e
    have := (List.getElem?_eq_some_iff.mp e).1
    exact ⟨f.length + i, by omega, by omega, (ends_N t _).mpr ⟨c, e, hc⟩⟩
theorem takes_L (t f : List Nat) : (endsF t (litS f ++ [.grp [notSl, isSl, notSl], .one anySg]) [0]).contains t.length = true ↔ f <+: t ∧ hasNSN (t.drop f.length) := by
  rw [res_takes]
  refine and_congr_right fun _ => ⟨?_, ?_⟩
  · (intro qr0; (refine ex1E qr0 fun q qq1 => ?_; try clear qr0; refine and3E qq1 fun h1 h2 h3 => ?_; try clear qq1))
    (refine ex2E ((ends_NSN t q).mp h3) fun a c qq2 => ?_; refine and5E qq2 fun e1 ha e2 e3 hc => ?_; try clear qq2)
    refine ⟨q - f.length, a, c, ?_, ha, ?_, ?_, hc⟩
    · rw [List.getElem?_drop, show f.length + (q - f.length) = q by omega, e1]
    · rw [List.getElem?_drop, show f.length + (q - f.length + 1) = q + 1 by omega, e2]
    · rw [List.getElem?_drop, show f.length + (q - f.length + 2) = q + 2 by omega, e3]
  · (intro qr0; (refine ex3E qr0 fun i a c qq3 => ?_; try clear qr0; refine and5E qq3 fun e1 ha e2 e3 hc => ?_; try clear qq3))
    rw [List.getElem?_drop] at e1 e2 e3
    have := (List.getElem?_eq_some_iff.mp e1).1
    exact ⟨f.length + i, by omega, by omega, (ends_NSN t _).mpr ⟨a, c, e1, ha, e2, e3, hc⟩⟩
end Mine
end
section
open PySem PySem.W PySem.Spec PySem.Calls PyProof.Rows
set_option maxRecDepth 100000
set_option maxHeartbeats 2000000
namespace Mine
theorem l0_P3 : True := by
  k_with_none
  k_with "q" => (all_goals first | assumption | with_unfolding_all exact rfl)
  k_with "ar" => with_reducible first | assumption | (apply Ar.sn; k_extra "q") | (apply Ar.sn1; k_extra "q") | (apply Ar.s1; k_extra "q") | (apply Ar.mn4; k_extra "q")
  trivial
theorem cps_app (a b : Str) : (a ++ b).cps.toList = a.cps.toList ++ b.cps.toList := by simp [Str.cps_append]
theorem str_ext {a b : Str} (h : a.cps.toList = b.cps.toList) : a = b := by
  obtain ⟨x⟩ := a
  obtain ⟨y⟩ := b
  exact congrArg Str.mk (Array.toList_inj.mp h)
theorem ofS (x : String) (l : List Nat) (h : (Str.ofString x).cps.toList = l) : Str.ofString x = ⟨l.toArray⟩ := str_ext (by simpa using h)
theorem cps_empty : (Str.ofString "").cps.toList = [] := by decide +kernel
theorem cat_flat : ∀ (xs : List Str), (Str.join (Str.ofString "") xs).cps.toList = xs.flatMap fun x => x.cps.toList
  | [] => rfl
  | [x] => by simp [Str.join]
  | x :: y :: r => by
    show (x ++ Str.ofString "" ++ Str.join (Str.ofString "") (y :: r)).cps.toList = _
    rw [cps_app, cps_app, cat_flat (y :: r), cps_empty]
    simp
theorem cps_len (x : Str) : x.length = x.cps.toList.length := by simp [Str.length]
noncomputable def fTok (c : Nat) : PTok := if c = 42 ∨ c = 63 ∨ c = 91 then .br [c] else .lit c
noncomputable def escL (c : Nat) : List Nat := if c = 42 ∨ c = 63 ∨ c = 91 then [91, c, 93] else [c]
theorem esc_cps (x : Str) : (esc x).cps.toList = x.cps.toList.flatMap escL := by
  unfold esc
  rw [cat_flat, List.flatMap_map]
  congr 1
  funext c
  have e : (Str.ofString "*?[").cps.toList = [42, 63, 91] := by decide +kernel
  unfold escC escL
  rw [e]
  simp only [List.mem_cons, List.not_mem_nil, or_false]
  split <;> rfl
theorem ftok_text (c : Nat) : (fTok c).text = escL c := by
  unfold fTok escL
  split <;> rfl
theorem ftok_ok (c : Nat) : (fTok c).ok := by
  unfold fTok
  split
  · rename_i h
    rcases h with rfl | rfl | rfl
    · exact .inl rfl
    · exact .inr (.inl rfl)
    · exact .inr (.inr (.inl rfl))
  · rename_i h
    exact ⟨fun q => h (.inl q), fun q => h (.inr (.inl q)), fun q => h (.inr (.inr q))⟩
theorem ftok_part (c : Nat) : ∃ y, (fTok c).part = some y := by
  unfold fTok
  split <;> exact ⟨_, rfl⟩
theorem apart_f : ∀ (f : List Nat) (r : List PTok), apart r → apart (f.map fTok ++ r)
  | [], _, h => h
  | c :: f, r, h => by
    have ih := apart_f f r h
    show apart (fTok c :: (f.map fTok ++ r))
    unfold fTok
    split
    · cases f <;> cases r <;> first | exact ih | exact h
    · cases f <;> cases r <;> first | exact ih | exact h
noncomputable def fRe (c : Nat) : Str := if c = 42 ∨ c = 63 ∨ c = 91 then brRe [c] else escRe c
theorem ftok_re (c : Nat) : (fTok c).part = some (fRe c) := by
  unfold fTok fRe
  split <;> rfl
noncomputable def fN (c : Nat) : Nat := (fRe c).length
noncomputable def fR (c : Nat) : RTok := .one (fRe c).cps.toList ⟨0, false, [c]⟩ (fN c)
theorem fre_len (c : Nat) : (fRe c).length ≤ 4 := by
  unfold fRe
  split
  · rename_i h
    rcases h with rfl | rfl | rfl <;> decide +kernel
  · unfold escRe
    split
    · exact (by decide : (2 : Nat) ≤ 4)
    · exact (by decide : (1 : Nat) ≤ 4)
theorem fre_head (c : Nat) : ∃ a l, (fRe c).cps.toList = a :: l ∧ a ≠ 40 ∧ a ≠ 41 ∧ a ≠ 42 := by
  unfold fRe
  split
  · rename_i h
    rcases h with rfl | rfl | rfl
    · exact ⟨91, [42, 93], by decide +kernel, by decide, by decide, by decide⟩
    · exact ⟨91, [63, 93], by decide +kernel, by decide, by decide, by decide⟩
    · exact ⟨91, [92, 91, 93], by decide +kernel, by decide, by decide, by decide⟩
  · unfold escRe
    split
    · exact ⟨92, [c], rfl, by decide, by decide, by decide⟩
    · rename_i h
      exact ⟨c, [], rfl, fun e => h (by rw [e]; decide), fun e => h (by rw [e]; decide), fun e => h (by rw [e]; decide)⟩
theorem fre_step (c d : Nat) (rest : List Nat) (hd : d ≠ 42) : StepAt ((fRe c).cps.toList ++ d :: rest) 0 false [c] (fN c) := by
  unfold fN fRe
  split
  · rename_i h
    rcases h with rfl | rfl | rfl
    · exact .set 42 d rest (by decide) (by decide) hd
    · exact .set 63 d rest (by decide) (by decide) hd
    · exact .sq d rest hd
  · unfold escRe
    split
    · exact .esc c d rest hd
    · rename_i h
      exact .plain c d rest (fun e => h (by rw [e]; decide)) (fun e => h (by rw [e]; decide)) (fun e => h (by rw [e]; decide)) hd
noncomputable def noStar (l : List Nat) : Prop := ∃ d r, l = d :: r ∧ d ≠ 42
theorem good_f : ∀ (f : List Nat) (r : List RTok), Good r → noStar (rtx r) → Good (f.map fR ++ r) ∧ noStar (rtx (f.map fR ++ r))
  | [], _, h, hs => ⟨h, hs⟩
  | c :: f, r, h, hs => by
    (refine and2E (good_f f r h hs) fun g qq1 => ?_; refine ex2E qq1 fun d u qq12 => ?_; try clear qq1; refine and2E qq12 fun e hd => ?_; try clear qq12)
    refine ⟨⟨⟨?_, rfl, ?_⟩, g⟩, ?_⟩
    · show StepAt ((fRe c).cps.toList ++ rtx (f.map fR ++ r)) 0 false [c] (fN c)
      rw [e]; exact fre_step c d u hd
    · (refine ex2E (fre_head c) fun a l qq2 => ?_; refine and4E qq2 fun e2 h1 h2 ux => ?_; try clear qq2)
      exact ⟨a, l, e2, h1, h2⟩
    · (refine ex2E (fre_head c) fun a l qq2 => ?_; refine and4E qq2 fun e2 ux ux h3 => ?_; try clear qq2)
      refine ⟨a, l ++ rtx (f.map fR ++ r), ?_, h3⟩
      show (fRe c).cps.toList ++ rtx (f.map fR ++ r) = _
      rw [e2]; rfl
theorem fin_f : ∀ (f : List Nat) (r : List RTok) (a : List Stp), fin (f.map fR ++ r) a none = fin r (a ++ litS f) none
  | [], _, a => by simp [litS]
  | c :: f, r, a => by
    show fin (f.map fR ++ r) (a ++ [.one ⟨0, false, [c]⟩]) none = _
    rw [fin_f f r, List.append_assoc]; rfl
theorem rtx_app (a b : List RTok) : rtx (a ++ b) = rtx a ++ rtx b := List.flatMap_append
theorem rtx_f (f : List Nat) : rtx (f.map fR) = f.flatMap fun c => (fRe c).cps.toList := by
  unfold rtx
  rw [List.flatMap_map]; rfl
theorem esc_len (f : List Nat) : (f.flatMap escL).length ≤ 3 * f.length := by
  induction f with
  | nil => simp
  | cons c f ih =>
    rw [List.flatMap_cons, List.length_append, List.length_cons]
    have : (escL c).length ≤ 3 := by unfold escL; split <;> simp
    omega
theorem fre_sum (f : List Nat) : ((f.map fRe).map (·.length)).sum ≤ 4 * f.length := by
  induction f with
  | nil => simp
  | cons c f ih =>
    rw [List.map_cons, List.map_cons, List.sum_cons, List.length_cons]
    have := fre_len c
    omega
theorem flat_len (f : List Nat) : (f.flatMap fun c => (fRe c).cps.toList).length ≤ 4 * f.length := by
  induction f with
  | nil => simp
  | cons c f ih =>
    rw [List.flatMap_cons, List.length_append, List.length_cons]
    have := fre_len c
    rw [cps_len] at this
    omega
theorem pat_of (a : Str) (suf : String) (mid : List PTok) (xs1 : List Str) (gr : List RTok) (gs : List Sg) (ha : a.length ≤ 20)
    (h1 : (Str.ofString suf).cps.toList = tx (PTok.star :: mid ++ [.star])) (h2 : ∀ k ∈ mid, k.ok) (h3 : apart (PTok.star :: mid ++ [.star])) (h4 : mid.map PTok.part = xs1.map some) (h5 : xs1 ≠ []) (h6 : xs1.length ≤ 100 ∧ (xs1.map (·.length)).sum ≤ 100)
    (h7 : (xs1.flatMap fun x => x.cps.toList) = rtx gr) (h8 : Good (.opn :: gr ++ [.cls, .one [46, 42] anySg 1])) (h9 : ∀ acc, fin (.opn :: gr ++ [.cls, .one [46, 42] anySg 1]) acc none = some (acc ++ [.grp gs, .one anySg])) (h10 : gr.length ≤ 10) (h11 : (Str.ofString suf).length ≤ 20)
    (h12 : gs ≠ [] ∧ gs.length ≤ 1000 ∧ ∀ g ∈ gs, (g.many = 0 ∨ g.many = 1) ∧ g.sign.length ≤ 1) :
    Pat (esc a ++ Str.ofString suf) (litS a.cps.toList ++ [.grp gs, .one anySg]) := by
  have hal : a.cps.toList.length ≤ 20 := by rw [← cps_len]; exact ha
  generalize hf : a.cps.toList = f at hal
  have hx : esc a ++ Str.ofString suf = ⟨(tx (f.map fTok ++ PTok.star :: mid ++ [.star])).toArray⟩ := by
    refine str_ext ?_
    rw [cps_app, esc_cps, hf, h1]
    simp only [tx, List.flatMap_append, List.flatMap_map, List.append_assoc, List.cons_append, ftok_text]
  have elen := esc_len f
  have l1 : (Str.ofString "(?s:").cps.toList = [40, 63, 115, 58] := by decide +kernel
  have l2 : (Str.ofString "(?>.*?").cps.toList = [40, 63, 62, 46, 42, 63] := by decide +kernel
  have l3 : (Str.ofString ")").cps.toList = [41] := by decide +kernel
  have l4 : (Str.ofString ".*").cps.toList = [46, 42] := by decide +kernel
  have l0 : Str.empty.cps.toList = [] := by decide +kernel
  have hbody : (Str.join (Str.ofString "") ((f.map fRe) ++ [Str.empty ++ Str.ofString "(?>.*?" ++ Str.join (Str.ofString "") xs1 ++ Str.ofString ")", Str.ofString ".*"])).cps.toList = rtx (f.map fR ++ (.opn :: gr ++ [.cls, .one [46, 42] anySg 1])) := by
    rw [cat_flat, rtx_app, rtx_f, List.flatMap_append, List.flatMap_map]
    congr 1
    simp only [List.flatMap_cons, List.flatMap_nil, cps_app, l0, l2, l3, l4, cat_flat, h7]
    simp [rtx, RTok.text]
  have hg : noStar (rtx (.opn :: gr ++ [.cls, .one [46, 42] anySg 1])) := ⟨40, [63, 62, 46, 42, 63] ++ rtx (gr ++ [.cls, .one [46, 42] anySg 1]), rfl, by decide⟩
  have hG := good_f f _ h8 hg
  refine ⟨⟨f.map fTok ++ PTok.star :: mid ++ [.star], f.map fRe, xs1, f.map fR ++ (.opn :: gr ++ [.cls, .one [46, 42] anySg 1]), Str.join (Str.ofString "") ((f.map fRe) ++ [Str.empty ++ Str.ofString "(?>.*?" ++ Str.join (Str.ofString "") xs1 ++ Str.ofString ")", Str.ofString ".*"]), ?_, ?_, hx, ?_, h5, ⟨?_, h6.1⟩, ⟨?_, ?_⟩, rfl, ?_, ?_, hG.1, ?_, ?_⟩, ?_, ?_, ?_, ?_, ?_⟩
  · intro k hk
    simp only [List.mem_append, List.mem_cons, List.not_mem_nil, or_false] at hk
    rcases hk with (hk | rfl | hk) | rfl
    · (refine ex1E (List.mem_map.mp hk) fun c qq1 => ?_; refine and2E qq1 fun ux qq11 => ?_; try clear qq1; rcases qq11 with rfl)
      exact ftok_ok c
    · trivial
    · exact h2 k hk
    · trivial
  · rw [List.append_assoc]
    exact apart_f f _ h3
  · simp only [List.map_append, List.map_cons, List.map_map, List.map_nil, h4, List.append_assoc, List.cons_append]
    congr 1
    refine List.map_congr_left fun c _ => ?_
    exact ftok_re c
  · rw [List.length_map]; omega
  · have := fre_sum f; omega
  · omega
  · rw [cps_len, hbody, rtx_app, rtx_f, List.length_append]
    have := flat_len f
    have h13 : (rtx gr).length ≤ 100 := by
      rw [← h7]
      refine Nat.le_trans ?_ h6.2
      clear h4 h5 h6 h7 hbody hG
      induction xs1 with
      | nil => simp
      | cons x r ih =>
        rw [List.flatMap_cons, List.length_append, List.map_cons, List.sum_cons, cps_len x]
        have := ih
        omega
    have h14 : rtx (.opn :: gr ++ [.cls, .one [46, 42] anySg 1]) = [40, 63, 62, 46, 42, 63] ++ rtx gr ++ [41, 46, 42] := by simp [rtx, RTok.text]
    rw [h14]
    simp only [List.length_append, List.length_cons, List.length_nil]
    omega
  · exact str_ext (by rw [hbody])
  · rw [fin_f, h9]; rfl
  · rw [List.length_append, List.length_map, List.length_append, List.length_cons]
    simp only [List.length_cons, List.length_nil]
    omega
  · rw [cps_len, cps_app, List.length_append, esc_cps, hf, ← cps_len]; omega
  · intro st hst
    simp only [List.mem_append, List.mem_cons, List.not_mem_nil, or_false] at hst
    rcases hst with hst | rfl | rfl
    · (refine ex1E (List.mem_map.mp hst) fun c qq1 => ?_; refine and2E qq1 fun ux qq11 => ?_; try clear qq1; rcases qq11 with rfl)
      exact ⟨.inl rfl, Nat.le_refl _⟩
    · trivial
    · exact ⟨.inr rfl, Nat.zero_le _⟩
  · intro b hb
    simp only [List.mem_append, List.mem_cons, List.not_mem_nil, or_false] at hb
    rcases hb with hb | hb | hb
    · (refine ex1E (List.mem_map.mp hb) fun c qq1 => ?_; refine and2E qq1 fun ux e => ?_; try clear qq1)
      cases e
    · injection hb with hb
      subst hb; exact h12
    · cases hb
  · simp
  · rw [List.length_append, List.length_map]; simp only [List.length_cons, List.length_nil]; omega
end Mine
end
section
open PySem PySem.W PySem.Spec PySem.Calls PyProof.Rows
set_option maxRecDepth 100000
set_option maxHeartbeats 2000000
namespace Mine
theorem l0_P4 : True := by
  k_with_none
  trivial
noncomputable abbrev resU (a : Str) : List Stp := litS a.cps.toList ++ [.grp [notSl], .one anySg]
noncomputable abbrev resL (a : Str) : List Stp := litS a.cps.toList ++ [.grp [notSl, isSl, notSl], .one anySg]
theorem good_tail : Good [.cls, .one [46, 42] anySg 1] := ⟨⟨.any [], rfl, 46, [42], rfl, by decide, by decide⟩, trivial⟩
theorem pat_U (a : Str) (ha : a.length ≤ 20) : Pat (esc a ++ Str.ofString "*[!/]*") (resU a) := by
  refine pat_of a "*[!/]*" [.br [33, 47]] [brRe [33, 47]] [.one [91, 94, 47, 93] notSl 4] [notSl] ha (by decide +kernel) ?_ ?_ rfl (by simp) ⟨by simp, by decide +kernel⟩ (by decide +kernel) ?_ (fun acc => by simp [fin]) (by simp) (by decide +kernel) ⟨by simp, by simp, ?_⟩
  · intro k hk
    rw [List.mem_singleton.mp hk]
    exact .inr (.inr (.inr rfl))
  · trivial
  · exact ⟨⟨.not 41 [46, 42] (by decide), rfl, 91, [94, 47, 93], rfl, by decide, by decide⟩, good_tail⟩
  · intro g hg
    rw [List.mem_singleton.mp hg]
    exact ⟨.inl rfl, Nat.le_refl _⟩
theorem pat_L (a : Str) (ha : a.length ≤ 20) : Pat (esc a ++ Str.ofString "*[!/]/[!/]*") (resL a) := by
  refine pat_of a "*[!/]/[!/]*" [.br [33, 47], .lit 47, .br [33, 47]] [brRe [33, 47], escRe 47, brRe [33, 47]] [.one [91, 94, 47, 93] notSl 4, .one [47] isSl 1, .one [91, 94, 47, 93] notSl 4] [notSl, isSl, notSl] ha (by decide +kernel) ?_ ?_ rfl (by simp) ⟨by simp, by decide +kernel⟩ (by decide +kernel) ?_ (fun acc => by simp [fin]) (by simp) (by decide +kernel) ⟨by simp, by simp, ?_⟩
  · intro k hk
    simp only [List.mem_cons, List.not_mem_nil, or_false] at hk
    rcases hk with rfl | rfl | rfl
    · exact .inr (.inr (.inr rfl))
    · exact ⟨by decide, by decide, by decide⟩
    · exact .inr (.inr (.inr rfl))
  · trivial
  · refine ⟨⟨.not 47 [91, 94, 47, 93, 41, 46, 42] (by decide), rfl, 91, [94, 47, 93], rfl, by decide, by decide⟩, ⟨.plain 47 91 [94, 47, 93, 41, 46, 42] (by decide) (by decide) (by decide) (by decide), rfl, 47, [], rfl, by decide, by decide⟩, ⟨.not 41 [46, 42] (by decide), rfl, 91, [94, 47, 93], rfl, by decide, by decide⟩, good_tail⟩
  · intro g hg
    simp only [List.mem_cons, List.not_mem_nil, or_false] at hg
    rcases hg with rfl | rfl | rfl <;> exact ⟨.inl rfl, Nat.le_refl _⟩
end Mine
end
section
open PySem PySem.W PySem.Spec PySem.Calls PyProof.Rows PySem.Builtin PySem.Builtin.Str
set_option maxRecDepth 100000
set_option maxHeartbeats 2000000
namespace Mine
theorem l0_P5 : True := by
  k_with_none
  k_with "q" => (all_goals first | assumption | with_unfolding_all exact rfl)
  k_with "ar" => with_reducible first | assumption | (apply Ar.le1; k_extra "q") | (apply Ar.le3; k_extra "q") | (apply Ar.n20; k_extra "q") | (apply Ar.subP; k_extra "q") | (apply Ar.subC'; k_extra "q")
  trivial
noncomputable abbrev mk (l : List Nat) : Str := ⟨l.toArray⟩
noncomputable abbrev sl : Str := Str.ofString "/"
theorem sl_cps : sl.cps = #[47] := by decide +kernel
theorem sl_len : sl.length = 1 := by decide +kernel
theorem mk_cps (l : List Nat) : (mk l).cps.toList = l := by simp
theorem mk_len (l : List Nat) : (mk l).length = l.length := by simp [Str.length]
theorem at_iff (l : List Nat) (i : Nat) : StrLaws.At (mk l) sl (mk l).length i ↔ l[i]? = some 47 := by
  unfold StrLaws.At
  rw [sl_len, mk_len]
  unfold Builtin.Str.subAt
  rw [sl_len, sl_cps]
  have e : ((mk l).cps.extract i (i + 1) == #[47]) = true ↔ (l.drop i).take 1 = [47] := by
    rw [beq_iff_eq, ← Array.toList_inj]
    simp [Array.toList_extract, List.extract_eq_drop_take]
  rw [e]
  constructor
  · (intro qr0; (refine and2E qr0 fun ux h => ?_; try clear qr0))
    have := congrArg (·[0]?) h
    simpa using this
  · intro h
    have hl := (List.getElem?_eq_some_iff.mp h)
    refine ⟨hl.1, ?_⟩
    rw [List.drop_eq_getElem_cons hl.1, hl.2]; simp
theorem rf_none {l : List Nat} (h : 47 ∉ l) : Txt.rfind (mk l) sl = -1 := by
  rcases rfind_whole (mk l) sl with ⟨e, _⟩ | ⟨i, _, h1, _⟩
  · exact e
  · exact absurd (List.mem_of_getElem? ((at_iff l i).mp h1)) h
theorem last_at {u v : List Nat} (h : 47 ∉ v) {i : Nat} (h1 : (u ++ 47 :: v)[i]? = some 47) (h2 : ∀ k, i < k → ¬ (u ++ 47 :: v)[k]? = some 47) : i = u.length := by
  have hu : (u ++ 47 :: v)[u.length]? = some 47 := by rw [List.getElem?_append_right (Nat.le_refl _)]; simp
  rcases Nat.lt_trichotomy i u.length with q | q | q
  · exact absurd hu (h2 _ q)
  · exact q
  · rw [List.getElem?_append_right (by omega)] at h1
    obtain ⟨j, hj⟩ : ∃ j, i - u.length = j + 1 := ⟨i - u.length - 1, by omega⟩
    rw [hj, List.getElem?_cons_succ] at h1
    exact absurd (List.mem_of_getElem? h1) h
theorem rf_some {u v : List Nat} (h : 47 ∉ v) : Txt.rfind (mk (u ++ 47 :: v)) sl = (u.length : Int) := by
  rcases rfind_whole (mk (u ++ 47 :: v)) sl with ⟨_, hn⟩ | ⟨i, e, h1, h2⟩
  · exact absurd ((at_iff _ u.length).mpr (by rw [List.getElem?_append_right (Nat.le_refl _)]; simp)) (hn u.length)
  · rw [e, last_at h ((at_iff _ i).mp h1) fun k hk q => h2 k hk ((at_iff _ k).mpr q)]
theorem sub_list (l : List Nat) (i j : Nat) : strSub (mk l) i j = mk ((l.drop i).take (j - i)) := str_ext (by simp [strSub, Array.toList_extract, List.extract_eq_drop_take])
theorem rp_none {l : List Nat} (h : 47 ∉ l) : Txt.rpartition (mk l) sl = (Str.empty, Str.empty, mk l) := by
  unfold Txt.rpartition
  rcases StrLaws.last_spec (mk l) sl with ⟨e, _⟩ | ⟨i, _, h1, _⟩
  · rw [e]
  · exact absurd (List.mem_of_getElem? ((at_iff l i).mp h1)) h
theorem rp_some {u v : List Nat} (h : 47 ∉ v) : Txt.rpartition (mk (u ++ 47 :: v)) sl = (mk u, sl, mk v) := by
  unfold Txt.rpartition
  rcases StrLaws.last_spec (mk (u ++ 47 :: v)) sl with ⟨_, hn⟩ | ⟨i, e, h1, h2⟩
  · exact absurd ((at_iff _ u.length).mpr (by rw [List.getElem?_append_right (Nat.le_refl _)]; simp)) (hn u.length)
  · have hi := last_at h ((at_iff _ i).mp h1) fun k hk q => h2 k hk ((at_iff _ k).mpr q)
    subst hi
    rw [e]
    dsimp only
    rw [sl_len, sub_list, sub_list, mk_len]
    congr 1
    · simp
    · congr 1
      rw [show u ++ 47 :: v = (u ++ [47]) ++ v by simp, List.drop_append_of_le_length (by simp)]
      simp
      rw [List.take_of_length_le (by omega)]
theorem slice_last {l : List Nat} {c : Nat} : Txt.slice (mk (l ++ [c])) none (some (-1)) = mk l := by
  have hlen : (mk (l ++ [c])).length = l.length + 1 := by rw [mk_len]; simp
  have q : Builtin.Str.strSliceIndices none (some (-1)) 1 (mk (l ++ [c])).length = Builtin.Str.strSliceIndices none (some (l.length : Int)) 1 (mk (l ++ [c])).length := by
    rw [hlen]
    unfold Builtin.Str.strSliceIndices
    dsimp only
    have a1 : (if (-1 : Int) < 0 then -1 + ((l.length + 1 : Nat) : Int) else -1) = (l.length : Int) := by rw [if_pos (by decide)]; omega
    have a2 : (if (l.length : Int) < 0 then (l.length : Int) + ((l.length + 1 : Nat) : Int) else (l.length : Int)) = (l.length : Int) := if_neg (by omega)
    rw [a1, a2]
  have q' : Txt.slice (mk (l ++ [c])) none (some (-1)) = Txt.slice (mk (l ++ [c])) none (some (l.length : Int)) := by
    unfold Txt.slice
    rw [q]
  rw [q', slice_pre (k := l.length) rfl (by rw [hlen]; omega), mk_cps, List.take_left]
theorem goes_sl (c : Nat) : sl.cps.contains c = (c == 47) := by
  rw [sl_cps]; simp; rw [Bool.eq_iff_iff]; simp
theorem rs_gen {u : List Nat} {k : Nat} (hu : ∀ c, u.getLast? = some c → c ≠ 47) : Txt.rstripChars (mk (u ++ List.replicate k 47)) sl = mk u := by
  unfold Txt.rstripChars
  rw [PyProof.Rows.stripBy_eq]
  unfold stripLo stripHi
  simp only [Bool.false_eq_true, if_false, if_true, List.drop_zero, mk_cps]
  rw [sub_list, mk_len]
  have e : ((u ++ List.replicate k 47).reverse.takeWhile sl.cps.contains).length = k := by
    rw [List.reverse_append, List.reverse_replicate]
    induction k with
    | zero =>
      simp only [List.replicate_zero, List.nil_append]
      cases h : u.reverse with
      | nil => rfl
      | cons c r =>
        have : u.getLast? = some c := by rw [← List.head?_reverse, h]; rfl
        rw [List.takeWhile_cons, goes_sl, if_neg (by simpa using hu c this)]; rfl
    | succ k ih =>
      rw [List.replicate_succ, List.cons_append, List.takeWhile_cons, goes_sl, if_pos (by decide), List.length_cons, ih]
  rw [e, List.length_append, List.length_replicate, List.drop_zero, Nat.sub_zero, show u.length + k - k = u.length by omega, List.take_left]
theorem rs0 {u : List Nat} (hu : ∀ c, u.getLast? = some c → c ≠ 47) : Txt.rstripChars (mk u) sl = mk u := by
  have := rs_gen (k := 0) hu
  simpa using this
theorem rs1 {u : List Nat} (hu : ∀ c, u.getLast? = some c → c ≠ 47) : Txt.rstripChars (mk (u ++ [47])) sl = mk u := rs_gen (k := 1) hu
end Mine
end
section
open PySem PySem.W PySem.Spec PySem.Calls PyProof.Rows
set_option maxRecDepth 100000
set_option maxHeartbeats 2000000
namespace Mine
theorem l0_P6 : True := by
  k_with_none
  k_with "q" => (all_goals first | assumption | with_unfolding_all exact rfl)
  k_with "ar" => with_reducible first | assumption | (apply Ar.le0; k_extra "q") | (apply Ar.le6; k_extra "q") | (apply Ar.sn; k_extra "q") | (apply Ar.n28; k_extra "q")
  trivial
theorem e47 : (Str.ofString "/").cps.toList = [47] := by decide +kernel
theorem mk_eq (x : It) : x.str = mk x.code := rfl
theorem ends_b {x : It} (h : x.Ok) : endsSl x.str = x.b := by
  unfold endsSl
  rw [mk_eq, mk_cps, Bool.eq_iff_iff, beq_iff_eq]
  exact code_last h
theorem join2 (a b : Str) : Txt.join (Str.ofString "") [a, b] = mk (a.cps.toList ++ b.cps.toList) := by
  rw [show Txt.join (Str.ofString "") [a, b] = Str.join (Str.ofString "") [a, b] from StrLaws.glued_eq_join _ _]
  refine str_ext ?_
  rw [cat_flat]; simp
theorem par_dir {x : It} (h : x.Ok) : parOf x.str = mk (dir x.d) := by
  obtain ⟨l', hs, hl'⟩ : ∃ l', Txt.slice x.str none (some (-1)) = mk (dir x.d ++ l') ∧ 47 ∉ l' := by
    cases hb : x.b with
    | true =>
      refine ⟨x.l, ?_, h.l.2.1⟩
      rw [mk_eq]
      unfold It.code
      rw [hb, if_pos rfl, slice_last]
    | false =>
      (refine ex2E (pc_last h.l) fun r c qq2 => ?_; refine and2E qq2 fun e ux => ?_; try clear qq2)
      refine ⟨r, ?_, fun q => h.l.2.1 (by rw [e]; exact List.mem_append_left _ q)⟩
      rw [mk_eq]
      unfold It.code
      rw [hb, e, if_neg Bool.false_ne_true, List.append_nil, ← List.append_assoc, slice_last]
  unfold parOf
  rw [hs, join2]
  rcases List.eq_nil_or_concat x.d with hd | ⟨d', p, hd⟩
  · rw [hd, dir_nil, List.nil_append, rp_none hl']; rfl
  · rw [hd, List.concat_eq_append, dir_append, dir_one, show dir d' ++ (p ++ [47]) ++ l' = (dir d' ++ p) ++ 47 :: l' by simp, rp_some hl']
    dsimp only
    rw [mk_cps]
    show mk (dir d' ++ p ++ (Str.ofString "/").cps.toList) = _
    rw [e47, List.append_assoc]
noncomputable def qc (ps : List (List Nat)) : Nat → List Nat
  | 0 => []
  | n + 1 => dir (ps.take n) ++ ps.getD n []
theorem dir_take {ps : List (List Nat)} {n : Nat} (h : n < ps.length) : dir (ps.take (n + 1)) = qc ps (n + 1) ++ [47] := by
  rw [List.take_add_one, List.getElem?_eq_getElem h, dir_append]
  show _ = dir (ps.take n) ++ ps.getD n [] ++ [47]
  rw [List.getD_eq_getElem?_getD, List.getElem?_eq_getElem h, Option.toList_some, Option.getD_some, dir_one, List.append_assoc]
theorem getD_pc {ps : List (List Nat)} (hp : okPs ps) {n : Nat} (h : n < ps.length) : okPc (ps.getD n []) := by
  rw [List.getD_eq_getElem?_getD, List.getElem?_eq_getElem h]
  exact hp _ (List.getElem_mem h)
theorem qc_last {ps : List (List Nat)} (hp : okPs ps) {n : Nat} (h : n < ps.length) : (∀ c, (qc ps (n + 1)).getLast? = some c → c ≠ 47) ∧ ∃ c ∈ qc ps (n + 1), c ≠ 47 := by
  (refine ex2E (pc_last (getD_pc hp h)) fun r c qq2 => ?_; refine and2E qq2 fun e hc => ?_; try clear qq2)
  have e2 : qc ps (n + 1) = dir (ps.take n) ++ r ++ [c] := by
    show dir (ps.take n) ++ ps.getD n [] = _
    rw [e, List.append_assoc]
  rw [e2]
  refine ⟨fun c' h' => ?_, c, by simp, hc⟩
  rw [List.getLast?_append] at h'
  simp at h'
  rw [← h']; exact hc
theorem fold_rep : ∀ (k : Nat) (a : Array Nat), ∀ c ∈ ((List.replicate k #[47]).foldl (· ++ ·) a).toList, c ∈ a.toList ∨ c = 47
  | 0, _, c, h => .inl h
  | k + 1, a, c, h => by
    rw [List.replicate_succ, List.foldl_cons] at h
    rcases fold_rep k (a ++ #[47]) c h with h1 | h1
    · simp at h1
      rcases h1 with h1 | h1
      · exact .inl (by simpa using h1)
      · exact .inr h1
    · exact .inr h1
theorem mul_all (n : Int) : ∀ c ∈ (Txt.mul sl n).cps.toList, c = 47 := by
  intro c h
  unfold Txt.mul at h
  split at h
  · have : Str.empty.cps.toList = [] := by decide +kernel
    rw [this] at h; cases h
  · split at h
    · rw [sl_cps] at h; simpa using h
    · rw [sl_cps] at h
      rcases fold_rep _ _ c h with h1 | h1
      · simp at h1
      · exact h1
theorem anc_q (ps : List (List Nat)) (hp : okPs ps) (N : Nat) (hN : ps.length = N + 1) (hz : ∀ n, n ≤ N + 1 → (qc ps n).length ≤ 5000) : AncQ (fun n => mk (qc ps n)) (N + 1) := by
  refine ⟨fun n h1 h2 => ?_, ?_, fun n h => ?_, fun n h => ?_⟩
  · obtain ⟨m, rfl⟩ : ∃ m, n = m + 1 := ⟨n - 1, by omega⟩
    (refine and2E (qc_last hp (n := m) (by omega)) fun h3 qq1 => ?_; refine ex1E qq1 fun c qq11 => ?_; try clear qq1; refine and2E qq11 fun h4 ux => ?_; try clear qq11)
    rw [rs0 h3, mk_len]
    exact List.length_pos_of_mem h4
  · exact (rs0 (u := []) (fun c h => by cases h)).trans rfl
  · rw [mk_len]; exact hz n h
  · cases n with
    | zero =>
      have h0 : 47 ∉ qc ps 1 := by
        show 47 ∉ dir (ps.take 0) ++ ps.getD 0 []
        rw [List.take_zero, dir_nil, List.nil_append]
        exact (getD_pc hp (by omega)).2.1
      refine ⟨0, ?_, Nat.zero_le _, fun q => absurd q (Nat.lt_irrefl _), ?_⟩
      · show Txt.rfind (mk (qc ps 1)) sl + 1 = 0
        rw [rf_none h0]; rfl
      · rfl
    | succ m =>
      have hm : m < ps.length := by omega
      (refine and2E (qc_last hp hm) fun h3 qq1 => ?_; refine ex1E qq1 fun c qq11 => ?_; try clear qq1; refine and2E qq11 fun h4 h5 => ?_; try clear qq11)
      have e : qc ps (m + 1 + 1) = qc ps (m + 1) ++ 47 :: ps.getD (m + 1) [] := by
        show dir (ps.take (m + 1)) ++ ps.getD (m + 1) [] = _
        rw [dir_take hm]; simp
      have hs : headS (mk (qc ps (m + 1 + 1))) ((qc ps (m + 1)).length + 1) = mk (qc ps (m + 1) ++ [47]) := by
        unfold headS
        rw [mk_cps, e, show qc ps (m + 1) ++ 47 :: ps.getD (m + 1) [] = (qc ps (m + 1) ++ [47]) ++ ps.getD (m + 1) [] by simp, List.take_left' (by simp)]
      refine ⟨(qc ps (m + 1)).length + 1, ?_, ?_, fun _ => ?_, ?_⟩
      · show Txt.rfind (mk (qc ps (m + 1 + 1))) sl + 1 = _
        rw [e, rf_some (getD_pc hp (by omega)).2.1]; rfl
      · rw [mk_len, e, List.length_append, List.length_cons]; omega
      · rw [hs, bne_iff_ne]
        intro q
        have := mul_all _ c (by rw [← q, mk_cps]; exact List.mem_append_left _ h4)
        exact h5 this
      · rw [if_neg (by omega), hs, rs1 h3]
theorem down_map {q : Nat → Str} {g : Nat → Str} : ∀ N, (∀ n, 1 ≤ n → n ≤ N → slashed (q n) = g n) → (down q N).map slashed = down g N
  | 0, _ => rfl
  | N + 1, h => by
    show slashed (q (N + 1)) :: (down q N).map slashed = g (N + 1) :: down g N
    rw [h (N + 1) (by omega) (Nat.le_refl _), down_map N fun n h1 h2 => h n h1 (by omega)]
theorem mem_down {g : Nat → Str} {s : Str} : ∀ {N : Nat}, s ∈ down g N ↔ ∃ n, 1 ≤ n ∧ n ≤ N ∧ s = g n
  | 0 => by simp [down]; omega
  | N + 1 => by
    show s ∈ g (N + 1) :: down g N ↔ _
    rw [List.mem_cons, mem_down]
    constructor
    · (intro qr0; rcases qr0 with (h | ⟨n, h1, h2, h3⟩))
      · exact ⟨N + 1, by omega, Nat.le_refl _, h⟩
      · exact ⟨n, h1, by omega, h3⟩
    · (intro qr0; (refine ex1E qr0 fun n qq1 => ?_; try clear qr0; refine and3E qq1 fun h1 h2 h3 => ?_; try clear qq1))
      by_cases h : n = N + 1
      · subst h; exact .inl h3
      · exact .inr ⟨n, h1, by omega, h3⟩
theorem down_len {g : Nat → Str} : ∀ N, (down g N).length = N
  | 0 => rfl
  | N + 1 => by show (down g N).length + 1 = N + 1; rw [down_len N]
noncomputable def anc (d : List (List Nat)) : List Str := down (fun n => mk (dir (d.take n))) d.length
theorem dir_len {d : List (List Nat)} (h : okPs d) : (dir d).length ≤ 5 * d.length := by
  induction d with
  | nil => simp [dir]
  | cons p r ih =>
    rw [dir_cons, List.length_append, List.length_cons, List.length_cons]
    have := ih fun q hq => h q (.tail _ hq)
    have := (h p (.head _)).2.2.1
    omega
theorem code_len {x : It} (h : x.Ok) : x.code.length ≤ 15 := by
  unfold It.code
  rw [List.length_append, List.length_append]
  have h1 := dir_len h.d
  have h2 := h.l.2.2.1
  have h3 := h.few
  have : (if x.b = true then [47] else ([] : List Nat)).length ≤ 1 := by cases x.b <;> simp
  omega
theorem par_ok {x : It} (h : x.Ok) {pars : Str → List Str} (hp : pars x.str = anc x.d) : ParOk pars x.str := by
  have hps : okPs (x.d ++ [x.l]) := fun p hp => by
    rcases List.mem_append.mp hp with q | q
    · exact h.d p q
    · rw [List.mem_singleton.mp q]; exact h.l
  have hlen : (x.d ++ [x.l]).length = x.d.length + 1 := by simp
  have hqz : ∀ n, n ≤ x.d.length + 1 → (qc (x.d ++ [x.l]) n).length ≤ 5000 := by
    intro n hn
    cases n with
    | zero => exact Nat.zero_le _
    | succ m =>
      show (dir ((x.d ++ [x.l]).take m) ++ (x.d ++ [x.l]).getD m []).length ≤ 5000
      rw [List.length_append]
      have h1 := dir_len (d := (x.d ++ [x.l]).take m) fun p hp => hps p (List.mem_of_mem_take hp)
      have h2 := (getD_pc hps (n := m) (by omega)).2.2.1
      have h3 := h.few
      rw [List.length_take] at h1
      omega
  refine ⟨fun n => mk (qc (x.d ++ [x.l]) n), x.d.length, anc_q _ hps _ hlen hqz, ?_, ?_, ?_, fun n hn => ?_, ?_⟩
  · have e : qc (x.d ++ [x.l]) (x.d.length + 1) = dir x.d ++ x.l := by
      show dir ((x.d ++ [x.l]).take x.d.length) ++ (x.d ++ [x.l]).getD x.d.length [] = _
      rw [List.take_left]
      simp
    have hl := (qc_last hps (n := x.d.length) (by omega)).1
    show Txt.rstripChars x.str sl = mk (qc (x.d ++ [x.l]) (x.d.length + 1))
    rw [mk_eq]
    unfold It.code
    rw [← e]
    cases x.b with
    | true => rw [if_pos rfl]; exact rs1 hl
    | false => rw [if_neg Bool.false_ne_true, List.append_nil]; exact rs0 hl
  · rw [mk_eq, mk_len]; have := code_len h; omega
  · have := h.few; omega
  · rw [mk_len]; exact hqz n (by omega)
  · rw [hp]
    unfold anc
    refine (down_map _ fun n h1 h2 => ?_).symm
    obtain ⟨m, rfl⟩ : ∃ m, n = m + 1 := ⟨n - 1, by omega⟩
    refine str_ext ?_
    rw [cps_app, e47, mk_cps, mk_cps]
    have := dir_take (ps := x.d ++ [x.l]) (n := m) (by omega)
    rw [List.take_append_of_le_length (by omega)] at this
    rw [this]
end Mine
end
section
open PySem PySem.W PySem.Spec PySem.Calls PyProof.Rows
set_option maxRecDepth 100000
set_option maxHeartbeats 2000000
namespace Mine
theorem l0_P7 : True := by
  k_with_none
  k_with "q" => (all_goals first | assumption | with_unfolding_all exact rfl)
  k_with "ar" => with_reducible first | assumption | (apply Ar.sn; k_extra "q") | (apply Ar.n43; k_extra "q") | (apply Ar.n45; k_extra "q") | (apply Ar.n46; k_extra "q") | (apply Ar.s1; k_extra "q") | (apply Ar.rl0; k_extra "q") | (apply Ar.pred1; k_extra "q") | (apply Ar.n42; k_extra "q")
  trivial
theorem stored_keys (a : List (Str × Value)) (x : Str) (v : Value) : (stored a x v).map (·.1) = if x ∈ a.map (·.1) then a.map (·.1) else a.map (·.1) ++ [x] := by
  unfold stored
  by_cases h : (a.any fun kv => decide (kv.1 = x)) = true
  · have hx : x ∈ a.map (·.1) := by
      (refine ex1E (List.any_eq_true.mp h) fun p qq1 => ?_; refine and2E qq1 fun hp e => ?_; try clear qq1)
      exact List.mem_map.mpr ⟨p, hp, of_decide_eq_true e⟩
    rw [if_pos h, if_pos hx, List.map_map]
    refine List.map_congr_left fun p _ => ?_
    show (if p.1 = x then (p.1, v) else p).1 = p.1
    split <;> rfl
  · have hx : x ∉ a.map (·.1) := fun q => by
      (refine ex1E (List.mem_map.mp q) fun p qq1 => ?_; refine and2E qq1 fun hp e => ?_; try clear qq1)
      exact h (List.any_eq_true.mpr ⟨p, hp, decide_eq_true e⟩)
    rw [if_neg h, if_neg hx, List.map_append]; rfl
theorem fk_keys : ∀ (xs : List Str) (a : List (Str × Value)), (a.map (·.1)).Nodup → ((fkAll a xs).map (·.1)).Nodup ∧ (∀ s, s ∈ (fkAll a xs).map (·.1) ↔ s ∈ a.map (·.1) ∨ s ∈ xs) ∧ (fkAll a xs).length ≤ a.length + xs.length
  | [], a, h => ⟨h, fun s => by simp, by simp⟩
  | x :: xs, a, h => by
    have hs := stored_keys a x .none
    have h1 : ((stored a x Value.none).map (·.1)).Nodup := by
      rw [hs]
      split
      · exact h
      · rename_i hn
        refine List.nodup_append.mpr ⟨h, List.nodup_cons.mpr ⟨by simp, List.nodup_nil⟩, fun p hp q hq e => ?_⟩
        rw [List.mem_singleton.mp hq] at e
        exact hn (e ▸ hp)
    refine and3E (fk_keys xs (stored a x .none) h1) fun g1 g2 g3 => ?_
    refine ⟨g1, fun s => ?_, ?_⟩
    · show s ∈ (fkAll (stored a x .none) xs).map (·.1) ↔ _
      rw [g2, hs]
      split
      · rename_i hx
        rw [List.mem_cons]
        constructor
        · (intro qr0; rcases qr0 with (h | h))
          · exact .inl h
          · exact .inr (.inr h)
        · (intro qr0; rcases qr0 with (h | rfl | h))
          · exact .inl h
          · exact .inl hx
          · exact .inr h
      · rw [List.mem_append, List.mem_singleton, List.mem_cons, or_assoc]
    · show (fkAll (stored a x .none) xs).length ≤ _
      have : (stored a x Value.none).length ≤ a.length + 1 := by
        have := stored_length_le a x Value.none
        omega
      rw [List.length_cons]; omega
theorem dedupe_nodup (xs : List Str) : (dedupe xs).Nodup := (fk_keys xs [] List.nodup_nil).1
theorem mem_dedupe {xs : List Str} {s : Str} : s ∈ dedupe xs ↔ s ∈ xs := by
  unfold dedupe
  rw [(fk_keys xs [] List.nodup_nil).2.1]; simp
theorem dedupe_len (xs : List Str) : (dedupe xs).length ≤ xs.length := by
  have := (fk_keys xs [] List.nodup_nil).2.2
  unfold dedupe
  rw [List.length_map]
  simpa using this
noncomputable def dOf (s : Str) : List (List Nat) := open Classical in if h : ∃ x : It, x.Ok ∧ x.str = s then h.choose.d else []
theorem dOf_eq {x : It} (hx : x.Ok) : dOf x.str = x.d := by
  unfold dOf
  have h : ∃ y : It, y.Ok ∧ y.str = x.str := ⟨x, hx, rfl⟩
  rw [dif_pos h]
  exact code_d h.choose_spec.1 hx (str_inj h.choose_spec.2)
noncomputable def parsC (s : Str) : List Str := anc (dOf s)
theorem mem_minus {xs ys : List Str} {s : Str} : s ∈ minus xs ys ↔ s ∈ xs ∧ s ∉ ys := by
  rw [List.mem_filter]
  simp
noncomputable def fIt (d : List (List Nat)) (n : Nat) : It := ⟨d.take (n - 1), d.getD (n - 1) [], true⟩
theorem fIt_code {d : List (List Nat)} {n : Nat} (h1 : 1 ≤ n) (h2 : n ≤ d.length) : (fIt d n).code = dir (d.take n) := by
  obtain ⟨m, rfl⟩ : ∃ m, n = m + 1 := ⟨n - 1, by omega⟩
  rw [code_dir rfl]
  show dir (d.take m ++ [d.getD m []]) = dir (d.take (m + 1))
  rw [List.take_add_one, List.getElem?_eq_getElem (by omega), List.getD_eq_getElem?_getD, List.getElem?_eq_getElem (by omega)]; rfl
theorem fIt_ok {x : It} (hx : x.Ok) {n : Nat} (h1 : 1 ≤ n) (h2 : n ≤ x.d.length) : (fIt x.d n).Ok :=
  ⟨fun p hp => hx.d p (List.mem_of_mem_take hp), getD_pc hx.d (by omega), by show (x.d.take (n - 1)).length ≤ 2; rw [List.length_take]; have := hx.few; omega⟩
theorem strOk_it {x : It} (hx : x.Ok) : PyData.strOk x.str = true := by
  unfold PyData.strOk
  rw [mk_eq, Array.all_eq_true_iff_forall_mem]
  intro c hc
  have hc : c ∈ x.code := by simpa using hc
  unfold It.code at hc
  simp only [decide_eq_true_eq]
  have key : ∀ d : List (List Nat), okPs d → ∀ c ∈ dir d, c < 1114112 := by
    intro d hd c hc
    unfold dir at hc
    (refine ex1E (List.mem_flatMap.mp hc) fun p qq1 => ?_; refine and2E qq1 fun hp hc => ?_; try clear qq1)
    rcases List.mem_append.mp hc with h | h
    · exact (hd p hp).2.2.2 c h
    · rw [List.mem_singleton.mp h]; decide
  rcases List.mem_append.mp hc with h | h
  · rcases List.mem_append.mp h with h | h
    · exact key _ hx.d c h
    · exact hx.l.2.2.2 c h
  · cases hb : x.b with
    | true => rw [hb, if_pos rfl, List.mem_singleton] at h; rw [h]; decide
    | false => rw [hb, if_neg Bool.false_ne_true] at h; cases h
section
variable {NI : List It} (hok : ∀ x ∈ NI, x.Ok) (hnd : (NI.map It.str).Nodup) (hfew : NI.length ≤ 2)
include hok
noncomputable abbrev nmO (NI : List It) : List Str := NI.map It.str
noncomputable abbrev liO (NI : List It) : List Str := lisOf parsC (nmO NI)
noncomputable abbrev plO (NI : List It) : List Str := plaOf parsC (nmO NI)
theorem fold_mem {s : Str} : s ∈ (nmO NI).flatMap parsC ↔ ∃ x ∈ NI, ∃ n, 1 ≤ n ∧ n ≤ x.d.length ∧ s = mk (dir (x.d.take n)) := by
  rw [List.mem_flatMap]
  constructor
  · (intro qr0; (refine ex1E qr0 fun a qq1 => ?_; try clear qr0; refine and2E qq1 fun ha hs => ?_; try clear qq1))
    (refine ex1E (List.mem_map.mp ha) fun x qq1 => ?_; refine and2E qq1 fun hx qq11 => ?_; try clear qq1; rcases qq11 with rfl)
    unfold parsC at hs
    rw [dOf_eq (hok x hx)] at hs
    exact ⟨x, hx, mem_down.mp hs⟩
  · (intro qr0; (refine ex1E qr0 fun x qq1 => ?_; try clear qr0; refine and2E qq1 fun hx h => ?_; try clear qq1))
    refine ⟨x.str, List.mem_map.mpr ⟨x, hx, rfl⟩, ?_⟩
    unfold parsC
    rw [dOf_eq (hok x hx)]
    exact mem_down.mpr h
theorem imp_mem {s : Str} : s ∈ impOf parsC (nmO NI) ↔ (∃ x ∈ NI, ∃ n, 1 ≤ n ∧ n ≤ x.d.length ∧ s = mk (dir (x.d.take n))) ∧ s ∉ nmO NI := by
  rw [mem_dedupe, mem_minus, fold_mem hok]
theorem lis_mem {s : Str} : s ∈ liO NI ↔ s ∈ nmO NI ∨ ∃ x ∈ NI, ∃ n, 1 ≤ n ∧ n ≤ x.d.length ∧ s = mk (dir (x.d.take n)) := by
  rw [List.mem_append, imp_mem hok]
  constructor
  · (intro qr0; rcases qr0 with (h | h))
    · exact .inl h
    · exact .inr h.1
  · (intro qr0; rcases qr0 with (h | h))
    · exact .inl h
    · by_cases hs : s ∈ nmO NI
      · exact .inl hs
      · exact .inr ⟨h, hs⟩
theorem lis_it {s : Str} (h : s ∈ liO NI) : ∃ x : It, x.Ok ∧ s = x.str := by
  rcases (lis_mem hok).mp h with h | ⟨x, hx, n, h1, h2, rfl⟩
  · (refine ex1E (List.mem_map.mp h) fun x qq1 => ?_; refine and2E qq1 fun hx qq11 => ?_; try clear qq1; rcases qq11 with rfl)
    exact ⟨x, hok x hx, rfl⟩
  · exact ⟨fIt x.d n, fIt_ok (hok x hx) h1 h2, by rw [mk_eq, fIt_code h1 h2]⟩
theorem fold_len : ((nmO NI).flatMap parsC).length ≤ 2 * NI.length := by
  induction NI with
  | nil => simp
  | cons x r ih =>
    show (parsC x.str ++ (nmO r).flatMap parsC).length ≤ 2 * (r.length + 1)
    have h1 := ih fun y hy => hok y (.tail _ hy)
    have h2 : (parsC x.str).length ≤ 2 := by
      unfold parsC
      rw [dOf_eq (hok x (.head _))]
      unfold anc
      rw [down_len]; exact (hok x (.head _)).few
    rw [List.length_append]; omega
include hnd in
theorem lis_nodup : (liO NI).Nodup := by
  refine List.nodup_append.mpr ⟨hnd, dedupe_nodup _, fun p hp q hq e => ?_⟩
  rw [← e] at hq
  exact ((imp_mem hok).mp hq).2 hp
theorem pla_it {a : Str} (h : a ∈ plO NI) : ∃ qs, okPs qs ∧ a = mk (dir qs) ∧ a.length ≤ 20 ∧ (qs = [] ∨ ∃ x : It, x.Ok ∧ x.b = true ∧ a = x.str ∧ qs = x.d ++ [x.l] ∧ a ∈ liO NI) := by
  rcases List.mem_cons.mp h with rfl | h
  · exact ⟨[], fun _ h => (nomatch h), str_ext (by rw [cps_empty]; rfl), by decide +kernel, .inl rfl⟩
  · refine and2E (List.mem_filter.mp h) fun h1 h2 => ?_
    (refine ex1E (lis_it hok h1) fun x qq1 => ?_; refine and2E qq1 fun hx qq11 => ?_; try clear qq1; rcases qq11 with rfl)
    rw [ends_b hx] at h2
    refine ⟨x.d ++ [x.l], fun p hp => ?_, by rw [mk_eq, code_dir h2], by rw [mk_eq, mk_len]; have := code_len hx; omega, .inr ⟨x, hx, h2, rfl, rfl, h1⟩⟩
    rcases List.mem_append.mp hp with q | q
    · exact hx.d p q
    · rw [List.mem_singleton.mp q]; exact hx.l
theorem memU {a : Str} {qs : List (List Nat)} (hq : okPs qs) (ha : a = mk (dir qs)) {s : Str} (hs : s ∈ liO NI) : (endsF s.cps.toList (resU a) [0]).contains s.length = true ↔ qs <+: dOf s := by
  (refine ex1E (lis_it hok hs) fun x qq1 => ?_; refine and2E qq1 fun hx qq11 => ?_; try clear qq1; rcases qq11 with rfl)
  rw [dOf_eq hx, cps_len, mk_eq, mk_cps, ha]
  show (endsF x.code (litS (mk (dir qs)).cps.toList ++ _) [0]).contains _ = true ↔ _
  rw [mk_cps, takes_U, it_U hx hq]
theorem memL {a : Str} {qs : List (List Nat)} (hq : okPs qs) (ha : a = mk (dir qs)) {s : Str} (hs : s ∈ liO NI) : (endsF s.cps.toList (resL a) [0]).contains s.length = true ↔ qs <+: dOf s ∧ qs ≠ dOf s := by
  (refine ex1E (lis_it hok hs) fun x qq1 => ?_; refine and2E qq1 fun hx qq11 => ?_; try clear qq1; rcases qq11 with rfl)
  rw [dOf_eq hx, cps_len, mk_eq, mk_cps, ha]
  show (endsF x.code (litS (mk (dir qs)).cps.toList ++ _) [0]).contains _ = true ↔ _
  rw [mk_cps, takes_L, it_L hx hq]
theorem par_eq {a : Str} {qs : List (List Nat)} (hq : okPs qs) (ha : a = mk (dir qs)) {s : Str} (hs : s ∈ liO NI) : (parOf s == a) = true ↔ dOf s = qs := by
  (refine ex1E (lis_it hok hs) fun x qq1 => ?_; refine and2E qq1 fun hx qq11 => ?_; try clear qq1; rcases qq11 with rfl)
  rw [dOf_eq hx, par_dir hx, ha, beq_iff_eq]
  constructor
  · intro h
    have : dir x.d = dir qs := by
      have := congrArg (fun z : Str => z.cps.toList) h
      simpa using this
    exact dir_inj hx.d hq this
  · (intro qr0; rcases qr0 with rfl); rfl
noncomputable abbrev TBO (NI : List It) (a : Str) : List Str := minus (taken (resU a) (liO NI)) (taken (resL a) (liO NI))
theorem tb_eq {a : Str} (h : a ∈ plO NI) : TBO NI a = (liO NI).filter fun x => parOf x == a := by
  (refine ex1E (pla_it hok h) fun qs qq1 => ?_; refine and4E qq1 fun hq ha ux ux => ?_; try clear qq1)
  show (taken (resU a) (liO NI)).filter (fun x => !(taken (resL a) (liO NI)).contains x) = _
  unfold taken
  rw [List.filter_filter]
  refine List.filter_congr fun s hs => ?_
  rw [Bool.eq_iff_iff, Bool.and_eq_true, par_eq hok hq ha hs, memU hok hq ha hs]
  have hl : (!((liO NI).filter fun y => (endsF y.cps.toList (resL a) [0]).contains y.length).contains s) = true ↔ ¬ (qs <+: dOf s ∧ qs ≠ dOf s) := by
    rw [Bool.not_eq_true', ← Bool.not_eq_true, List.contains_iff_mem, List.mem_filter, memL hok hq ha hs]
    simp [hs]
  rw [hl]
  constructor
  · (intro qr0; (refine and2E qr0 fun h1 h2 => ?_; try clear qr0))
    by_cases e : qs = dOf s
    · exact e.symm
    · exact absurd ⟨h2, e⟩ h1
  · intro e
    exact ⟨fun q => q.2 e.symm, e ▸ List.prefix_refl _⟩
theorem tb_mem {a : Str} (h : a ∈ plO NI) {qs : List (List Nat)} (hq : okPs qs) (ha : a = mk (dir qs)) {s : Str} : s ∈ TBO NI a ↔ s ∈ liO NI ∧ dOf s = qs := by
  rw [tb_eq hok h, List.mem_filter]
  exact and_congr_right fun hs => par_eq hok hq ha hs
theorem up_mem {s : Str} (hs : s ∈ liO NI) {d : List (List Nat)} {l : List Nat} (e : dOf s = d ++ [l]) : ∃ p : It, p.Ok ∧ p.b = true ∧ p.d = d ∧ p.l = l ∧ p.str ∈ plO NI ∧ p.str ∈ liO NI := by
  have key : ∀ x ∈ NI, ∀ n, 1 ≤ n → n ≤ x.d.length → x.d.take n = d ++ [l] → ∃ p : It, p.Ok ∧ p.b = true ∧ p.d = d ∧ p.l = l ∧ p.str ∈ plO NI ∧ p.str ∈ liO NI := by
    intro x hx n h1 h2 he
    have hp : (fIt x.d n).Ok := fIt_ok (hok x hx) h1 h2
    have hlen : n = d.length + 1 := by
      have := congrArg List.length he
      rw [List.length_take, List.length_append, List.length_singleton] at this
      omega
    have hd : x.d.take (n - 1) = d := by
      have : (x.d.take n).take (n - 1) = x.d.take (n - 1) := by rw [List.take_take]; congr 1; omega
      rw [← this, he, List.take_append_of_le_length (by omega), List.take_of_length_le (by omega)]
    have hl : x.d.getD (n - 1) [] = l := by
      have h3 : (x.d.take n)[n - 1]? = some l := by
        rw [he, List.getElem?_append_right (by omega), show n - 1 - d.length = 0 by omega]; rfl
      rw [List.getElem?_take_of_lt (by omega)] at h3
      rw [List.getD_eq_getElem?_getD, h3]; rfl
    have hm : (fIt x.d n).str ∈ liO NI := (lis_mem hok).mpr (.inr ⟨x, hx, n, h1, h2, by rw [mk_eq, fIt_code h1 h2]⟩)
    exact ⟨fIt x.d n, hp, rfl, hd, hl, List.mem_cons.mpr (.inr (List.mem_filter.mpr ⟨hm, by rw [ends_b hp]; rfl⟩)), hm⟩
  rcases (lis_mem hok).mp hs with h | ⟨x, hx, n, h1, h2, rfl⟩
  · (refine ex1E (List.mem_map.mp h) fun x qq1 => ?_; refine and2E qq1 fun hx qq11 => ?_; try clear qq1; rcases qq11 with rfl)
    rw [dOf_eq (hok x hx)] at e
    refine key x hx x.d.length ?_ (Nat.le_refl _) (by rw [List.take_length, e])
    rw [e]; simp
  · have hp : (fIt x.d n).Ok := fIt_ok (hok x hx) h1 h2
    rw [← fIt_code h1 h2, ← mk_eq, dOf_eq hp] at e
    have e : x.d.take (n - 1) = d ++ [l] := e
    have hlen := congrArg List.length e
    rw [List.length_take, List.length_append, List.length_singleton] at hlen
    exact key x hx (n - 1) (by omega) (by omega) e
noncomputable abbrev lvO (NI : List It) (a : Str) (j : Nat) : List Str := levAt (TBO NI) (plO NI) a j
theorem lev_mem {a : Str} (h : a ∈ plO NI) {qs : List (List Nat)} (hq : okPs qs) (ha : a = mk (dir qs)) : ∀ (j : Nat) (s : Str), s ∈ lvO NI a (j + 1) ↔ s ∈ liO NI ∧ qs <+: dOf s ∧ (dOf s).length = qs.length + j
  | 0, s => by
    show s ∈ [a].flatMap (fun p => if (plO NI).contains p then TBO NI p else []) ↔ _
    rw [List.flatMap_cons, List.flatMap_nil, List.append_nil, if_pos (List.contains_iff_mem.mpr h), tb_mem hok h hq ha]
    refine and_congr_right fun _ => ?_
    constructor
    · (intro qr0; rcases qr0 with rfl); exact ⟨List.prefix_refl _, rfl⟩
    · (intro qr0; (refine and2E qr0 fun h1 h2 => ?_; try clear qr0)); exact (h1.eq_of_length h2.symm).symm
  | j + 1, s => by
    show s ∈ (lvO NI a (j + 1)).flatMap (fun p => if (plO NI).contains p then TBO NI p else []) ↔ _
    rw [List.mem_flatMap]
    constructor
    · (intro qr0; (refine ex1E qr0 fun p qq1 => ?_; try clear qr0; refine and2E qq1 fun hp hs => ?_; try clear qq1))
      refine and3E ((lev_mem h hq ha j p).mp hp) fun hpl hpq hpn => ?_
      by_cases hc : (plO NI).contains p = true
      · rw [if_pos hc] at hs
        have hpp := List.contains_iff_mem.mp hc
        (refine ex1E (pla_it hok hpp) fun qs' qq1 => ?_; refine and4E qq1 fun hq' ha' ux hx' => ?_; try clear qq1)
        refine and2E ((tb_mem hok hpp hq' ha').mp hs) fun hs1 hs2 => ?_
        rcases hx' with e | ⟨x, hx, hb, e1, e2, _⟩
        · subst e
          (refine ex1E (lis_it hok hpl) fun y qq1 => ?_; refine and2E qq1 fun hy e3 => ?_; try clear qq1)
          rw [ha'] at e3
          have : y.code = dir [] := by
            have := congrArg (fun z : Str => z.cps.toList) e3
            simpa [It.str] using this.symm
          exact absurd this (code_ne hy)
        · rw [e1, dOf_eq hx] at hpq hpn
          refine ⟨hs1, ?_, ?_⟩
          · rw [hs2, e2]; exact hpq.trans (List.prefix_append _ _)
          · rw [hs2, e2, List.length_append, List.length_singleton, hpn]; omega
      · rw [if_neg hc] at hs; cases hs
    · (intro qr0; (refine and3E qr0 fun hs1 hs2 hs3 => ?_; try clear qr0))
      have hne : dOf s ≠ [] := fun q => by rw [q] at hs3; simp at hs3
      refine ex2E ((List.eq_nil_or_concat (dOf s)).resolve_left hne) fun d l e => ?_
      rw [List.concat_eq_append] at e
      (refine ex1E (up_mem hok hs1 e) fun p qq1 => ?_; refine and6E qq1 fun hp hb hd hl hpp hpl => ?_; try clear qq1)
      have hpd : dOf p.str = d := by rw [dOf_eq hp, hd]
      refine ⟨p.str, (lev_mem h hq ha j p.str).mpr ⟨hpl, ?_, ?_⟩, ?_⟩
      · rw [hpd]
        rw [e] at hs2 hs3
        rw [List.length_append, List.length_singleton] at hs3
        exact List.prefix_of_prefix_length_le hs2 (List.prefix_append _ _) (by omega)
      · rw [hpd]
        rw [e, List.length_append, List.length_singleton] at hs3; omega
      · rw [if_pos (List.contains_iff_mem.mpr hpp)]
        (refine ex1E (pla_it hok hpp) fun qs' qq1 => ?_; refine and4E qq1 fun hq' ha' ux ux => ?_; try clear qq1)
        have hqe : qs' = d ++ [l] := by
          have : dir qs' = dir (p.d ++ [p.l]) := by
            have := congrArg (fun z : Str => z.cps.toList) ha'
            rw [mk_eq, code_dir hb] at this
            simpa using this.symm
          rw [hd, hl] at this
          refine dir_inj hq' (fun r hr => ?_) this
          rcases List.mem_append.mp hr with q | q
          · exact hp.d r (by rw [hd]; exact q)
          · rw [List.mem_singleton.mp q, ← hl]; exact hp.l
        exact (tb_mem hok hpp hq' ha').mpr ⟨hs1, by rw [e, hqe]⟩
include hnd in
theorem lev_nodup {a : Str} (h : a ∈ plO NI) : ∀ j, (lvO NI a j).Nodup
  | 0 => List.nodup_cons.mpr ⟨by simp, List.nodup_nil⟩
  | j + 1 => by
    show ((lvO NI a j).flatMap (fun p => if (plO NI).contains p then TBO NI p else [])).Pairwise (· ≠ ·)
    refine List.pairwise_flatMap.mpr ⟨fun p _ => ?_, ?_⟩
    · split
      · rename_i hc
        rw [tb_eq hok (List.contains_iff_mem.mp hc)]
        exact (lis_nodup hok hnd).sublist List.filter_sublist
      · exact List.nodup_nil
    · refine (lev_nodup h j).imp ?_
      intro p q hpq x hx y hy e
      subst e
      by_cases hc : (plO NI).contains p = true
      · rw [if_pos hc, tb_eq hok (List.contains_iff_mem.mp hc), List.mem_filter] at hx
        by_cases hc2 : (plO NI).contains q = true
        · rw [if_pos hc2, tb_eq hok (List.contains_iff_mem.mp hc2), List.mem_filter] at hy
          exact hpq ((eq_of_beq hx.2).symm.trans (eq_of_beq hy.2))
        · rw [if_neg hc2] at hy; cases hy
      · rw [if_neg hc] at hx; cases hx
end
end Mine
end
section
open PySem PySem.W PySem.Spec PySem.Calls PyProof.Rows
set_option maxRecDepth 100000
set_option maxHeartbeats 2000000
namespace Mine
theorem l0_P8 : True := by
  k_with_none
  k_with "q" => (all_goals first | assumption | with_unfolding_all exact rfl)
  k_with "ar" => with_reducible first | assumption | (apply Ar.sn; k_extra "q") | (apply Ar.sn2; k_extra "q")
  trivial
section
variable {NI : List It} (hok : ∀ x ∈ NI, x.Ok) (hnd : (NI.map It.str).Nodup) (hfew : NI.length ≤ 2)
include hok hnd hfew
theorem imp_len : (impOf parsC (nmO NI)).length ≤ 4 := by
  refine Nat.le_trans (dedupe_len _) (Nat.le_trans (List.length_filter_le _ _) ?_)
  have := fold_len hok
  omega
theorem lis_len : (liO NI).length ≤ 6 := by
  have := imp_len hok hnd hfew
  show (nmO NI ++ impOf parsC (nmO NI)).length ≤ 6
  rw [List.length_append, List.length_map]; omega
theorem lev_len {a : Str} (h : a ∈ plO NI) (j : Nat) : (lvO NI a j).length ≤ 6 := by
  cases j with
  | zero => exact (by decide : (1 : Nat) ≤ 6)
  | succ j =>
    (refine ex1E (pla_it hok h) fun qs qq1 => ?_; refine and4E qq1 fun hq ha ux ux => ?_; try clear qq1)
    refine Nat.le_trans (List.Nodup.length_le_of_subset (lev_nodup hok hnd h (j + 1)) fun s hs => ?_) (lis_len hok hnd hfew)
    exact ((lev_mem hok h hq ha j s).mp hs).1
theorem met_len {a : Str} (h : a ∈ plO NI) : ∀ j, (metAt (TBO NI) (plO NI) a j).length ≤ 6 * j
  | 0 => Nat.le_refl _
  | j + 1 => by
    show (metAt (TBO NI) (plO NI) a j ++ lvO NI a (j + 1)).length ≤ _
    have h1 := met_len h j
    have h2 := lev_len hok hnd hfew h (j + 1)
    rw [List.length_append]; omega
theorem met_perm {a : Str} (h : a ∈ plO NI) : (metAt (TBO NI) (plO NI) a 3).Perm (taken (resU a) (liO NI)) := by
  (refine ex1E (pla_it hok h) fun qs qq1 => ?_; refine and4E qq1 fun hq ha ux ux => ?_; try clear qq1)
  have m1 := lev_mem hok h hq ha
  have n1 := lev_nodup hok hnd h
  have hm : ∀ s, s ∈ metAt (TBO NI) (plO NI) a 3 ↔ s ∈ lvO NI a 1 ∨ s ∈ lvO NI a 2 ∨ s ∈ lvO NI a 3 := by
    intro s
    show s ∈ (([] ++ lvO NI a 1) ++ lvO NI a 2) ++ lvO NI a 3 ↔ _
    rw [List.mem_append, List.mem_append, List.nil_append, or_assoc]
  refine (List.perm_ext_iff_of_nodup ?_ ((lis_nodup hok hnd).sublist List.filter_sublist)).mpr fun s => ?_
  · show ((([] ++ lvO NI a 1) ++ lvO NI a 2) ++ lvO NI a 3).Nodup
    rw [List.nil_append]
    refine List.nodup_append.mpr ⟨List.nodup_append.mpr ⟨n1 1, n1 2, fun p hp q hq' e => ?_⟩, n1 3, fun p hp q hq' e => ?_⟩
    · subst e
      have a1 := ((m1 0 p).mp hp).2.2
      have a2 := ((m1 1 p).mp hq').2.2
      omega
    · subst e
      have a2 := ((m1 2 p).mp hq').2.2
      rcases List.mem_append.mp hp with hp | hp
      · have a1 := ((m1 0 p).mp hp).2.2
        omega
      · have a1 := ((m1 1 p).mp hp).2.2
        omega
  · rw [hm, m1 0, m1 1, m1 2]
    (try unfold taken)
    rw [List.mem_filter]
    constructor
    · (intro qr0; rcases qr0 with (h1 | h1 | h1)) <;> exact ⟨h1.1, (memU hok hq ha h1.1).mpr h1.2.1⟩
    · (intro qr0; (refine and2E qr0 fun h1 h2 => ?_; try clear qr0))
      have h3 := (memU hok hq ha h1).mp h2
      have h4 := h3.length_le
      have h5 : (dOf s).length ≤ 2 := by
        (refine ex1E (lis_it hok h1) fun x qq1 => ?_; refine and2E qq1 fun hx qq11 => ?_; try clear qq1; rcases qq11 with rfl)
        rw [dOf_eq hx]; exact hx.few
      have h6 : (dOf s).length = qs.length + 0 ∨ (dOf s).length = qs.length + 1 ∨ (dOf s).length = qs.length + 2 := by omega
      rcases h6 with h6 | h6 | h6
      · exact .inl ⟨h1, h3, h6⟩
      · exact .inr (.inl ⟨h1, h3, h6⟩)
      · exact .inr (.inr ⟨h1, h3, h6⟩)
theorem facts_of : Facts (nmO NI) parsC resU resL where
  few := by rw [List.length_map]; exact hfew
  par := fun s hs => by
    (refine ex1E (List.mem_map.mp hs) fun x qq1 => ?_; refine and2E qq1 fun hx qq11 => ?_; try clear qq1; rcases qq11 with rfl)
    exact par_ok (hok x hx) (by unfold parsC; rw [dOf_eq (hok x hx)])
  fold := Nat.le_trans (fold_len hok) (by omega)
  imp := Nat.le_trans (imp_len hok hnd hfew) (by decide)
  lis := Nat.le_trans (lis_len hok hnd hfew) (by decide)
  pla := by
    show ((liO NI).filter endsSl).length + 1 ≤ 1000
    have := List.length_filter_le endsSl (liO NI)
    have := lis_len hok hnd hfew
    omega
  ok := fun s hs => by
    (refine ex1E (lis_it hok hs) fun x qq1 => ?_; refine and2E qq1 fun hx qq11 => ?_; try clear qq1; rcases qq11 with rfl)
    refine ⟨?_, ?_, strOk_it hx⟩
    · rw [mk_eq, mk_cps]; exact code_ne hx
    · rw [mk_eq, mk_len]; have := code_len hx; omega
  p1 := by
    show (nmO NI ++ (nmO NI ++ impOf parsC (nmO NI))).filter (fun x => !(impOf parsC (nmO NI)).contains x) = _
    rw [List.filter_append, List.filter_append]
    have e1 : (nmO NI).filter (fun x => !(impOf parsC (nmO NI)).contains x) = nmO NI := by
      refine List.filter_eq_self.mpr fun s hs => ?_
      rw [Bool.not_eq_true', ← Bool.not_eq_true, List.contains_iff_mem]
      exact fun q => ((imp_mem hok).mp q).2 hs
    have e2 : (impOf parsC (nmO NI)).filter (fun x => !(impOf parsC (nmO NI)).contains x) = [] := by
      refine List.filter_eq_nil_iff.mpr fun s hs => ?_
      rw [Bool.not_eq_true', List.contains_iff_mem.mpr hs]; decide
    rw [e1, e2, List.append_nil]
  nodup := by
    refine List.nodup_cons.mpr ⟨fun q => ?_, (lis_nodup hok hnd).sublist List.filter_sublist⟩
    (refine ex1E (lis_it hok (List.mem_filter.mp q).1) fun x qq1 => ?_; refine and2E qq1 fun hx e => ?_; try clear qq1)
    have := congrArg (fun z : Str => z.cps.toList) e
    rw [mk_eq] at this
    simp only [mk_cps, cps_empty] at this
    exact code_ne hx this.symm
  patU := fun a ha => by
    (refine ex1E (pla_it hok ha) fun qs qq1 => ?_; refine and4E qq1 fun ux ux h20 ux => ?_; try clear qq1)
    exact ⟨by omega, pat_U a h20⟩
  patL := fun a ha => by
    (refine ex1E (pla_it hok ha) fun qs qq1 => ?_; refine and4E qq1 fun ux ux h20 ux => ?_; try clear qq1)
    exact ⟨by omega, pat_L a h20⟩
  p4 := fun a ha => tb_eq hok ha
  p5 := fun a ha => met_perm hok hnd hfew ha
  lev := fun a ha j _ => Nat.le_trans (lev_len hok hnd hfew ha j) (by decide)
  met := fun a ha j hj => Nat.le_trans (met_len hok hnd hfew ha j) (by omega)
  hip := fun a ha => by
    (refine and2E ((imp_mem hok).mp ha) fun qq0 ux => ?_; refine ex1E qq0 fun x qq01 => ?_; try clear qq0; refine and2E qq01 fun hx qq011 => ?_; try clear qq01; refine ex1E qq011 fun n qq0111 => ?_; try clear qq011; refine and3E qq0111 fun h1 h2 qq01112 => ?_; try clear qq0111; rcases qq01112 with rfl)
    refine List.mem_cons.mpr (.inr (List.mem_filter.mpr ⟨List.mem_append_right _ ha, ?_⟩))
    have hp := fIt_ok (hok x hx) h1 h2
    rw [← fIt_code h1 h2, ← mk_eq, ends_b hp]; rfl
  p6 := fun a ha => by
    have hl : a ∈ liO NI := List.mem_append_right _ ha
    (refine and2E ((imp_mem hok).mp ha) fun qq0 ux => ?_; refine ex1E qq0 fun x qq01 => ?_; try clear qq0; refine and2E qq01 fun hx qq011 => ?_; try clear qq01; refine ex1E qq011 fun n qq0111 => ?_; try clear qq011; refine and3E qq0111 fun h1 h2 qq01112 => ?_; try clear qq0111; rcases qq01112 with rfl)
    have hxm : x.str ∈ nmO NI := List.mem_map.mpr ⟨x, hx, rfl⟩
    have hxl : x.str ∈ liO NI := List.mem_append_left _ hxm
    intro e
    have hn := List.filter_eq_nil_iff.mp e x.str hxm
    apply hn
    refine List.any_eq_true.mpr ⟨x.str, List.mem_filter.mpr ⟨hxl, ?_⟩, beq_self_eq_true _⟩
    refine (memU hok (qs := x.d.take n) (fun p hp => (hok x hx).d p (List.mem_of_mem_take hp)) rfl hxl).mpr ?_
    rw [dOf_eq (hok x hx)]
    exact List.take_prefix _ _
end
end Mine
end
section
open PySem PySem.W PySem.Spec PySem.Calls PyProof.Rows
set_option maxRecDepth 100000
set_option maxHeartbeats 2000000
namespace Mine
theorem l0_P9 : True := by
  k_with_none
  k_with "q" => (all_goals first | assumption | with_unfolding_all exact rfl)
  k_with "ar" => with_reducible first | assumption | (apply Ar.i22; k_extra "q") | (apply Ar.i23; k_extra "q") | (apply Ar.fm3; k_extra "q") | (apply Ar.fm2; k_extra "q")
  trivial
theorem okPc_dec (x : Str) (h : (!x.cps.toList.isEmpty && !x.cps.toList.contains 47 && decide (x.cps.toList.length ≤ 4) && x.cps.toList.all fun c => decide (c < 1114112)) = true) : okPc x.cps.toList := by
  simp only [Bool.and_eq_true, Bool.not_eq_true', decide_eq_true_eq, List.all_eq_true] at h
  refine ⟨fun e => ?_, fun q => ?_, h.1.2, h.2⟩
  · rw [e] at h; exact absurd h.1.1.1 (by decide)
  · have := h.1.1.2
    rw [List.contains_iff_mem.mpr q] at this; cases this
theorem getD_of {l : List Str} {P : Str → Prop} {i : Int} {k : Nat} (hl : l.length = k) (h : ∀ x ∈ l, P x) (h0 : 0 ≤ i) (h1 : i < (k : Int)) : P (l.getD i.toNat Str.empty) := by
  have hi : i.toNat < l.length := by omega
  rw [List.getD_eq_getElem?_getD, List.getElem?_eq_getElem hi]
  exact h _ (List.getElem_mem hi)
theorem pA_ok (n : Int) : okPc (pA n).cps.toList := by
  refine getD_of (P := fun x => okPc x.cps.toList) (k := 4) rfl (fun x hx => ?_) (fmod_lo _ (by decide)) (fmod_hi _ (by decide))
  simp only [List.mem_cons, List.not_mem_nil, or_false] at hx
  rcases hx with rfl | rfl | rfl | rfl <;> exact okPc_dec _ (by decide +kernel)
theorem pB_ok (n : Int) : okPc (pB n).cps.toList := by
  refine getD_of (P := fun x => okPc x.cps.toList) (k := 8) rfl (fun x hx => ?_) (fmod_lo _ (by decide)) (fmod_hi _ (by decide))
  simp only [List.mem_cons, List.not_mem_nil, or_false] at hx
  rcases hx with rfl | rfl | rfl | rfl | rfl | rfl | rfl | rfl <;> exact okPc_dec _ (by decide +kernel)
theorem odd_ok (n : Int) (t : List Nat) (ht : t.length ≤ 3 ∧ 47 ∉ t ∧ ∀ c ∈ t, c < 1114112) : okPc ((odd n).cps.toList ++ t) := by
  have h0 := fmod_lo ((((((n.fdiv 2).fdiv 3).fdiv 4).fdiv 8).fdiv 8)) (n := 50000) (by decide)
  have h1 := fmod_hi ((((((n.fdiv 2).fdiv 3).fdiv 4).fdiv 8).fdiv 8)) (n := 50000) (by decide)
  have e : (odd n).cps.toList = [(256 + ((((((n.fdiv 2).fdiv 3).fdiv 4).fdiv 8).fdiv 8).fmod 50000)).toNat] := rfl
  rw [e]
  generalize ((((((n.fdiv 2).fdiv 3).fdiv 4).fdiv 8).fdiv 8).fmod 50000) = r at h0 h1
  refine ⟨by simp, fun q => ?_, by simp; omega, fun c hc => ?_⟩
  · rcases List.mem_append.mp q with q | q
    · have := List.mem_singleton.mp q
      omega
    · exact ht.2.1 q
  · rcases List.mem_append.mp hc with q | q
    · rw [List.mem_singleton.mp q]; omega
    · exact ht.2.2 c q
theorem pC_ok (n : Int) : okPc (pC n).cps.toList := by
  refine getD_of (P := fun x => okPc x.cps.toList) (k := 8) rfl (fun x hx => ?_) (fmod_lo _ (by decide)) (fmod_hi _ (by decide))
  simp only [List.mem_cons, List.not_mem_nil, or_false] at hx
  rcases hx with rfl | rfl | rfl | rfl | rfl | rfl | rfl | rfl
  · exact okPc_dec _ (by decide +kernel)
  · exact okPc_dec _ (by decide +kernel)
  · exact okPc_dec _ (by decide +kernel)
  · exact okPc_dec _ (by decide +kernel)
  · exact okPc_dec _ (by decide +kernel)
  · exact okPc_dec _ (by decide +kernel)
  · have := odd_ok n [] ⟨by simp, by simp, fun _ h => (nomatch h)⟩
    rwa [List.append_nil] at this
  · rw [cps_app]
    have e : (Str.ofString "*").cps.toList = [42] := by decide +kernel
    rw [e]
    exact odd_ok n [42] ⟨by simp, by simp, fun c hc => by rw [List.mem_singleton.mp hc]; decide⟩
theorem name_it (n : Int) : ∃ x : It, x.Ok ∧ lawName n = x.str := by
  have hA := pA_ok n
  have hB := pB_ok n
  have hC := pC_ok n
  have l0 := fmod_lo n (n := 2) (by decide)
  have l1 := fmod_hi n (n := 2) (by decide)
  have d0 := fmod_lo (n.fdiv 2) (n := 3) (by decide)
  have d1 := fmod_hi (n.fdiv 2) (n := 3) (by decide)
  unfold lawName
  have hlast : ∃ b : Bool, ([Str.ofString "", Str.ofString "/"].getD (n.fmod 2).toNat Str.empty).cps.toList = if b then [47] else [] := by
    have : n.fmod 2 = 0 ∨ n.fmod 2 = 1 := by omega
    rcases this with h | h
    · exact ⟨false, by rw [h]; exact cps_empty⟩
    · exact ⟨true, by rw [h]; exact e47⟩
  (refine ex1E hlast fun b hb => ?_; try clear hlast)
  have hd : (n.fdiv 2).fmod 3 = 0 ∨ (n.fdiv 2).fmod 3 = 1 ∨ (n.fdiv 2).fmod 3 = 2 := by omega
  rcases hd with h | h | h
  · refine ⟨⟨[], (pA n).cps.toList, b⟩, ⟨fun _ h => (nomatch h), hA, Nat.zero_le _⟩, str_ext ?_⟩
    rw [h, cps_app, hb, mk_eq, mk_cps]
    rfl
  · refine ⟨⟨[(pA n).cps.toList], (pB n).cps.toList, b⟩, ⟨fun p hp => by rw [List.mem_singleton.mp hp]; exact hA, hB, (by simp : ([(pA n).cps.toList] : List (List Nat)).length ≤ 2)⟩, str_ext ?_⟩
    rw [h, cps_app, hb, mk_eq, mk_cps]
    unfold It.code
    show (pA n ++ Str.ofString "/" ++ pB n).cps.toList ++ _ = _
    rw [cps_app, cps_app, e47, dir_one]
  · refine ⟨⟨[(pA n).cps.toList, (pB n).cps.toList], (pC n).cps.toList, b⟩, ⟨fun p hp => ?_, hC, (by simp : ([(pA n).cps.toList, (pB n).cps.toList] : List (List Nat)).length ≤ 2)⟩, str_ext ?_⟩
    · simp only [List.mem_cons, List.not_mem_nil, or_false] at hp
      rcases hp with rfl | rfl
      · exact hA
      · exact hB
    rw [h, cps_app, hb, mk_eq, mk_cps]
    unfold It.code
    show (pA n ++ Str.ofString "/" ++ (pB n ++ Str.ofString "/" ++ pC n)).cps.toList ++ _ = _
    rw [cps_app, cps_app, cps_app, cps_app, e47, dir_cons, dir_one]
    simp
theorem names_in (l : List Int) : (∀ s ∈ namesOf l, ∃ n, s = lawName n) ∧ (namesOf l).Nodup := by
  have key : ∀ (l : List Int) (a : List Str), (∀ s ∈ a, ∃ n, s = lawName n) → a.Nodup → (∀ s ∈ l.foldl namesF a, ∃ n, s = lawName n) ∧ (l.foldl namesF a).Nodup := by
    intro l
    induction l with
    | nil => exact fun a h1 h2 => ⟨h1, h2⟩
    | cons n l ih =>
      intro a h1 h2
      refine ih (namesF a n) ?_ ?_
      · intro s hs
        unfold namesF at hs
        split at hs
        · exact h1 s hs
        · rcases List.mem_append.mp hs with hs | hs
          · exact h1 s hs
          · exact ⟨n, List.mem_singleton.mp hs⟩
      · unfold namesF
        split
        · exact h2
        · rename_i hn
          refine List.nodup_append.mpr ⟨h2, List.nodup_cons.mpr ⟨by simp, List.nodup_nil⟩, fun p hp q hq e => ?_⟩
          rw [List.mem_singleton.mp hq] at e
          exact hn (List.contains_iff_mem.mpr (e ▸ hp))
  exact key l [] (fun _ h => (nomatch h)) List.nodup_nil
theorem its_of : ∀ (names : List Str), (∀ s ∈ names, ∃ x : It, x.Ok ∧ s = x.str) → ∃ NI : List It, (∀ x ∈ NI, x.Ok) ∧ NI.map It.str = names
  | [], _ => ⟨[], fun _ h => (nomatch h), rfl⟩
  | s :: r, h => by
    (refine ex1E (its_of r fun t ht => h t (.tail _ ht)) fun NI qq1 => ?_; refine and2E qq1 fun h1 h2 => ?_; try clear qq1)
    (refine ex1E (h s (.head _)) fun x qq1 => ?_; refine and2E qq1 fun hx qq11 => ?_; try clear qq1; rcases qq11 with rfl)
    exact ⟨x :: NI, fun y hy => by
      rcases List.mem_cons.mp hy with rfl | hy
      · exact hx
      · exact h1 y hy, by rw [List.map_cons, h2]⟩
theorem law_facts (ns : List Int) : ∃ pars resU resL, Facts (namesOf (numsOf ns)) pars resU resL := by
  refine and2E (names_in (numsOf ns)) fun h1 h2 => ?_
  obtain ⟨NI, hok, he⟩ := its_of (namesOf (numsOf ns)) fun s hs => by
    (refine ex1E (h1 s hs) fun n qq1 => ?_; rcases qq1 with rfl)
    exact name_it n
  have hlen : NI.length ≤ 2 := by
    have e := congrArg List.length he
    rw [List.length_map] at e
    rw [e]
    exact Nat.le_trans (namesOf_len _) (numsOf_len ns)
  refine ⟨parsC, resU, resL, ?_⟩
  have := facts_of hok (by rw [he]; exact h2) hlen
  rwa [show nmO NI = namesOf (numsOf ns) from he] at this
end Mine
end
end
section
set_option maxRecDepth 100000
set_option maxRecDepth 100000 
set_option maxHeartbeats 8000000 
namespace Mine
theorem x.tw10009160832155050540 : True := trivial
theorem x.tw14015909994521340511 : True := trivial
theorem x.tw1001532501855727302 : True := trivial
theorem x.tw10066789104696453630 : True := trivial
theorem x.tw1010278578411500068 : True := trivial
theorem x.tw10143683596295001876 : True := trivial
theorem x.tw10197060477242211412 : True := trivial
theorem x.tw10337713858166904036 : True := trivial
theorem x.tw10346329977637754999 : True := trivial
theorem x.tw10371146168739184225 : True := trivial
theorem x.tw10413092625324450665 : True := trivial
theorem x.tw10460298856954944025 : True := trivial
theorem x.tw10466111936039050714 : True := trivial
theorem x.tw10480007635166841858 : True := trivial
theorem x.tw10525739240252636989 : True := trivial
theorem x.tw10569255382827478549 : True := trivial
theorem x.tw10673936430186922526 : True := trivial
theorem x.tw10724780829119155504 : True := trivial
theorem x.tw1076621120908848105 : True := trivial
theorem x.tw10859420416805914402 : True := trivial
theorem x.tw10882022406747698613 : True := trivial
theorem x.tw1097803916355987652 : True := trivial
theorem x.tw10998017406588778082 : True := trivial
theorem x.tw11056991932378524925 : True := trivial
theorem x.tw11152097150223382674 : True := trivial
theorem x.tw11174138412563079361 : True := trivial
theorem x.tw11319167905923645376 : True := trivial
theorem x.tw11343254904205467920 : True := trivial
theorem x.tw11385762947692907880 : True := trivial
theorem x.tw1139522334345932651 : True := trivial
theorem x.tw11508047845633804919 : True := trivial
theorem x.tw11514130945867980463 : True := trivial
theorem x.tw11567505412842260901 : True := trivial
theorem x.tw11653083676658106259 : True := trivial
theorem x.tw11675175551037193828 : True := trivial
theorem x.tw11684907989203289189 : True := trivial
theorem x.tw11688834654921182271 : True := trivial
theorem x.tw11775502517900509241 : True := trivial
theorem x.tw1178663802933040105 : True := trivial
theorem x.tw11802279843911420041 : True := trivial
theorem x.tw11830229877695963470 : True := trivial
theorem x.tw11833552190071727148 : True := trivial
theorem x.tw11884053099720892034 : True := trivial
theorem x.tw11996299347161798078 : True := trivial
theorem x.tw12050092048000602370 : True := trivial
theorem x.tw12063771883288316417 : True := trivial
theorem x.tw12106543564560068109 : True := trivial
theorem x.tw12169041612342730399 : True := trivial
theorem x.tw12276881211793034252 : True := trivial
theorem x.tw12300088240222704753 : True := trivial
theorem x.tw12357257306730215335 : True := trivial
theorem x.tw12367718855211790098 : True := trivial
theorem x.tw12387249792668917091 : True := trivial
theorem x.tw12401680339523607464 : True := trivial
theorem x.tw12417803773081363574 : True := trivial
theorem x.tw12549659723121084872 : True := trivial
theorem x.tw1261695478015965603 : True := trivial
theorem x.tw12738833279926380175 : True := trivial
theorem x.tw12757561806736355991 : True := trivial
theorem x.tw12772063586948721766 : True := trivial
theorem x.tw12787705279609391932 : True := trivial
theorem x.tw12880229461769388268 : True := trivial
theorem x.tw1289512422494975558 : True := trivial
theorem x.tw12924040417176290631 : True := trivial
theorem x.tw12988179844777574384 : True := trivial
theorem x.tw130538918849092870 : True := trivial
theorem x.tw13059714073094251291 : True := trivial
theorem x.tw13072373567515480538 : True := trivial
theorem x.tw13100875268800688032 : True := trivial
theorem x.tw13139566152826953669 : True := trivial
theorem x.tw13195642155748614843 : True := trivial
theorem x.tw13286133675680583024 : True := trivial
theorem x.tw13305670851187372719 : True := trivial
theorem x.tw13313892878447484956 : True := trivial
theorem x.tw13348930880337077077 : True := trivial
theorem x.tw13367855428709287406 : True := trivial
theorem x.tw13403570412754392248 : True := trivial
theorem x.tw13407300215643200283 : True := trivial
theorem x.tw13456645568142478491 : True := trivial
theorem x.tw1345936403204691166 : True := trivial
theorem x.tw13632003978631607906 : True := trivial
theorem x.tw13657006849385425660 : True := trivial
theorem x.tw13681343968574968315 : True := trivial
theorem x.tw13711423582505523536 : True := trivial
theorem x.tw13757659492081354683 : True := trivial
theorem x.tw13823262042489722122 : True := trivial
theorem x.tw13824257015375245630 : True := trivial
theorem x.tw13828126567919435374 : True := trivial
theorem x.tw13858607164585766432 : True := trivial
theorem x.tw13895047746455341852 : True := trivial
theorem x.tw13911296529826804998 : True := trivial
theorem x.tw13936901014447363458 : True := trivial
theorem x.tw13983588808995212183 : True := trivial
theorem x.tw13995897299514615827 : True := trivial
theorem x.tw1404283574385323387 : True := trivial
theorem x.tw14051697836500468376 : True := trivial
theorem x.tw14055956709092989468 : True := trivial
theorem x.tw14209563519764628652 : True := trivial
theorem x.tw14368359798748637774 : True := trivial
theorem x.tw14495197485289896433 : True := trivial
theorem x.tw14527931800672545638 : True := trivial
theorem x.tw14586578672885659358 : True := trivial
theorem x.tw14621089452471173696 : True := trivial
theorem x.tw14650118311285502376 : True := trivial
theorem x.tw14662017234343769399 : True := trivial
theorem x.tw1477827691589033132 : True := trivial
theorem x.tw14939703982172950363 : True := trivial
theorem x.tw14974230086960928689 : True := trivial
theorem x.tw14999265818433713255 : True := trivial
theorem x.tw15100461006478070828 : True := trivial
theorem x.tw15184691498586164575 : True := trivial
theorem x.tw15245849869452018419 : True := trivial
theorem x.tw15291912424312321969 : True := trivial
theorem x.tw15460409358483588172 : True := trivial
theorem x.tw15463307242940609706 : True := trivial
theorem x.tw15533313513226432012 : True := trivial
theorem x.tw15583775511102383754 : True := trivial
theorem x.tw15606782457214070813 : True := trivial
theorem x.tw15648410685930854495 : True := trivial
theorem x.tw15678699275516499568 : True := trivial
theorem x.tw15697136923583208866 : True := trivial
theorem x.tw15745935162226931066 : True := trivial
theorem x.tw15748826475244354759 : True := trivial
theorem x.tw15760408904987761211 : True := trivial
theorem x.tw15770187537463389305 : True := trivial
theorem x.tw15790202034449545521 : True := trivial
theorem x.tw15960217252020907611 : True := trivial
theorem x.tw15962880341721773323 : True := trivial
theorem x.tw16038860612583932308 : True := trivial
theorem x.tw16040622176275991977 : True := trivial
theorem x.tw16044349837289093929 : True := trivial
theorem x.tw16124165753812819439 : True := trivial
theorem x.tw16167902273723282199 : True := trivial
theorem x.tw16187215726934328039 : True := trivial
theorem x.tw16193708197277403873 : True := trivial
theorem x.tw16203776201559779557 : True := trivial
theorem x.tw16219133078508084671 : True := trivial
theorem x.tw16223593320909980816 : True := trivial
theorem x.tw16301518507416477118 : True := trivial
theorem x.tw16343485113875459693 : True := trivial
theorem x.tw16344940085568571254 : True := trivial
theorem x.tw16407658361398169443 : True := trivial
theorem x.tw16530866331073812311 : True := trivial
theorem x.tw16536999227839875558 : True := trivial
theorem x.tw16556348584133028553 : True := trivial
theorem x.tw16617684350325261552 : True := trivial
theorem x.tw1662353425484187019 : True := trivial
theorem x.tw16624541281840933487 : True := trivial
theorem x.tw16663062122981194292 : True := trivial
theorem x.tw16681757536518889665 : True := trivial
theorem x.tw16784924497452670408 : True := trivial
theorem x.tw16787196963380032622 : True := trivial
theorem x.tw16868963979869652963 : True := trivial
theorem x.tw16883198435377461662 : True := trivial
theorem x.tw16907680863837237588 : True := trivial
theorem x.tw16947352427982325814 : True := trivial
theorem x.tw17203731521321720278 : True := trivial
theorem x.tw17275957359131114796 : True := trivial
theorem x.tw17334005214373140102 : True := trivial
theorem x.tw17419387651419486179 : True := trivial
theorem x.tw17493980709996516748 : True := trivial
theorem x.tw17496645218821445055 : True := trivial
theorem x.tw17508591134574701350 : True := trivial
theorem x.tw17556134957864280480 : True := trivial
theorem x.tw17582118683515635218 : True := trivial
theorem x.tw1762852492130322403 : True := trivial
theorem x.tw17654450329316414843 : True := trivial
theorem x.tw1767159973603763557 : True := trivial
theorem x.tw17688354173212926204 : True := trivial
theorem x.tw17688814690812621077 : True := trivial
theorem x.tw17697553771371389610 : True := trivial
theorem x.tw17741651821863825309 : True := trivial
theorem x.tw17751287409962625766 : True := trivial
theorem x.tw17763697576014548745 : True := trivial
theorem x.tw18009941181672653003 : True := trivial
theorem x.tw18014105477128201965 : True := trivial
theorem x.tw18193032549937625168 : True := trivial
theorem x.tw1821356758316432043 : True := trivial
theorem x.tw18240647713423042901 : True := trivial
theorem x.tw18244996135818526801 : True := trivial
theorem x.tw18260904453595140088 : True := trivial
theorem x.tw18352100373457070722 : True := trivial
theorem x.tw1843265426918247775 : True := trivial
theorem x.tw18441254240430968841 : True := trivial
theorem x.tw1846702302530707924 : True := trivial
theorem x.tw1897911926255972164 : True := trivial
theorem x.tw1902994482729452793 : True := trivial
theorem x.tw1935408541230081536 : True := trivial
theorem x.tw2031537917373578216 : True := trivial
theorem x.tw2080181832756378157 : True := trivial
theorem x.tw2149461152611864792 : True := trivial
theorem x.tw2158287766650901963 : True := trivial
theorem x.tw2166876198139919036 : True := trivial
theorem x.tw2180225598519881482 : True := trivial
theorem x.tw2181795950510259404 : True := trivial
theorem x.tw2297875269983110331 : True := trivial
theorem x.tw2404616053102950914 : True := trivial
theorem x.tw2430407081202438575 : True := trivial
theorem x.tw2488568755365922908 : True := trivial
theorem x.tw2501844482822224543 : True := trivial
theorem x.tw2511845003084617712 : True := trivial
theorem x.tw2526065683336569023 : True := trivial
theorem x.tw2549776721130494238 : True := trivial
theorem x.tw2584718264677838860 : True := trivial
theorem x.tw2760173994756918302 : True := trivial
theorem x.tw2877658537131324672 : True := trivial
theorem x.tw3027998181802080152 : True := trivial
theorem x.tw3057805363477927155 : True := trivial
theorem x.tw3086963543650188869 : True := trivial
theorem x.tw319455692255987101 : True := trivial
theorem x.tw3244176093233234941 : True := trivial
theorem x.tw3299604873197239558 : True := trivial
theorem x.tw3311523112795634796 : True := trivial
theorem x.tw3381116527526471741 : True := trivial
theorem x.tw3426142875666511927 : True := trivial
theorem x.tw3451411277532209348 : True := trivial
theorem x.tw3461889752873945555 : True := trivial
theorem x.tw3466878022938733119 : True := trivial
theorem x.tw3539669927792657173 : True := trivial
theorem x.tw3544861720533446463 : True := trivial
theorem x.tw3629681586767258163 : True := trivial
theorem x.tw3698016540019659808 : True := trivial
theorem x.tw3710745936682407702 : True := trivial
theorem x.tw3810043677469060461 : True := trivial
theorem x.tw3823393467520340937 : True := trivial
theorem x.tw3940760235686430646 : True := trivial
theorem x.tw3982767343906483923 : True := trivial
theorem x.tw4003381714396428845 : True := trivial
theorem x.tw4038705184777265236 : True := trivial
theorem x.tw4038942041888356482 : True := trivial
theorem x.tw4109133943812738124 : True := trivial
theorem x.tw4142613276202127484 : True := trivial
theorem x.tw4203466863050935155 : True := trivial
theorem x.tw425577058982374745 : True := trivial
theorem x.tw4298905093436458867 : True := trivial
theorem x.tw4299154929937433062 : True := trivial
theorem x.tw440316659002846147 : True := trivial
theorem x.tw4418804259831603743 : True := trivial
theorem x.tw4480785986044517063 : True := trivial
theorem x.tw4516934810934743915 : True := trivial
theorem x.tw4660150741601667129 : True := trivial
theorem x.tw4694664066096678178 : True := trivial
theorem x.tw4714559208125513537 : True := trivial
theorem x.tw4887581132121337529 : True := trivial
theorem x.tw4927466292544012243 : True := trivial
theorem x.tw49713287916457498 : True := trivial
theorem x.tw5090975748541532068 : True := trivial
theorem x.tw5184104560716531515 : True := trivial
theorem x.tw5234200816470371192 : True := trivial
theorem x.tw5242678646174946427 : True := trivial
theorem x.tw5285631970104304785 : True := trivial
theorem x.tw5291674161435922711 : True := trivial
theorem x.tw5392971455435801587 : True := trivial
theorem x.tw5410891375964392537 : True := trivial
theorem x.tw5437396367860926943 : True := trivial
theorem x.tw5581037827576068036 : True := trivial
theorem x.tw5583634615163143405 : True := trivial
theorem x.tw5602930417054111180 : True := trivial
theorem x.tw5649184971023305162 : True := trivial
theorem x.tw5654415358209667011 : True := trivial
theorem x.tw5772376387604637113 : True := trivial
theorem x.tw5804698522729214953 : True := trivial
theorem x.tw5808590020691599037 : True := trivial
theorem x.tw5856206737009023789 : True := trivial
theorem x.tw5893276544300161504 : True := trivial
theorem x.tw5954354089254162079 : True := trivial
theorem x.tw5958606906457257584 : True := trivial
theorem x.tw5977407392303757512 : True := trivial
theorem x.tw6024237633146544035 : True := trivial
theorem x.tw6217951716010286405 : True := trivial
theorem x.tw6230900161991319656 : True := trivial
theorem x.tw6284766367696213396 : True := trivial
theorem x.tw6290921284420106355 : True := trivial
theorem x.tw6339403888225495969 : True := trivial
theorem x.tw6345953086543602152 : True := trivial
theorem x.tw6627392688554552786 : True := trivial
theorem x.tw6636379785725748586 : True := trivial
theorem x.tw6715582631108203782 : True := trivial
theorem x.tw6759392236005662302 : True := trivial
theorem x.tw6767476802192174378 : True := trivial
theorem x.tw6802943048862258988 : True := trivial
theorem x.tw6805995646604004565 : True := trivial
theorem x.tw6862312581082028991 : True := trivial
theorem x.tw6931795903576569165 : True := trivial
theorem x.tw6951812566655092841 : True := trivial
theorem x.tw6989446947585797888 : True := trivial
theorem x.tw6995121177932976223 : True := trivial
theorem x.tw7041645026019704455 : True := trivial
theorem x.tw7099823835032311688 : True := trivial
theorem x.tw7154660803688209970 : True := trivial
theorem x.tw7158884164066108494 : True := trivial
theorem x.tw7181184395409326018 : True := trivial
theorem x.tw7183861170195939383 : True := trivial
theorem x.tw7190533115771480026 : True := trivial
theorem x.tw7338171149653478835 : True := trivial
theorem x.tw7358013361742234465 : True := trivial
theorem x.tw7364939747836815087 : True := trivial
theorem x.tw7454299920706803588 : True := trivial
theorem x.tw7518089445212344763 : True := trivial
theorem x.tw7670066692240471240 : True := trivial
theorem x.tw7687100253586816798 : True := trivial
theorem x.tw7697755396396250407 : True := trivial
theorem x.tw7703679518562440815 : True := trivial
theorem x.tw7786383420094719546 : True := trivial
theorem x.tw7851465932976235069 : True := trivial
theorem x.tw7868443895440054513 : True := trivial
theorem x.tw8008398115293277242 : True := trivial
theorem x.tw8049557507956667021 : True := trivial
theorem x.tw8116910756286915513 : True := trivial
theorem x.tw8129337695813753353 : True := trivial
theorem x.tw8295769145949407962 : True := trivial
theorem x.tw8330786902165484725 : True := trivial
theorem x.tw8354809705143952458 : True := trivial
theorem x.tw8483333946443995097 : True := trivial
theorem x.tw8531953543385938971 : True := trivial
theorem x.tw8540945352355467043 : True := trivial
theorem x.tw8546214764176123718 : True := trivial
theorem x.tw8604951737876342204 : True := trivial
theorem x.tw8736992419225296177 : True := trivial
theorem x.tw8834734013172818746 : True := trivial
theorem x.tw8862085202078358756 : True := trivial
theorem x.tw8915487677836490091 : True := trivial
theorem x.tw8956922662521677391 : True := trivial
theorem x.tw9050724817417517336 : True := trivial
theorem x.tw9066077841748542883 : True := trivial
theorem x.tw9084636662999748164 : True := trivial
theorem x.tw9087499442634988833 : True := trivial
theorem x.tw9139255790431897975 : True := trivial
theorem x.tw918223081665066280 : True := trivial
theorem x.tw9185333269093378783 : True := trivial
theorem x.tw9253478511937957935 : True := trivial
theorem x.tw9275346360590289224 : True := trivial
theorem x.tw9335506418633193063 : True := trivial
theorem x.tw9385763043660645162 : True := trivial
theorem x.tw9423116016098024916 : True := trivial
theorem x.tw9430903384709548213 : True := trivial
theorem x.tw943852492095733741 : True := trivial
theorem x.tw9512345847452006689 : True := trivial
theorem x.tw9523723680188670232 : True := trivial
theorem x.tw9538734771886776428 : True := trivial
theorem x.tw959539052053523944 : True := trivial
theorem x.tw9672054136945872338 : True := trivial
theorem x.tw9676928168173354700 : True := trivial
theorem x.tw9713188542265932139 : True := trivial
theorem x.tw9725382588578855575 : True := trivial
theorem x.tw9734139578838640468 : True := trivial
theorem x.tw974576807944425255 : True := trivial
theorem x.tw9858674147946454049 : True := trivial
theorem x.tw9967297903219515893 : True := trivial
theorem x.tw9989011559646604282 : True := trivial
local macro_rules | `(tactic| kn_posts) => `(tactic| k_extra "kn_posts")
theorem lx_W : True := by
  k_with_none
  k_with "kn_posts" => refine Mine.kn_postG hT9 (fun _ _ => rfl) ?_
  trivial
set_option Elab.async true in
theorem x : PySem.Challenge.rw_ij0107_01.Holds := by
  w_on
  o_law
  o_head (kmHook Mine.hd.heap_1_1 [2, 3, 32, 34, 35, 37, 38, 39, 41, 42, 44, 45, 46, 48, 49, 51, 52, 60, 61, 63, 64, 66, 67, 68, 70, 71, 73, 74, 75, 77, 78, 80, 81, 82, 84, 85, 86, 87, 88, 89, 90, 100, 101, 103, 104, 106, 107, 108, 110, 111, 113, 114, 115, 117, 118, 120, 121, 122, 124, 125, 126, 127, 130, 132, 133, 135, 136, 137, 139, 140, 142, 143, 144, 146, 147, 149, 150, 151, 153, 154, 156, 157, 158, 160, 161, 163, 164, 165, 166, 168, 169, 171, 172, 176, 177, 178, 180, 181, 183, 184, 186, 190, 192, 193, 195, 196, 197, 199, 200, 202, 203, 204, 206, 207, 209, 210, 211, 213, 214, 216, 217, 218, 220, 221, 223, 224, 225, 227, 228, 230, 231, 232, 235, 236, 237, 240, 241, 242, 245, 246, 247, 249, 250, 252, 253, 254, 257, 258] (fun _ => by kernel_rfl) [198])
  case hw => w_witness2
  k_go0
  all_goals try k_fold
  rename News _ _ _ _ => N0
  rename Fr _ _ _ _ => F0
  rename Below _ _ _ _ => B0
  rename Top topProg _ _ _ _ _ => T0
  rename Frag.In (hd.heap_1_1 _) (ghostOf _ _) => X0
  rename IntsAre _ _ => I0
  rename @LT.lt Addr _ 198 _ => l0
  rename Obj.data _ = Data.cell _ => d1
  revert d1
  rename Obj.data _ = Data.cell _ => d2
  revert d2
  rename Obj.data _ = Data.cell _ => d3
  revert d3
  rename Obj.data _ = Data.cell _ => d4
  revert d4
  rename Obj.data _ = Data.cell _ => d5
  revert d5
  rename Obj.data _ = Data.cell _ => d6
  intro d5 d4 d3 d2 d1
  rename ¬ _ < _ => hl0
  obtain ⟨pars, resU, resL, H⟩ := law_facts _
  refine law_chain (A₀ := callerA) (outer := []) _ ⟨X0, T0, B0, rfl, rfl⟩ ?h198 ?hdp ?hun ?ok (by assumption) I0 ?hlen ?hm ?hb (d1.trans ?z1) (d2.trans ?z2) (d3.trans ?z3) (d4.trans ?z4) (d5.trans ?z5) (d6.trans ?z6) ?hE H F0 N0 ?kend
  case h198 => (rw [show (ghostOf _ _).objs.size = _ from hideAll_size _ _]; exact l0)
  case hlen => omega
  case ok => exact ⟨trivial, fun c h => (by cases h)⟩
  case hm => rfl
  case hb => exact AllBare.of_eq (by assumption)
  case z1 => rfl
  case z2 => rfl
  case z3 => rfl
  case z4 => rfl
  case z5 => rfl
  case z6 => rfl
  case hE => with_unfolding_all passes_own
  case kend =>
    intro o1 o2 o3 o4 o5 o6 ps' back h' tk m' gs ok' hb' F' N'
    refine ⟨⟨_, .bool true, rfl, .bool true, ?pst⟩, F'.keep, rfl, hb', ⟨ps', (N' (198, tabObj ps') (by repeat (first | exact .head _ | apply List.Mem.tail))).1⟩, trivial⟩
    first | kc_post | wrow_post
  case hdp => exact Nat.le_of_ble_eq_true rfl
  case hun => exact Nat.le_of_ble_eq_true rfl
end Mine
end
theorem PySem.Challenge.cw_ij0107_01_holds : PySem.Challenge.rw_ij0107_01.Holds :=
  Mine.x
